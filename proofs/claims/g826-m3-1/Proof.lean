import JvmDerived
import JvmDerived.Pilot.@@N@@Statement
import JvmDerived.Pilot.@@N@@Code
set_option linter.unusedVariables false
set_option linter.unusedSimpArgs false
@@BLOCK:HandJ.lean.txt@@
@@BLOCK:SymMore.lean.txt@@
namespace Jvm.RoadKit
open Sem ClassFile Op Lib Jvm.Stand Jvm.Free Jvm.LawKit
section Own
variable {p : Program} {l : Launch} {e : Env} {R : Room} {s : State} {m : MethodId} {args : Array Value} {below : List Frame} {meth : Method} {c : Code} {T : State} {locs : List Loc} {cells slots : Nat} {Q : Option Value → Heap → List Loc → Prop} {kc ks : Nat}
/-- the run from S comes to its end and leaves what Q says -/
def own_Fin (p : Program) (e : Env) (below : List Frame) (s : State) (kc ks : Nat) (Q : Option Value → Heap → List Loc → Prop) (S : State) : Prop :=
  ∃ U o, Steps p.tables e below S U ∧ U.status = .running ∧ Ended U below o ∧ ∃ v L, o = .returned v ∧ Q v U.heap L ∧ FrameEnd s o U L kc ks
theorem own_step {S S' : State} (h : ∀ t, Steps p.tables e below S' t → Steps p.tables e below S t) (k : own_Fin p e below s kc ks Q S') : own_Fin p e below s kc ks Q S := by
  obtain ⟨U, o, h1, r⟩ := k
  exact ⟨U, o, h _ h1, r⟩
theorem own_ret (X : Stand p l e R s m args below meth c T locs cells slots) (hlk : meth.locks = false) {v : Option Value} (hv : meth.sig.returnType = none → v = none) (hc : cells ≤ kc) (hs : slots ≤ ks) (hQ : Q v T.heap locs) {S : State}
    (hst : ∀ fs, (∀ (f : JFrame) (acts : List Action), f.method = m → f.locked = none → f.entered = [] → (doReturn e (T.setTop f) acts v).1 = T.setFrames fs) → Steps p.tables e below S (T.setFrames fs)) : own_Fin p e below s kc ks Q S := by
  obtain ⟨fs, hr, hrun, hended, hW, hsame⟩ := X.leave (v := v) hv hlk
  exact ⟨_, _, hst fs hr, hrun, hended, _, _, rfl, hQ, ⟨_, rfl⟩, hW, hsame.mono hc hs⟩
def own_FinW (p : Program) (e : Env) (below : List Frame) (s : State) (kc ks : Nat) (Q : Option Value → Heap → List Loc → Prop) (S : State) : Prop :=
  ∃ U o, Steps p.tables e below S U ∧ U.status = .running ∧ Ended U below o ∧ ∃ v L, o = .returned v ∧ Q v U.heap L ∧ ReturnedEndW s o U L kc ks
theorem own_stepW {S S' : State} (h : ∀ t, Steps p.tables e below S' t → Steps p.tables e below S t) (k : own_FinW p e below s kc ks Q S') : own_FinW p e below s kc ks Q S := by
  obtain ⟨U, o, h1, r⟩ := k
  exact ⟨U, o, h _ h1, r⟩
theorem own_retW {vm1 : Vm} (X : Stand p l e R (s.setVm vm1) m args below meth c T locs cells slots) (hlk : meth.locks = false) {n : Nat} (hS : s.Since vm1 n) {h : Heap} (eT : T.heap = h) (hn : n ≤ h.size) {v : Option Value} (hv : meth.sig.returnType = none → v = none) (hc : cells ≤ kc) (hs : slots ≤ ks) (hQ : Q v T.heap locs) {S : State}
    (hst : ∀ fs, (∀ (f : JFrame) (acts : List Action), f.method = m → f.locked = none → f.entered = [] → (doReturn e (T.setTop f) acts v).1 = T.setFrames fs) → Steps p.tables e below S (T.setFrames fs)) : own_FinW p e below s kc ks Q S := by
  obtain ⟨fs, hr, hrun, hended, hE⟩ := X.leaveW hS (by rw [eT]; exact hn) (v := v) hv hlk
  exact ⟨_, _, hst fs hr, hrun, hended, _, _, rfl, hQ, hE.1, hE.2.1, hE.2.2.1, hE.2.2.2.mono hc hs⟩
theorem own_castW {g g' : JFrame} (q : g = g') (k : own_FinW p e below s kc ks Q (T.setTop g')) : own_FinW p e below s kc ks Q (T.setTop g) := q ▸ k
theorem own_abs1 {F : UInt64 → Prop} {e : UInt64} (k : ∀ x, x = e → F x) : F e := k e rfl
theorem own_m0 : Jvm.Free.Fl.Mag64 1 FP.dconst0 := by unfold Jvm.Free.Fl.Mag64; decide
theorem own_mz : Jvm.Free.Fl.Mag64 1 (0 : UInt64) := by unfold Jvm.Free.Fl.Mag64; decide
theorem own_m1 : Jvm.Free.Fl.Mag64 1024 FP.dconst1 := by unfold Jvm.Free.Fl.Mag64; decide
/-- roads that meet again: what lies behind the meeting is walked once -/
theorem own_join {G : Prop} {F : State → Prop} (X : Stand p l e R s m args below meth c T locs cells slots) {h : Heap} (eT : T.heap = h) {β : Type} (g : β → JFrame) (hyp : β → Prop)
    (body : ∀ Tj : State, Stand p l e R s m args below meth c Tj locs cells slots → Tj.heap = h → ∀ b, hyp b → F (Tj.setTop (g b)))
    (cont : (∀ Tj : State, Stand p l e R s m args below meth c Tj locs cells slots → Tj.heap = h → ∀ b, hyp b → F (Tj.setTop (g b))) → G) : G := cont body
theorem own_ltn {n k j : Int32} (h : ¬ n < k) (q : j < k) : j < n := by
  rw [Int32.lt_iff_toInt_lt] at *
  omega
theorem own_cast {g g' : JFrame} (q : g = g') (k : own_Fin p e below s kc ks Q (T.setTop g')) : own_Fin p e below s kc ks Q (T.setTop g) := q ▸ k
theorem own_getJ {cl : Cell} {vs : List Int64} {j : Int32} (H : Has cl (vs.map Value.long) (.long 0)) (q : ¬ (j < 0 ∨ cl.slots.size ≤ j.toNatClampNeg)) : cl.slots[j.toNatClampNeg]? = some (.long (vs.getD j.toNatClampNeg 0)) := by
  refine Has.at H q ?_
  simp only [List.getD_eq_getElem?_getD, List.getElem?_map]
  cases vs[j.toNatClampNeg]? <;> rfl
def own_Nst (h : Heap) (x : Addr) : Prop := ∃ c : Cell, h[x]? = some c ∧ c.vm.isStatics = false
theorem own_nst_exa {Z : State} {h : Heap} {a : Addr} {C : String} (F : Exa Z h a C) : own_Nst h a := by
  obtain ⟨c, _, h1, _, _, h4, _⟩ := F
  exact ⟨c, h1, h4⟩
theorem own_nst_arv {Z : State} {h : Heap} {a : Addr} {k : ClassId} {ty : FieldType} {n : Int32} {vs : List Value} {d : Value} (F : Arv Z h a k ty n vs d) : own_Nst h a := by
  obtain ⟨c, A, _⟩ := F
  exact ⟨c, A.1, A.plain⟩
theorem own_sta_keep {Z : State} {h h' : Heap} {C n d : String} {v : Value} {ws : List Addr} (F : Sta Z h C n d v) (K : Keep h h' ws) (q : ∀ x ∈ ws, own_Nst h x) : Sta Z h' C n d v := by
  obtain ⟨cf, i, k, f, st, cell, h1, h2, h3, h4, h5, h6, h7⟩ := F
  refine ⟨cf, i, k, f, st, cell, h1, h2, h3, h4, K.2.1 _ _ h5 (fun z => ?_), h6, h7⟩
  obtain ⟨c, e1, e2⟩ := q _ z
  cases h5.symm.trans e1
  rw [h6] at e2
  cases e2
theorem own_sta_keep0 {Z : State} {h h' : Heap} {C n d : String} {v : Value} (F : Sta Z h C n d v) (K : Keep h h' []) : Sta Z h' C n d v := own_sta_keep F K (fun _ z => nomatch z)
end Own
section OwnStart
variable {args : Array Value} {Z : State} {t : Term} {a : Addr} {O n d : String}
theorem own_fldV {v : Value} (ev : t.eval args Z none [] Z = some (.ref a)) (h : (Term.field t O n d).eval args Z none [] Z = some v) : Fld Z Z.heap a O n d v := Fld.start ((fld_at ev).symm.trans h)
theorem own_len {cl : Cell} {ty : FieldType} {k : Int32} (ev : t.eval args Z none [] Z = some (.ref a)) (A : Arr Z Z.heap a cl ty) (h : (Cond.eq (.length t) (.int k)).value args Z none Z [] = some true) : cl.slots.size < 2 ^ 31 ∧ cl.slots.size.toInt32 = k := by
  have e := eqv_i (y := k) rfl h
  have ha := A.fin (Vm.Alike.refl _)
  by_cases q : cl.slots.size < 2 ^ 31
  · exact ⟨q, Value.int.inj (Option.some.inj ((len_f ev ha q).symm.trans e))⟩
  · simp [Term.eval, ev, ha, q] at e
theorem own_elI {cl : Cell} {ty : FieldType} {i k : Int32} (ev : t.eval args Z none [] Z = some (.ref a)) (A : Arr Z Z.heap a cl ty) (hi : ¬ i < 0) (h : (Cond.eq (.elem t (.int i)) (.int k)).value args Z none Z [] = some true) : cl.slots[i.toNatClampNeg]? = some (.int k) :=
  (elem_f ev rfl (A.fin (Vm.Alike.refl _)) hi).symm.trans (eqv_i (y := k) rfl h)
theorem own_elJ {cl : Cell} {ty : FieldType} {i : Int32} {k : Int64} (ev : t.eval args Z none [] Z = some (.ref a)) (A : Arr Z Z.heap a cl ty) (hi : ¬ i < 0) (h : (Cond.eq (.elem t (.int i)) (.long k)).value args Z none Z [] = some true) : cl.slots[i.toNatClampNeg]? = some (.long k) :=
  (elem_f ev rfl (A.fin (Vm.Alike.refl _)) hi).symm.trans (eqv_l (y := k) rfl h)
end OwnStart
end Jvm.RoadKit
namespace Jvm.Pilot.@@N@@
open Jvm Jvm.ClassFile Sem Op Lib Jvm.Free Jvm.Stand Jvm.LawKit Jvm.RoadKit Bundle Jvm.Pilot.@@N@@.Jvm.D
theorem own_w {ts : List Jvm.Cond} {Z : State} {a0 : Array Value} (hw : ∀ d ∈ ts, d.before a0 Z = true) (i : Nat) {d : Jvm.Cond} (h : ts[i]? = some d) : d.before a0 Z = true := hw d (List.mem_of_getElem? h)
theorem own_sa {Z : State} {a0 : Array Value} (hw : ∀ d ∈ tables_1, d.before a0 Z = true) : ∀ a ∈ Bundle.stringAtoms, a.before a0 Z = true := by
  intro a ha
  simp only [Bundle.stringAtoms, List.mem_cons, List.not_mem_nil, or_false] at ha
  rcases ha with rfl | rfl | rfl | rfl | rfl | rfl | rfl
  · exact (own_w hw 10 rfl)
  · exact (own_w hw 9 rfl)
  · exact (own_w hw 23 rfl)
  · exact (own_w hw 24 rfl)
  · exact (own_w hw 25 rfl)
  · exact (own_w hw 26 rfl)
  · exact (own_w hw 27 rfl)
abbrev own_S (Z : State) (h : Heap) (a b : Addr) (k : ClassId) (n v0 v1 v2 v3 : Int32) : Prop := Exa Z h a "java/lang/String" ∧ Fld Z h a "java/lang/String" "value" "[B" (.ref b) ∧ Fld Z h a "java/lang/String" "coder" "B" (.int (0 : Int32)) ∧ Arv Z h b k .byte n [.int v0, .int v1, .int v2, .int v3] (.int (0 : Int32))
abbrev own_B (Z : State) (h : Heap) (a b : Addr) (k : ClassId) (c m : Value) (v0 v1 v2 v3 : Int32) : Prop := Exa Z h a "java/lang/StringBuilder" ∧ Fld Z h a "java/lang/AbstractStringBuilder" "value" "[B" (.ref b) ∧ Fld Z h a "java/lang/AbstractStringBuilder" "coder" "B" (.int (0 : Int32)) ∧ Fld Z h a "java/lang/AbstractStringBuilder" "count" "I" c ∧ Fld Z h a "java/lang/AbstractStringBuilder" "maybeLatin1" "Z" m ∧ Arv Z h b k .byte (16 : Int32) [.int v0, .int v1, .int v2, .int v3] (.int (0 : Int32))
abbrev own_T (Z : State) (h : Heap) (a b : Addr) (k : ClassId) (n : Int32) (l : List Value) : Prop := Exa Z h a "java/lang/String" ∧ Fld Z h a "java/lang/String" "value" "[B" (.ref b) ∧ Fld Z h a "java/lang/String" "coder" "B" (.int (0 : Int32)) ∧ Arv Z h b k .byte n l (.int (0 : Int32))
abbrev own_U (Z : State) (h : Heap) (a b : Addr) (k : ClassId) (c m : Value) (l : List Value) : Prop := Exa Z h a "java/lang/StringBuilder" ∧ Fld Z h a "java/lang/AbstractStringBuilder" "value" "[B" (.ref b) ∧ Fld Z h a "java/lang/AbstractStringBuilder" "coder" "B" (.int (0 : Int32)) ∧ Fld Z h a "java/lang/AbstractStringBuilder" "count" "I" c ∧ Fld Z h a "java/lang/AbstractStringBuilder" "maybeLatin1" "Z" m ∧ Arv Z h b k .byte (16 : Int32) l (.int (0 : Int32))
/-- ld with n bytes of ls laid over it from c on -/
abbrev own_cat (ld ls : List Value) (c n : Int32) : List Value := ld.take c.toNatClampNeg ++ ((List.range n.toNatClampNeg).map fun i => ls.getD ((0 : Int32).toNatClampNeg + i) (.int (0 : Int32))) ++ ld.drop (c.toNatClampNeg + n.toNatClampNeg)
theorem own_shr0 (x : Int32) : (x >>> ((0 : Int32) &&& 31)) = x := by simp
theorem own_shl0 (x : Int32) : (x <<< ((0 : Int32) &&& 31)) = x := by simp
def own_L (n : Int32) : Prop := n = (0 : Int32) ∨ n = (1 : Int32) ∨ n = (2 : Int32)
theorem own_nf {a0 : Array Value} {Z : State} {C : String} {y y2 : MethodName} (h2 : (Cond.selects C y2 y2).before a0 Z = true) (hc : y2.cls = y.cls) : NotFace Z y := fun r0 h0 => by
  obtain ⟨c2, r2, m2, q1, q2, q3, q4, kP, hkP, hkPi⟩ := Cond.selects_spec h2
  have e1 := findClass_of_methodNamed h0
  have e2 := findClass_of_methodNamed q3
  rw [hc] at e2
  have e3 := Option.some.inj (e1.symm.trans e2)
  exact ⟨kP, by rw [e3]; exact hkP, hkPi⟩
theorem own_same {a0 : Array Value} {Z : State} {C : String} {y y2 : MethodName} (h1 : (Cond.instanceMethod y).before a0 Z = true) (h2 : (Cond.selects C y2 y2).before a0 Z = true) (hc : y2.cls = y.cls) (hy : y.cls ≠ "java/lang/invoke/MethodHandle" ∧ y.cls ≠ "java/lang/invoke/VarHandle") : (Cond.sameMethod y.cls y.cls y.name y.desc).before a0 Z = true := by
  obtain ⟨mk, methM, hnamed, hmethM, hstM, habM⟩ := Cond.instanceMethod_spec h1
  obtain ⟨kr, k1, k2⟩ := own_nf h2 hc mk hnamed
  have hf := findClass_of_methodNamed hnamed
  have e := State.methodFound?_of_named hnamed hy
  simp only [Cond.before, Cond.holds, Cond.value, hf, e]
  simp only [show Z.methodNamed? ⟨y.cls, y.name, y.desc⟩ = some mk from hnamed]
  rw [k1]
  simp [k2]
theorem own_decl {a0 : Array Value} {Z : State} {y : MethodName} {bytes : ByteArray} {n : Nat} {r : Option FieldType} (h1 : (Cond.instanceMethod y).before a0 Z = true) (h2 : (Cond.code y bytes n r).before a0 Z = true) : (Cond.declares y).before a0 Z = true := by
  obtain ⟨mk, methM, hnamed, hmethM, hstM, habM⟩ := Cond.instanceMethod_spec h1
  obtain ⟨methM', cM, hmethM', -, -, -, -, -, -, hsig⟩ := Cond.code_spec hnamed h2
  cases hmethM.symm.trans hmethM'
  simp only [Cond.before, Cond.holds, Cond.value, hnamed, Option.bind_some, hmethM, Option.map_some]
  simp [hstM, hsig]
theorem own_safe0 {Z : State} {EL : List (String × Nat)} {vm : Vm} {h : Heap} {x : Addr} (hal : Z.vm.Alike vm) (E : Exa Z h x "java/lang/String") (V0 : Fld Z h x "java/lang/String" "value" "[B" .null) : Safe Z EL vm h x := fun B => by
  obtain ⟨cell, k, e1, e2, e3, -, -⟩ := E
  have nm : ∀ {n : String} {c : ClassId}, vm.findClass n = some c → c = cell.cls → n = "java/lang/String" := fun {n c} f e => by
    subst e
    rw [hal.findClass] at f
    obtain ⟨k1, q1, q2⟩ := Vm.findClass_spec f
    obtain ⟨k2, q3, q4⟩ := Vm.findClass_spec e2
    cases q1.symm.trans q3
    exact q2.symm.trans q4
  obtain ⟨p, -, u, a, -, q, -, F, rfl | rfl⟩ := B
  · obtain ⟨cell', cf, kk, i, f, g1, g2, -, -, -, -, g7⟩ := V0
    cases (show h[q.sa]? = some q.sC from F.ha).symm.trans g1
    obtain ⟨cS, ⟨⟨-, -, -, ⟨c1, k1, i1, f1, -⟩, -, -, -, v1, -⟩, -⟩, -⟩ := F
    obtain ⟨k3, e4⟩ := ff_back (U := Wst Z vm h) hal f1
    have e5 := e4.symm.trans g2
    simp only [Option.some.injEq, Prod.mk.injEq] at e5
    rw [e5.2.2.2, g7] at v1
    simp at v1
  · cases (show h[q.sd]? = some q.SA from F.hd).symm.trans e1
    obtain ⟨cS, -, -, f, -⟩ := F
    exact absurd (nm f rfl) (by decide)
section OwnH
variable {p : Program} {l : Launch} {e : Env} {R : Room} {s : State} {m : MethodId} {args : Array Value} {below : List Frame} {meth : Method} {c : Code} {T : State} {locs : List Loc} {cells slots : Nat} {Q : Option Value → Heap → List Loc → Prop} {kc ks : Nat} {Z : State} {a0 : Array Value}
def own_FinH {Z : State} (p : Program) (e : Env) (below : List Frame) (s : State) (kc ks : Nat) (Q : Option Value → Heap → List Loc → Prop) (S : State) : Prop :=
  ∃ U o, Steps p.tables e below S U ∧ U.status = .running ∧ Ended U below o ∧ ∃ v L, o = .returned v ∧ Q v U.heap L ∧ CHr Z consts_1 s.vm s.heap U.vm U.heap ∧ ReturnedEndW s o U L kc ks
theorem own_stepH {S S' : State} (h : ∀ t, Steps p.tables e below S' t → Steps p.tables e below S t) (k : own_FinH (Z := Z) p e below s kc ks Q S') : own_FinH (Z := Z) p e below s kc ks Q S := by
  obtain ⟨U, o, h1, r⟩ := k
  exact ⟨U, o, h _ h1, r⟩
theorem own_castH {g g' : JFrame} (q : g = g') (k : own_FinH (Z := Z) p e below s kc ks Q (T.setTop g')) : own_FinH (Z := Z) p e below s kc ks Q (T.setTop g) := q ▸ k
theorem own_retH {vm1 : Vm} (X : Stand p l e R (s.setVm vm1) m args below meth c T locs cells slots) (hlk : meth.locks = false) {n : Nat} (hS : s.Since vm1 n) {h : Heap} (eT : T.heap = h) (hn : n ≤ h.size) (hZ : Z.Warmed39 (s.setVm vm1).vm) (hEL : EW Z a0 consts_1) (H : CHr Z consts_1 s.vm s.heap vm1 h) {v : Option Value} (hv : meth.sig.returnType = none → v = none) (hc : cells ≤ kc) (hs : slots ≤ ks) (hQ : Q v T.heap locs) {S : State}
    (hst : ∀ fs, (∀ (f : JFrame) (acts : List Action), f.method = m → f.locked = none → f.entered = [] → (doReturn e (T.setTop f) acts v).1 = T.setFrames fs) → Steps p.tables e below S (T.setFrames fs)) : own_FinH (Z := Z) p e below s kc ks Q S := by
  obtain ⟨fs, hr, hrun, hended, hE⟩ := X.leaveW hS (by rw [eT]; exact hn) (v := v) hv hlk
  refine ⟨_, _, hst fs hr, hrun, hended, _, _, rfl, hQ, ?_, hE.1, hE.2.1, hE.2.2.1, hE.2.2.2.mono hc hs⟩
  show CHr Z consts_1 s.vm s.heap T.vm T.heap
  subst eT
  exact H.trans (CHv.at X hZ hEL H.1)
end OwnH
theorem own_ew {Z : State} {a0 : Array Value} (hw : ∀ d ∈ tables_1, d.before a0 Z = true) : EW Z a0 consts_1 := EW.cons (own_w hw 37 rfl) (by decide) (EW.cons (own_w hw 22 rfl) (by decide) EW.nil)
theorem own_lem {n k j : Int32} (h : ¬ (n < k)) (q : j ≤ k) : ¬ (n < j) := fun z => h (Int32.lt_of_lt_of_le z q)
theorem own_c8 (x : Int32) : ¬ ((255 : Int32) < (x &&& (255 : Int32)).toUInt32.toUInt16.toUInt32.toInt32) := by
  simp only [Int32.lt_iff_toInt_lt, show (255 : Int32).toInt = 255 from by decide]
  have h1 : (x &&& (255 : Int32)).toInt = x.toInt % 256 := c_mask x _ 8 (by decide) (by decide)
  have h2 := c_i2c (x &&& (255 : Int32))
  omega
theorem own_c8n (x : Int32) : ¬ ((255 : Int32) < nar .char ((x &&& (255 : Int32)).toUInt32.toUInt16.toUInt32.toInt32)) := by
  have h0 := own_c8 x
  simp only [Int32.lt_iff_toInt_lt, show (255 : Int32).toInt = 255 from by decide] at *
  have h2 := c_i2c (x &&& (255 : Int32))
  have h3 := c_i2c ((x &&& (255 : Int32)).toUInt32.toUInt16.toUInt32.toInt32)
  simp only [nar]
  omega
theorem own_md (x : Int32) : (x &&& (3 : Int32)) = (0 : Int32) ∨ (x &&& (3 : Int32)) = (1 : Int32) ∨ (x &&& (3 : Int32)) = (2 : Int32) ∨ (x &&& (3 : Int32)) = (3 : Int32) := by
  have h1 : (x &&& (3 : Int32)).toInt = x.toInt % 4 := c_mask x _ 2 (by decide) (by decide)
  have h3 : (x &&& (3 : Int32)).toInt = 0 ∨ (x &&& (3 : Int32)).toInt = 1 ∨ (x &&& (3 : Int32)).toInt = 2 ∨ (x &&& (3 : Int32)).toInt = 3 := by omega
  rcases h3 with h | h | h | h
  · exact Or.inl (Int32.toInt_inj.mp (h.trans (by decide)))
  · exact Or.inr (Or.inl (Int32.toInt_inj.mp (h.trans (by decide))))
  · exact Or.inr (Or.inr (Or.inl (Int32.toInt_inj.mp (h.trans (by decide)))))
  · exact Or.inr (Or.inr (Or.inr (Int32.toInt_inj.mp (h.trans (by decide)))))
section OwnSlim
variable {l : Launch} {y : MethodName} {bytes : ByteArray} {ml : Nat} {r : Option FieldType} {ws : List Jvm.Cond} {R : Room} {A : Array Value} {Z : State} {h0 : Heap} {Q : Option Value → Heap → List Loc → Prop} {L0 : Array Slot} {own : String}
def own_Met (l : Launch) (y : MethodName) (bytes : ByteArray) (ml : Nat) (r : Option FieldType) (ws : List Jvm.Cond) (R : Room) (A : Array Value) (Z : State) (h0 : Heap) (Q : Option Value → Heap → List Loc → Prop) : Prop :=
  MetFree l y (head1 (Jvm.Cond.code y bytes ml r :: ws) R) (fun a U => a = A ∧ Z.Warmed39 U.vm ∧ U.heap = h0) (fun _ _ _ _ _ => True) (fun _ U o U' => ∃ v L, o = .returned v ∧ Q v U'.heap L ∧ FrameEnd U o U' L R.cells R.slots)
theorem own_body (hp : plainFor y = true) (ho : y.cls = own) (body : ∀ (p : Program) (e : Env) (s : State) (m : MethodId) (below : List Frame) (meth : Method) (c : Code) (s₁ : State), p.tables.exec = Jvm.exec → c.code = bytes → meth.locks = false → c.maxLocals = ml → s.vm.findClass own = some m.cls → meth.name = y.name → Stand p l e R s m A below meth c s₁ [] 0 0 → Z.Warmed39 s.vm → s₁.heap = h0 → s.heap = h0 → meth.sig.returnType = r → own_Fin p e below s R.cells R.slots Q (s₁.setTop (mkF m 0 L0 []))) (ef : ∀ m, entryFrame m A ml = mkF m 0 L0 [] := by intro m; first | rfl | simp [entryFrame, mkF, argsToLocals, Value.category]) : own_Met l y bytes ml r ws R A Z h0 Q := by
  refine MetFree.of_bodySF hp hisR ?_
  intro p e s m args below meth c s₁ Bd hml0 hP hK
  obtain ⟨rfl, hZ, hh⟩ := hP
  have k := body p e s m below meth c s₁ Bd.exec Bd.bytes Bd.notSynchronized hml0 (ho ▸ findClass_of_methodNamed Bd.named) (name_of_methodNamed Bd.named Bd.method).1 (Stand.of_body Bd) hZ (by rw [← hh, Bd.state]; rfl) hh Bd.returns
  exact (show own_Fin p e below s R.cells R.slots Q (s₁.setTop (entryFrame m _ ml)) from own_cast (ef m) k)
def own_MetH (l : Launch) (y : MethodName) (bytes : ByteArray) (ml : Nat) (r : Option FieldType) (ws : List Jvm.Cond) (R : Room) (A : Array Value) (Z : State) (h0 : Heap) (Q : Option Value → Heap → List Loc → Prop) : Prop :=
  MetFree l y (head1 (Jvm.Cond.code y bytes ml r :: ws) R) (fun a U => a = A ∧ Z.Warmed39 U.vm ∧ U.heap = h0 ∧ CHv Z consts_1 U.vm h0) (fun _ _ _ _ _ => True) (fun _ U o U' => ∃ v L, o = .returned v ∧ Q v U'.heap L ∧ CHr Z consts_1 U.vm U.heap U'.vm U'.heap ∧ ReturnedEndW U o U' L R.cells R.slots)
theorem own_bodyH (hp : plainFor y = true) (ho : y.cls = own) (body : ∀ (p : Program) (e : Env) (s : State) (m : MethodId) (below : List Frame) (meth : Method) (c : Code) (s₁ : State), p.tables.exec = Jvm.exec → c.code = bytes → meth.locks = false → c.maxLocals = ml → s.vm.findClass own = some m.cls → meth.name = y.name → Stand p l e R (s.setVm s.vm) m A below meth c s₁ [] 0 0 → Z.Warmed39 s.vm → s₁.heap = h0 → s.heap = h0 → meth.sig.returnType = r → CHr Z consts_1 s.vm s.heap s.vm h0 → s.Since s.vm h0.size → own_FinH (Z := Z) p e below s R.cells R.slots Q (s₁.setTop (mkF m 0 L0 []))) (ef : ∀ m, entryFrame m A ml = mkF m 0 L0 [] := by intro m; first | rfl | simp [entryFrame, mkF, argsToLocals, Value.category]) : own_MetH l y bytes ml r ws R A Z h0 Q := by
  refine MetFree.of_bodySF hp hisR ?_
  intro p e s m args below meth c s₁ Bd hml0 hP hK
  obtain ⟨rfl, hZ, hh, hCH⟩ := hP
  have k := body p e s m below meth c s₁ Bd.exec Bd.bytes Bd.notSynchronized hml0 (ho ▸ findClass_of_methodNamed Bd.named) (name_of_methodNamed Bd.named Bd.method).1 (Stand.of_body Bd) hZ (by rw [← hh, Bd.state]; rfl) hh Bd.returns (by rw [hh]; exact CHr.refl hCH) ((State.WarmedH.refl s).since _)
  exact (show own_FinH (Z := Z) p e below s R.cells R.slots Q (s₁.setTop (entryFrame m _ ml)) from own_castH (ef m) k)
theorem own_a0 {ws : List Addr} : ∀ y ∈ ([] : List Addr), y ∈ ws ∨ h0.size ≤ y := fun _ z => nomatch z
theorem own_aW {ws us : List Addr} {x : Addr} (i : Nat) (a : ws[i]? = some x) (q : ∀ y ∈ us, y ∈ ws ∨ h0.size ≤ y) : ∀ y ∈ x :: us, y ∈ ws ∨ h0.size ≤ y := allS (P := fun y => y ∈ ws ∨ h0.size ≤ y) (Or.inl (List.mem_of_getElem? a)) q
theorem own_aB {ws us : List Addr} {x : Addr} (a : h0.size ≤ x) (q : ∀ y ∈ us, y ∈ ws ∨ h0.size ≤ y) : ∀ y ∈ x :: us, y ∈ ws ∨ h0.size ≤ y := allS (P := fun y => y ∈ ws ∨ h0.size ≤ y) (Or.inr a) q
theorem own_n0 {h : Heap} : ∀ y ∈ ([] : List Addr), own_Nst h y := fun _ z => nomatch z
theorem own_nS {h : Heap} {us : List Addr} {x : Addr} (a : own_Nst h x) (q : ∀ y ∈ us, own_Nst h y) : ∀ y ∈ x :: us, own_Nst h y := allS (P := own_Nst h) a q
end OwnSlim
section OwnGroups
variable {Z : State} {h h' : Heap} {x : Addr} {C : String}
theorem own_e1 {O0 n0 d0 : String} {v0 : Value} (X : Ext h h') (e : Exa Z h x C) (f0 : Fld Z h x O0 n0 d0 v0) : Exa Z h' x C ∧ Fld Z h' x O0 n0 d0 v0 := ⟨e.ext X, f0.ext X⟩
theorem own_k1 {O0 n0 d0 : String} {v0 : Value} {ws : List Addr} (K : Keep h h' ws) (q : x ∉ ws) (e : Exa Z h x C) (f0 : Fld Z h x O0 n0 d0 v0) : Exa Z h' x C ∧ Fld Z h' x O0 n0 d0 v0 := ⟨e.keep K, f0.keep K q⟩
theorem own_o1 {O0 n0 d0 : String} {v0 : Value} {a : Addr} {sl : Nat} {v : Value} (W : Wr h h' a sl v) (q : x ≠ a) (e : Exa Z h x C) (f0 : Fld Z h x O0 n0 d0 v0) : Exa Z h' x C ∧ Fld Z h' x O0 n0 d0 v0 := ⟨e.wr W, f0.other W (Or.inl q)⟩
theorem own_e2 {O0 n0 d0 : String} {v0 : Value} {O1 n1 d1 : String} {v1 : Value} (X : Ext h h') (e : Exa Z h x C) (f0 : Fld Z h x O0 n0 d0 v0) (f1 : Fld Z h x O1 n1 d1 v1) : Exa Z h' x C ∧ Fld Z h' x O0 n0 d0 v0 ∧ Fld Z h' x O1 n1 d1 v1 := ⟨e.ext X, f0.ext X, f1.ext X⟩
theorem own_k2 {O0 n0 d0 : String} {v0 : Value} {O1 n1 d1 : String} {v1 : Value} {ws : List Addr} (K : Keep h h' ws) (q : x ∉ ws) (e : Exa Z h x C) (f0 : Fld Z h x O0 n0 d0 v0) (f1 : Fld Z h x O1 n1 d1 v1) : Exa Z h' x C ∧ Fld Z h' x O0 n0 d0 v0 ∧ Fld Z h' x O1 n1 d1 v1 := ⟨e.keep K, f0.keep K q, f1.keep K q⟩
theorem own_o2 {O0 n0 d0 : String} {v0 : Value} {O1 n1 d1 : String} {v1 : Value} {a : Addr} {sl : Nat} {v : Value} (W : Wr h h' a sl v) (q : x ≠ a) (e : Exa Z h x C) (f0 : Fld Z h x O0 n0 d0 v0) (f1 : Fld Z h x O1 n1 d1 v1) : Exa Z h' x C ∧ Fld Z h' x O0 n0 d0 v0 ∧ Fld Z h' x O1 n1 d1 v1 := ⟨e.wr W, f0.other W (Or.inl q), f1.other W (Or.inl q)⟩
theorem own_e3 {O0 n0 d0 : String} {v0 : Value} {O1 n1 d1 : String} {v1 : Value} {O2 n2 d2 : String} {v2 : Value} (X : Ext h h') (e : Exa Z h x C) (f0 : Fld Z h x O0 n0 d0 v0) (f1 : Fld Z h x O1 n1 d1 v1) (f2 : Fld Z h x O2 n2 d2 v2) : Exa Z h' x C ∧ Fld Z h' x O0 n0 d0 v0 ∧ Fld Z h' x O1 n1 d1 v1 ∧ Fld Z h' x O2 n2 d2 v2 := ⟨e.ext X, f0.ext X, f1.ext X, f2.ext X⟩
theorem own_k3 {O0 n0 d0 : String} {v0 : Value} {O1 n1 d1 : String} {v1 : Value} {O2 n2 d2 : String} {v2 : Value} {ws : List Addr} (K : Keep h h' ws) (q : x ∉ ws) (e : Exa Z h x C) (f0 : Fld Z h x O0 n0 d0 v0) (f1 : Fld Z h x O1 n1 d1 v1) (f2 : Fld Z h x O2 n2 d2 v2) : Exa Z h' x C ∧ Fld Z h' x O0 n0 d0 v0 ∧ Fld Z h' x O1 n1 d1 v1 ∧ Fld Z h' x O2 n2 d2 v2 := ⟨e.keep K, f0.keep K q, f1.keep K q, f2.keep K q⟩
theorem own_o3 {O0 n0 d0 : String} {v0 : Value} {O1 n1 d1 : String} {v1 : Value} {O2 n2 d2 : String} {v2 : Value} {a : Addr} {sl : Nat} {v : Value} (W : Wr h h' a sl v) (q : x ≠ a) (e : Exa Z h x C) (f0 : Fld Z h x O0 n0 d0 v0) (f1 : Fld Z h x O1 n1 d1 v1) (f2 : Fld Z h x O2 n2 d2 v2) : Exa Z h' x C ∧ Fld Z h' x O0 n0 d0 v0 ∧ Fld Z h' x O1 n1 d1 v1 ∧ Fld Z h' x O2 n2 d2 v2 := ⟨e.wr W, f0.other W (Or.inl q), f1.other W (Or.inl q), f2.other W (Or.inl q)⟩
theorem own_e4 {O0 n0 d0 : String} {v0 : Value} {O1 n1 d1 : String} {v1 : Value} {O2 n2 d2 : String} {v2 : Value} {O3 n3 d3 : String} {v3 : Value} (X : Ext h h') (e : Exa Z h x C) (f0 : Fld Z h x O0 n0 d0 v0) (f1 : Fld Z h x O1 n1 d1 v1) (f2 : Fld Z h x O2 n2 d2 v2) (f3 : Fld Z h x O3 n3 d3 v3) : Exa Z h' x C ∧ Fld Z h' x O0 n0 d0 v0 ∧ Fld Z h' x O1 n1 d1 v1 ∧ Fld Z h' x O2 n2 d2 v2 ∧ Fld Z h' x O3 n3 d3 v3 := ⟨e.ext X, f0.ext X, f1.ext X, f2.ext X, f3.ext X⟩
theorem own_k4 {O0 n0 d0 : String} {v0 : Value} {O1 n1 d1 : String} {v1 : Value} {O2 n2 d2 : String} {v2 : Value} {O3 n3 d3 : String} {v3 : Value} {ws : List Addr} (K : Keep h h' ws) (q : x ∉ ws) (e : Exa Z h x C) (f0 : Fld Z h x O0 n0 d0 v0) (f1 : Fld Z h x O1 n1 d1 v1) (f2 : Fld Z h x O2 n2 d2 v2) (f3 : Fld Z h x O3 n3 d3 v3) : Exa Z h' x C ∧ Fld Z h' x O0 n0 d0 v0 ∧ Fld Z h' x O1 n1 d1 v1 ∧ Fld Z h' x O2 n2 d2 v2 ∧ Fld Z h' x O3 n3 d3 v3 := ⟨e.keep K, f0.keep K q, f1.keep K q, f2.keep K q, f3.keep K q⟩
theorem own_o4 {O0 n0 d0 : String} {v0 : Value} {O1 n1 d1 : String} {v1 : Value} {O2 n2 d2 : String} {v2 : Value} {O3 n3 d3 : String} {v3 : Value} {a : Addr} {sl : Nat} {v : Value} (W : Wr h h' a sl v) (q : x ≠ a) (e : Exa Z h x C) (f0 : Fld Z h x O0 n0 d0 v0) (f1 : Fld Z h x O1 n1 d1 v1) (f2 : Fld Z h x O2 n2 d2 v2) (f3 : Fld Z h x O3 n3 d3 v3) : Exa Z h' x C ∧ Fld Z h' x O0 n0 d0 v0 ∧ Fld Z h' x O1 n1 d1 v1 ∧ Fld Z h' x O2 n2 d2 v2 ∧ Fld Z h' x O3 n3 d3 v3 := ⟨e.wr W, f0.other W (Or.inl q), f1.other W (Or.inl q), f2.other W (Or.inl q), f3.other W (Or.inl q)⟩
end OwnGroups
section OwnUn
variable {p : Program} {l : Launch} {e : Env} {R : Room} {s : State} {m : MethodId} {args : Array Value} {below : List Frame} {meth : Method} {c : Code} {T S : State} {locs : List Loc} {cells slots kc ks n : Nat} {Q : Option Value → Heap → List Loc → Prop} {g : JFrame} {rest : List Value}
theorem own_un (X : Stand p l e R s m args below meth c T locs cells slots) (h : ∃ (v : Option Value) (vm₁ : Vm) (B : Pt), s.WarmedH vm₁ ∧ Stand p l e R s m args below meth c B.U B.locs B.cells B.slots ∧ (∃ L, Q v B.U.heap L ∧ B.locs = locs ++ L ∧ B.cells = cells + kc ∧ B.slots = slots + ks) ∧ Steps p.tables e below S (B.U.setTop { g with pc := g.pc + n, stack := v.toList ++ rest })) :
    ∃ (T : State) (L : List Loc) (v : Option Value), Stand p l e R s m args below meth c T (locs ++ L) (cells + kc) (slots + ks) ∧ Q v T.heap L ∧ Steps p.tables e below S (T.setTop { g with pc := g.pc + n, stack := v.toList ++ rest }) := by
  obtain ⟨v, _, ⟨T, L', k, j⟩, -, X', ⟨L, hQ, e1, e2, e3⟩, st⟩ := h
  dsimp only [Pt.U, Pt.locs, Pt.cells, Pt.slots] at X' e1 e2 e3 st hQ
  subst e1 e2 e3
  exact ⟨T, L, v, X', hQ, st⟩
theorem own_unS (X : Stand p l e R s m args below meth c T locs cells slots) (h : ∃ (v : Option Value) (vm₁ : Vm) (B : Pt), s.WarmedH vm₁ ∧ Stand p l e R s m args below meth c B.U B.locs B.cells B.slots ∧ (∃ L, Q v B.U.heap L ∧ B.locs = locs ++ L ∧ B.cells = cells + kc ∧ B.slots = slots + ks) ∧ ∀ t, Steps p.tables e below (B.U.setTop { g with pc := g.pc + n, stack := v.toList ++ rest }) t → Steps p.tables e below S t) :
    ∃ (T : State) (L : List Loc) (v : Option Value), Stand p l e R s m args below meth c T (locs ++ L) (cells + kc) (slots + ks) ∧ Q v T.heap L ∧ ∀ t, Steps p.tables e below (T.setTop { g with pc := g.pc + n, stack := v.toList ++ rest }) t → Steps p.tables e below S t := by
  obtain ⟨v, _, ⟨T, L', k, j⟩, -, X', ⟨L, hQ, e1, e2, e3⟩, st⟩ := h
  dsimp only [Pt.U, Pt.locs, Pt.cells, Pt.slots] at X' e1 e2 e3 st hQ
  subst e1 e2 e3
  exact ⟨T, L, v, X', hQ, st⟩
end OwnUn
section OwnCps
variable {p : Program} {l : Launch} {e : Env} {R : Room} {s s' : State} {m : MethodId} {args : Array Value} {below : List Frame} {meth : Method} {c : Code} {T : State} {locs : List Loc} {cells slots kc ks : Nat} {Q : Option Value → Heap → List Loc → Prop} {Z : State} {a0 : Array Value} {h : Heap} {own : String} {index nl : Nat} {g : JFrame} {y : MethodName} {bytes : ByteArray} {ml : Nat} {r : Option FieldType} {rm : Room} {as' : Array Value} {Qc : Option Value → Heap → List Loc → Prop}
theorem oG (X : Stand p l e R s' m args below meth c T locs cells slots) (hx : p.tables.exec = Jvm.exec) {O n d : String} {rest : List Value} (hZ : Z.Warmed39 s'.vm) (hown : s'.vm.findClass own = some m.cls) (w : (Cond.fieldLink own index O n d).before a0 Z = true) (eT : T.heap = h) {a : Addr} {v : Value} (F : Fld Z h a O n d v) (hd : decode c.code g.pc = .ok (.getfield index, 3)) (hg : g.method = m) (hs : g.stack = .ref a :: rest)
    (k : ∀ T', Stand p l e R s' m args below meth c T' locs cells slots → T'.heap = h → own_Fin p e below s kc ks Q (T'.setTop { g with pc := g.pc + 3, stack := v :: rest })) : own_Fin p e below s kc ks Q (T.setTop g) := by
  obtain ⟨T', X', e', st⟩ := getF X hx hZ hown (host := "") (Or.inl w) Via.refl eT F hg hs hd
  exact own_step st (k T' X' e')
theorem oV {C : String} {b : Addr} (X : Stand p l e R s' m args below meth c T locs cells slots) (hx : p.tables.exec = Jvm.exec) (hZ : Z.Warmed39 s'.vm) (hown : s'.vm.findClass own = some m.cls) (hml : c.maxLocals = nl) (w1 : (Cond.methodLink own index y).before a0 Z = true) (w2 : (Cond.declares y).before a0 Z = true) (w3 : (Cond.selects C y y).before a0 Z = true) (w4 : (Cond.instanceMethod y).before a0 Z = true)
    (hM : own_Met l y bytes ml r [] rm as' Z h Qc) (wc : (Cond.code y bytes ml r).before a0 Z = true) (wz : (Cond.initialized y.cls).before a0 Z = true) (eT : T.heap = h) (E : Exa Z h b C) (argsL rest : List Value) (W : Nat) (hlen : ∀ sig, parseMethodDescriptor y.desc = some sig → argsL.length = sig.parameters.length) (hstack : g.stack = argsL.reverse ++ .ref b :: rest) (hdg : decode c.code g.pc = .ok (.invokevirtual index, 3)) (hg : g.method = m) (hsz : g.locals.size = nl) (has : (Value.ref b :: argsL).toArray = as')
    (k : ∀ T' L v, Stand p l e R s' m args below meth c T' (locs ++ L) (cells + rm.cells) (slots + rm.slots) → Qc v T'.heap L → own_Fin p e below s kc ks Q (T'.setTop { g with pc := g.pc + 3, stack := v.toList ++ rest }))
    (hy : y.cls ≠ "java/lang/invoke/MethodHandle" ∧ y.cls ≠ "java/lang/invoke/VarHandle" := by decide) (hW : 2 * g.monitorRoom + (rest.map fun v => v.category).sum ≤ W := by show 2 * 0 + _ ≤ _; exact Nat.le_of_eq rfl) (hf : rm.frames + 1 ≤ R.frames := by decide) (hl : W + (ml + 11) + rm.locals ≤ R.locals := by decide) (hc1 : cells + rm.cells ≤ R.cells := by decide) (hc2 : slots + rm.slots ≤ R.slots := by decide) : own_Fin p e below s kc ks Q (T.setTop g) := by
  obtain ⟨cq, kq, qa, qb, qc⟩ := isOf hZ eT E
  obtain ⟨T', L, v, X', hQ, st⟩ := own_un X (X.virtualBack hx (y := y) (z := y) hown (mvT hZ w1) (mvT hZ w2) (notFace_of_selects (args := #[]) (mvT hZ w3)) (mvT hZ w3) (mvT hZ w4) hy (backOf (W := W) hM hZ wc wz hf hl) qa qc hg (hsz.trans hml.symm) (Steps.refl _) hlen hstack hW hdg (fun _ _ => ⟨has, eT, hc1, hc2⟩))
  exact own_step (fun _ q => st.trans q) (k T' L v X' hQ)
theorem oC (X : Stand p l e R s' m args below meth c T locs cells slots) (hx : p.tables.exec = Jvm.exec) (hZ : Z.Warmed39 s'.vm) (hown : s'.vm.findClass own = some m.cls) (hml : c.maxLocals = nl) (w1 : (Cond.methodLink own index y).before a0 Z = true) (w2 : (Cond.static y).before a0 Z = true)
    (hM : own_Met l y bytes ml r [] rm as' Z h Qc) (wc : (Cond.code y bytes ml r).before a0 Z = true) (wz : (Cond.initialized y.cls).before a0 Z = true) (eT : T.heap = h) (argsL rest : List Value) (W : Nat) (hlen : ∀ sig, parseMethodDescriptor y.desc = some sig → argsL.length = sig.parameters.length) (hstack : g.stack = argsL.reverse ++ rest) (hdg : decode c.code g.pc = .ok (.invokestatic index, 3)) (hg : g.method = m) (hsz : g.locals.size = nl) (has : argsL.toArray = as')
    (k : ∀ T' L v, Stand p l e R s' m args below meth c T' (locs ++ L) (cells + rm.cells) (slots + rm.slots) → Qc v T'.heap L → own_Fin p e below s kc ks Q (T'.setTop { g with pc := g.pc + 3, stack := v.toList ++ rest }))
    (hy : y.cls ≠ "java/lang/invoke/MethodHandle" ∧ y.cls ≠ "java/lang/invoke/VarHandle" := by decide) (hW : 2 * g.monitorRoom + (rest.map fun v => v.category).sum ≤ W := by show 2 * 0 + _ ≤ _; exact Nat.le_of_eq rfl) (hf : rm.frames + 1 ≤ R.frames := by decide) (hl : W + (ml + 11) + rm.locals ≤ R.locals := by decide) (hc1 : cells + rm.cells ≤ R.cells := by decide) (hc2 : slots + rm.slots ≤ R.slots := by decide) : own_Fin p e below s kc ks Q (T.setTop g) := by
  obtain ⟨T', L, v, X', hQ, st⟩ := own_unS X (Jvm.LawKit.callS X hx (y := y) hown (mvT hZ w1) (mvT hZ w2) (mvT hZ wz) (mvT hZ wc) hy (backOf (W := W) hM hZ wc wz hf hl) hg (hsz.trans hml.symm) hlen hstack hW hdg (fun _ _ => ⟨has, eT, hc1, hc2⟩))
  exact own_step st (k T' L v X' hQ)
theorem xaloadN {k : Fin 4} {v : Value} (X : Stand p l e R s' m args below meth c T locs cells slots) (hx : p.tables.exec = Jvm.exec) (hd : decode c.code g.pc = .ok (.aload_n k, 1)) (hl : g.locals[k.val]? = some (.val v)) (hv : v.isRef = true) (hg : g.method = m) (k : own_Fin p e below s kc ks Q (T.setTop { g with pc := g.pc + 1, stack := v :: g.stack })) : own_Fin p e below s kc ks Q (T.setTop g) := own_step (fun _ q => XS.aloadN X.here hx hg hd hl hv q) k
theorem xaload {k : Nat} {v : Value} (X : Stand p l e R s' m args below meth c T locs cells slots) (hx : p.tables.exec = Jvm.exec) (hd : decode c.code g.pc = .ok (.aload k, 2)) (hl : g.locals[k]? = some (.val v)) (hv : v.isRef = true) (hg : g.method = m) (k : own_Fin p e below s kc ks Q (T.setTop { g with pc := g.pc + 2, stack := v :: g.stack })) : own_Fin p e below s kc ks Q (T.setTop g) := own_step (fun _ q => XS.aload X.here hx hg hd hl hv q) k
theorem xiloadN {k : Fin 4} {v : Int32} (X : Stand p l e R s' m args below meth c T locs cells slots) (hx : p.tables.exec = Jvm.exec) (hd : decode c.code g.pc = .ok (.iload_n k, 1)) (hl : g.locals[k.val]? = some (.val (.int v))) (hg : g.method = m) (k : own_Fin p e below s kc ks Q (T.setTop { g with pc := g.pc + 1, stack := .int v :: g.stack })) : own_Fin p e below s kc ks Q (T.setTop g) := own_step (fun _ q => XS.iloadN X.here hx hg hd hl q) k
theorem xiload {k : Nat} {v : Int32} (X : Stand p l e R s' m args below meth c T locs cells slots) (hx : p.tables.exec = Jvm.exec) (hd : decode c.code g.pc = .ok (.iload k, 2)) (hl : g.locals[k]? = some (.val (.int v))) (hg : g.method = m) (k : own_Fin p e below s kc ks Q (T.setTop { g with pc := g.pc + 2, stack := .int v :: g.stack })) : own_Fin p e below s kc ks Q (T.setTop g) := own_step (fun _ q => XS.iload X.here hx hg hd hl q) k
theorem xiconst {i : Int} (X : Stand p l e R s' m args below meth c T locs cells slots) (hx : p.tables.exec = Jvm.exec) (hd : decode c.code g.pc = .ok (.iconst i, 1))  (hg : g.method = m) (k : own_Fin p e below s kc ks Q (T.setTop { g with pc := g.pc + 1, stack := .int (Int32.ofInt i) :: g.stack })) : own_Fin p e below s kc ks Q (T.setTop g) := own_step (fun _ q => XS.iconst X.here hx hg hd  q) k
theorem xbipush {i : Int} (X : Stand p l e R s' m args below meth c T locs cells slots) (hx : p.tables.exec = Jvm.exec) (hd : decode c.code g.pc = .ok (.bipush i, 2))  (hg : g.method = m) (k : own_Fin p e below s kc ks Q (T.setTop { g with pc := g.pc + 2, stack := .int (Int8.ofInt i).toInt32 :: g.stack })) : own_Fin p e below s kc ks Q (T.setTop g) := own_step (fun _ q => XS.bipush X.here hx hg hd  q) k
theorem xdup {x : Value} {rest : List Value} (X : Stand p l e R s' m args below meth c T locs cells slots) (hx : p.tables.exec = Jvm.exec) (hd : decode c.code g.pc = .ok (.dup, 1)) (hs : g.stack = x :: rest) (hc : x.category = 1) (hg : g.method = m) (k : own_Fin p e below s kc ks Q (T.setTop { g with pc := g.pc + 1, stack := x :: x :: rest })) : own_Fin p e below s kc ks Q (T.setTop g) := own_step (fun _ q => XS.dup X.here hx hg hd hs hc q) k
theorem xastoreN {k : Fin 4} {x : Value} {rest : List Value} {l' : Array Slot} (X : Stand p l e R s' m args below meth c T locs cells slots) (hx : p.tables.exec = Jvm.exec) (hd : decode c.code g.pc = .ok (.astore_n k, 1)) (hs : g.stack = x :: rest) (hv : x.isRef = true) (hl : storeLocals g.locals k.val x = some l') (hg : g.method = m) (k : own_Fin p e below s kc ks Q (T.setTop { g with pc := g.pc + 1, stack := rest, locals := l' })) : own_Fin p e below s kc ks Q (T.setTop g) := own_step (fun _ q => XS.astoreN X.here hx hg hd hs hv hl q) k
theorem xastore {k : Nat} {x : Value} {rest : List Value} {l' : Array Slot} (X : Stand p l e R s' m args below meth c T locs cells slots) (hx : p.tables.exec = Jvm.exec) (hd : decode c.code g.pc = .ok (.astore k, 2)) (hs : g.stack = x :: rest) (hv : x.isRef = true) (hl : storeLocals g.locals k x = some l') (hg : g.method = m) (k : own_Fin p e below s kc ks Q (T.setTop { g with pc := g.pc + 2, stack := rest, locals := l' })) : own_Fin p e below s kc ks Q (T.setTop g) := own_step (fun _ q => XS.astore X.here hx hg hd hs hv hl q) k
theorem xiadd {x y : Int32} {rest : List Value} (X : Stand p l e R s' m args below meth c T locs cells slots) (hx : p.tables.exec = Jvm.exec) (hd : decode c.code g.pc = .ok (.iadd, 1)) (hs : g.stack = .int y :: .int x :: rest) (hg : g.method = m) (k : own_Fin p e below s kc ks Q (T.setTop { g with pc := g.pc + 1, stack := .int (x + y) :: rest })) : own_Fin p e below s kc ks Q (T.setTop g) := own_step (fun _ q => XS.iadd X.here hx hg hd hs q) k
theorem xifNo {cd : ClassFile.Cond} {o : Int} {x : Int32} {rest : List Value} (X : Stand p l e R s' m args below meth c T locs cells slots) (hx : p.tables.exec = Jvm.exec) (hd : decode c.code g.pc = .ok (.ifCond cd o, 3)) (hs : g.stack = .int x :: rest) (hc : ifCond.holds cd x = false) (hg : g.method = m) (k : own_Fin p e below s kc ks Q (T.setTop { g with pc := g.pc + 3, stack := rest })) : own_Fin p e below s kc ks Q (T.setTop g) := own_step (fun _ q => XS.ifNo X.here hx hg hd hs hc q) k
theorem xicmpNo {cd : ClassFile.Cond} {o : Int} {x y : Int32} {rest : List Value} (X : Stand p l e R s' m args below meth c T locs cells slots) (hx : p.tables.exec = Jvm.exec) (hd : decode c.code g.pc = .ok (.if_icmp cd o, 3)) (hs : g.stack = .int y :: .int x :: rest) (hc : if_icmp.holds cd x y = false) (hg : g.method = m) (k : own_Fin p e below s kc ks Q (T.setTop { g with pc := g.pc + 3, stack := rest })) : own_Fin p e below s kc ks Q (T.setTop g) := own_step (fun _ q => XS.icmpNo X.here hx hg hd hs hc q) k
theorem xistoreN {k : Fin 4} {x : Int32} {rest : List Value} {l' : Array Slot} (X : Stand p l e R s' m args below meth c T locs cells slots) (hx : p.tables.exec = Jvm.exec) (hd : decode c.code g.pc = .ok (.istore_n k, 1)) (hs : g.stack = .int x :: rest) (hl : storeLocals g.locals k.val (.int x) = some l') (hg : g.method = m) (k : own_Fin p e below s kc ks Q (T.setTop { g with pc := g.pc + 1, stack := rest, locals := l' })) : own_Fin p e below s kc ks Q (T.setTop g) := own_step (fun _ q => XS.istoreN X.here hx hg hd hs hl q) k
theorem xistore {k : Nat} {x : Int32} {rest : List Value} {l' : Array Slot} (X : Stand p l e R s' m args below meth c T locs cells slots) (hx : p.tables.exec = Jvm.exec) (hd : decode c.code g.pc = .ok (.istore k, 2)) (hs : g.stack = .int x :: rest) (hl : storeLocals g.locals k (.int x) = some l') (hg : g.method = m) (k : own_Fin p e below s kc ks Q (T.setTop { g with pc := g.pc + 2, stack := rest, locals := l' })) : own_Fin p e below s kc ks Q (T.setTop g) := own_step (fun _ q => XS.istore X.here hx hg hd hs hl q) k
theorem xifYes {cd : ClassFile.Cond} {x : Int32} {rest : List Value} {o : Int} (X : Stand p l e R s' m args below meth c T locs cells slots) (hx : p.tables.exec = Jvm.exec) (pc0 pc' : Nat) (hpc : g.pc = pc0) (hd : decode c.code g.pc = .ok (.ifCond cd o, 3)) (hs : g.stack = .int x :: rest) (hc : ifCond.holds cd x = true) (hg : g.method = m) (k : own_Fin p e below s kc ks Q (T.setTop { g with pc := pc', stack := rest })) (ho : 0 ≤ (pc0 : Int) + o := by decide) (hp : ((pc0 : Int) + o).toNat = pc' := by decide) : own_Fin p e below s kc ks Q (T.setTop g) := own_step (fun _ q => XS.ifYes X.here hx hg hpc hd hs hc ho hp q) k
theorem xicmpYes {cd : ClassFile.Cond} {x y : Int32} {rest : List Value} {o : Int} (X : Stand p l e R s' m args below meth c T locs cells slots) (hx : p.tables.exec = Jvm.exec) (pc0 pc' : Nat) (hpc : g.pc = pc0) (hd : decode c.code g.pc = .ok (.if_icmp cd o, 3)) (hs : g.stack = .int y :: .int x :: rest) (hc : if_icmp.holds cd x y = true) (hg : g.method = m) (k : own_Fin p e below s kc ks Q (T.setTop { g with pc := pc', stack := rest })) (ho : 0 ≤ (pc0 : Int) + o := by decide) (hp : ((pc0 : Int) + o).toNat = pc' := by decide) : own_Fin p e below s kc ks Q (T.setTop g) := own_step (fun _ q => XS.icmpYes X.here hx hg hpc hd hs hc ho hp q) k
theorem xgoto {o : Int} (X : Stand p l e R s' m args below meth c T locs cells slots) (hx : p.tables.exec = Jvm.exec) (pc0 pc' : Nat) (hpc : g.pc = pc0) (hd : decode c.code g.pc = .ok (.goto o, 3))  (hg : g.method = m) (k : own_Fin p e below s kc ks Q (T.setTop { g with pc := pc' })) (ho : 0 ≤ (pc0 : Int) + o := by decide) (hp : ((pc0 : Int) + o).toNat = pc' := by decide) : own_Fin p e below s kc ks Q (T.setTop g) := own_step (fun _ q => XS.goto X.here hx hg hpc hd  ho hp q) k
theorem oI {b : Addr} (X : Stand p l e R s' m args below meth c T locs cells slots) (hx : p.tables.exec = Jvm.exec) (hZ : Z.Warmed39 s'.vm) (hown : s'.vm.findClass own = some m.cls) (hml : c.maxLocals = nl) (w1 : (Cond.methodLink own index y).before a0 Z = true) (w4 : (Cond.instanceMethod y).before a0 Z = true)
    (hM : own_Met l y bytes ml none [] rm as' Z h Qc) (wc : (Cond.code y bytes ml none).before a0 Z = true) (wz : (Cond.initialized y.cls).before a0 Z = true) (eT : T.heap = h) (argsL rest : List Value) (W : Nat) (hlen : ∀ sig, parseMethodDescriptor y.desc = some sig → argsL.length = sig.parameters.length) (hstack : g.stack = argsL.reverse ++ .ref b :: rest) (hdg : decode c.code g.pc = .ok (.invokespecial index, 3)) (hg : g.method = m) (hsz : g.locals.size = nl) (has : (Value.ref b :: argsL).toArray = as')
    (k : ∀ T' L v, Stand p l e R s' m args below meth c T' (locs ++ L) (cells + rm.cells) (slots + rm.slots) → Qc v T'.heap L → own_Fin p e below s kc ks Q (T'.setTop { g with pc := g.pc + 3, stack := v.toList ++ rest }))
    (hy1 : y.name = "<init>" := by rfl) (hy : y.cls ≠ "java/lang/invoke/MethodHandle" ∧ y.cls ≠ "java/lang/invoke/VarHandle" := by decide) (hW : 2 * g.monitorRoom + (rest.map fun v => v.category).sum ≤ W := by show 2 * 0 + _ ≤ _; exact Nat.le_of_eq rfl) (hf : rm.frames + 1 ≤ R.frames := by decide) (hl : W + (ml + 11) + rm.locals ≤ R.locals := by decide) (hc1 : cells + rm.cells ≤ R.cells := by decide) (hc2 : slots + rm.slots ≤ R.slots := by decide) : own_Fin p e below s kc ks Q (T.setTop g) := by
  obtain ⟨T', L, v, X', hQ, st⟩ := own_un X (X.specialBack hx (y := y) hy1 hown (mvT hZ w1) (mvT hZ w4) (mvT hZ wc) hy (backOf (W := W) hM hZ wc wz hf hl) hg (hsz.trans hml.symm) (Steps.refl _) hlen hstack hW hdg (fun _ _ => ⟨has, eT, hc1, hc2⟩))
  exact own_step (fun _ q => st.trans q) (k T' L v X' hQ)
theorem oU {b : Addr} {K : String} {C : String} {y2 : MethodName} (X : Stand p l e R s' m args below meth c T locs cells slots) (hx : p.tables.exec = Jvm.exec) (hZ : Z.Warmed39 s'.vm) (hown : s'.vm.findClass own = some m.cls) (hml : c.maxLocals = nl) (w1 : (Cond.methodLink own index y).before a0 Z = true) (w4 : (Cond.instanceMethod y).before a0 Z = true) (w5 : (Cond.selects C y2 y2).before a0 Z = true) (w6 : (Cond.superclass own y.cls).before a0 Z = true)
    (hM : own_Met l y bytes ml r [] rm as' Z h Qc) (wc : (Cond.code y bytes ml r).before a0 Z = true) (wz : (Cond.initialized y.cls).before a0 Z = true) (eT : T.heap = h) (E : Exa Z h b K) (argsL rest : List Value) (W : Nat) (hlen : ∀ sig, parseMethodDescriptor y.desc = some sig → argsL.length = sig.parameters.length) (hstack : g.stack = argsL.reverse ++ .ref b :: rest) (hdg : decode c.code g.pc = .ok (.invokespecial index, 3)) (hg : g.method = m) (hsz : g.locals.size = nl) (has : (Value.ref b :: argsL).toArray = as')
    (k : ∀ T' L v, Stand p l e R s' m args below meth c T' (locs ++ L) (cells + rm.cells) (slots + rm.slots) → Qc v T'.heap L → own_Fin p e below s kc ks Q (T'.setTop { g with pc := g.pc + 3, stack := v.toList ++ rest }))
    (hcc : y2.cls = y.cls := by rfl) (hy1 : y.name ≠ "<init>" := by decide) (hy : y.cls ≠ "java/lang/invoke/MethodHandle" ∧ y.cls ≠ "java/lang/invoke/VarHandle" := by decide) (hW : 2 * g.monitorRoom + (rest.map fun v => v.category).sum ≤ W := by show 2 * 0 + _ ≤ _; exact Nat.le_of_eq rfl) (hf : rm.frames + 1 ≤ R.frames := by decide) (hl : W + (ml + 11) + rm.locals ≤ R.locals := by decide) (hc1 : cells + rm.cells ≤ R.cells := by decide) (hc2 : slots + rm.slots ≤ R.slots := by decide) : own_Fin p e below s kc ks Q (T.setTop g) := by
  obtain ⟨T', L, v, X', hQ, st⟩ := own_un X (superBack X hx hZ (y := y) (K := K) hown w1 (own_same w4 w5 hcc hy) w4 w6 hy1 (backOf (W := W) hM hZ wc wz hf hl) eT (Ins.self E) hg (hsz.trans hml.symm) wc hlen hstack hW hdg (fun _ _ => ⟨has, eT, hc1, hc2⟩))
  exact own_step (fun _ q => st.trans q) (k T' L v X' hQ)
theorem oRA (X : Stand p l e R s m args below meth c T locs cells slots) (hx : p.tables.exec = Jvm.exec) (hlk : meth.locks = false) {t : FieldType} (hret : meth.sig.returnType = some t) {w : Value} {pc : Nat} {Ls : Array Slot} {rest : List Value} (hn : narrow t w = w) (ht : t.isReference = true) (hw : w.isRef = true) (hd : decode c.code pc = .ok (.areturn, 1)) (hQ : Q (some w) T.heap locs) (hc : cells ≤ kc := by decide) (hs : slots ≤ ks := by decide) : own_Fin p e below s kc ks Q (T.setTop (mkF m pc Ls (w :: rest))) :=
  own_ret X hlk (v := some w) (fun h => by rw [hret] at h; cases h) hc hs hQ (fun fs hr => retOut X hx hret hn (Or.inr (Or.inr (Or.inr (Or.inr ⟨rfl, ht, hw⟩)))) hd hr)
theorem oRI (X : Stand p l e R s m args below meth c T locs cells slots) (hx : p.tables.exec = Jvm.exec) (hlk : meth.locks = false) (hret : meth.sig.returnType = some .int) {z : Int32} {pc : Nat} {Ls : Array Slot} {rest : List Value} (hd : decode c.code pc = .ok (.ireturn, 1)) (hQ : Q (some (.int z)) T.heap locs) (hc : cells ≤ kc := by decide) (hs : slots ≤ ks := by decide) : own_Fin p e below s kc ks Q (T.setTop (mkF m pc Ls (.int z :: rest))) :=
  own_ret X hlk (v := some (.int z)) (fun h => by rw [hret] at h; cases h) hc hs hQ (fun fs hr => retOut X hx hret rfl (Or.inl ⟨rfl, Or.inl rfl, _, rfl⟩) hd hr)
theorem oRV (X : Stand p l e R s m args below meth c T locs cells slots) (hx : p.tables.exec = Jvm.exec) (hlk : meth.locks = false) (hret : meth.sig.returnType = none) {pc : Nat} {Ls : Array Slot} (hd : decode c.code pc = .ok (.return_, 1)) (hQ : Q none T.heap locs) (hc : cells ≤ kc := by decide) (hs : slots ≤ ks := by decide) : own_Fin p e below s kc ks Q (T.setTop (mkF m pc Ls [])) :=
  own_ret X hlk (v := none) (fun _ => rfl) hc hs hQ (fun fs hr => X.returnOut hx hret hd hr)
theorem oGW (X : Stand p l e R s' m args below meth c T locs cells slots) (hx : p.tables.exec = Jvm.exec) {O n d : String} {rest : List Value} (hZ : Z.Warmed39 s'.vm) (hown : s'.vm.findClass own = some m.cls) (w : (Cond.fieldLink own index O n d).before a0 Z = true) (eT : T.heap = h) {a : Addr} {v : Value} (F : Fld Z h a O n d v) (hd : decode c.code g.pc = .ok (.getfield index, 3)) (hg : g.method = m) (hs : g.stack = .ref a :: rest)
    (k : ∀ T', Stand p l e R s' m args below meth c T' locs cells slots → T'.heap = h → own_FinW p e below s kc ks Q (T'.setTop { g with pc := g.pc + 3, stack := v :: rest })) : own_FinW p e below s kc ks Q (T.setTop g) := by
  obtain ⟨T', X', e', st⟩ := getF X hx hZ hown (host := "") (Or.inl w) Via.refl eT F hg hs hd
  exact own_stepW st (k T' X' e')
theorem oVW {C : String} {b : Addr} (X : Stand p l e R s' m args below meth c T locs cells slots) (hx : p.tables.exec = Jvm.exec) (hZ : Z.Warmed39 s'.vm) (hown : s'.vm.findClass own = some m.cls) (hml : c.maxLocals = nl) (w1 : (Cond.methodLink own index y).before a0 Z = true) (w2 : (Cond.declares y).before a0 Z = true) (w3 : (Cond.selects C y y).before a0 Z = true) (w4 : (Cond.instanceMethod y).before a0 Z = true)
    (hM : own_Met l y bytes ml r [] rm as' Z h Qc) (wc : (Cond.code y bytes ml r).before a0 Z = true) (wz : (Cond.initialized y.cls).before a0 Z = true) (eT : T.heap = h) (E : Exa Z h b C) (argsL rest : List Value) (W : Nat) (hlen : ∀ sig, parseMethodDescriptor y.desc = some sig → argsL.length = sig.parameters.length) (hstack : g.stack = argsL.reverse ++ .ref b :: rest) (hdg : decode c.code g.pc = .ok (.invokevirtual index, 3)) (hg : g.method = m) (hsz : g.locals.size = nl) (has : (Value.ref b :: argsL).toArray = as')
    (k : ∀ T' L v, Stand p l e R s' m args below meth c T' (locs ++ L) (cells + rm.cells) (slots + rm.slots) → Qc v T'.heap L → own_FinW p e below s kc ks Q (T'.setTop { g with pc := g.pc + 3, stack := v.toList ++ rest }))
    (hy : y.cls ≠ "java/lang/invoke/MethodHandle" ∧ y.cls ≠ "java/lang/invoke/VarHandle" := by decide) (hW : 2 * g.monitorRoom + (rest.map fun v => v.category).sum ≤ W := by show 2 * 0 + _ ≤ _; exact Nat.le_of_eq rfl) (hf : rm.frames + 1 ≤ R.frames := by decide) (hl : W + (ml + 11) + rm.locals ≤ R.locals := by decide) (hc1 : cells + rm.cells ≤ R.cells := by decide) (hc2 : slots + rm.slots ≤ R.slots := by decide) : own_FinW p e below s kc ks Q (T.setTop g) := by
  obtain ⟨cq, kq, qa, qb, qc⟩ := isOf hZ eT E
  obtain ⟨T', L, v, X', hQ, st⟩ := own_un X (X.virtualBack hx (y := y) (z := y) hown (mvT hZ w1) (mvT hZ w2) (notFace_of_selects (args := #[]) (mvT hZ w3)) (mvT hZ w3) (mvT hZ w4) hy (backOf (W := W) hM hZ wc wz hf hl) qa qc hg (hsz.trans hml.symm) (Steps.refl _) hlen hstack hW hdg (fun _ _ => ⟨has, eT, hc1, hc2⟩))
  exact own_stepW (fun _ q => st.trans q) (k T' L v X' hQ)
theorem oCW (X : Stand p l e R s' m args below meth c T locs cells slots) (hx : p.tables.exec = Jvm.exec) (hZ : Z.Warmed39 s'.vm) (hown : s'.vm.findClass own = some m.cls) (hml : c.maxLocals = nl) (w1 : (Cond.methodLink own index y).before a0 Z = true) (w2 : (Cond.static y).before a0 Z = true)
    (hM : own_Met l y bytes ml r [] rm as' Z h Qc) (wc : (Cond.code y bytes ml r).before a0 Z = true) (wz : (Cond.initialized y.cls).before a0 Z = true) (eT : T.heap = h) (argsL rest : List Value) (W : Nat) (hlen : ∀ sig, parseMethodDescriptor y.desc = some sig → argsL.length = sig.parameters.length) (hstack : g.stack = argsL.reverse ++ rest) (hdg : decode c.code g.pc = .ok (.invokestatic index, 3)) (hg : g.method = m) (hsz : g.locals.size = nl) (has : argsL.toArray = as')
    (k : ∀ T' L v, Stand p l e R s' m args below meth c T' (locs ++ L) (cells + rm.cells) (slots + rm.slots) → Qc v T'.heap L → own_FinW p e below s kc ks Q (T'.setTop { g with pc := g.pc + 3, stack := v.toList ++ rest }))
    (hy : y.cls ≠ "java/lang/invoke/MethodHandle" ∧ y.cls ≠ "java/lang/invoke/VarHandle" := by decide) (hW : 2 * g.monitorRoom + (rest.map fun v => v.category).sum ≤ W := by show 2 * 0 + _ ≤ _; exact Nat.le_of_eq rfl) (hf : rm.frames + 1 ≤ R.frames := by decide) (hl : W + (ml + 11) + rm.locals ≤ R.locals := by decide) (hc1 : cells + rm.cells ≤ R.cells := by decide) (hc2 : slots + rm.slots ≤ R.slots := by decide) : own_FinW p e below s kc ks Q (T.setTop g) := by
  obtain ⟨T', L, v, X', hQ, st⟩ := own_unS X (Jvm.LawKit.callS X hx (y := y) hown (mvT hZ w1) (mvT hZ w2) (mvT hZ wz) (mvT hZ wc) hy (backOf (W := W) hM hZ wc wz hf hl) hg (hsz.trans hml.symm) hlen hstack hW hdg (fun _ _ => ⟨has, eT, hc1, hc2⟩))
  exact own_stepW st (k T' L v X' hQ)
theorem xaloadNW {k : Fin 4} {v : Value} (X : Stand p l e R s' m args below meth c T locs cells slots) (hx : p.tables.exec = Jvm.exec) (hd : decode c.code g.pc = .ok (.aload_n k, 1)) (hl : g.locals[k.val]? = some (.val v)) (hv : v.isRef = true) (hg : g.method = m) (k : own_FinW p e below s kc ks Q (T.setTop { g with pc := g.pc + 1, stack := v :: g.stack })) : own_FinW p e below s kc ks Q (T.setTop g) := own_stepW (fun _ q => XS.aloadN X.here hx hg hd hl hv q) k
theorem xaloadW {k : Nat} {v : Value} (X : Stand p l e R s' m args below meth c T locs cells slots) (hx : p.tables.exec = Jvm.exec) (hd : decode c.code g.pc = .ok (.aload k, 2)) (hl : g.locals[k]? = some (.val v)) (hv : v.isRef = true) (hg : g.method = m) (k : own_FinW p e below s kc ks Q (T.setTop { g with pc := g.pc + 2, stack := v :: g.stack })) : own_FinW p e below s kc ks Q (T.setTop g) := own_stepW (fun _ q => XS.aload X.here hx hg hd hl hv q) k
theorem xiloadNW {k : Fin 4} {v : Int32} (X : Stand p l e R s' m args below meth c T locs cells slots) (hx : p.tables.exec = Jvm.exec) (hd : decode c.code g.pc = .ok (.iload_n k, 1)) (hl : g.locals[k.val]? = some (.val (.int v))) (hg : g.method = m) (k : own_FinW p e below s kc ks Q (T.setTop { g with pc := g.pc + 1, stack := .int v :: g.stack })) : own_FinW p e below s kc ks Q (T.setTop g) := own_stepW (fun _ q => XS.iloadN X.here hx hg hd hl q) k
theorem xiloadW {k : Nat} {v : Int32} (X : Stand p l e R s' m args below meth c T locs cells slots) (hx : p.tables.exec = Jvm.exec) (hd : decode c.code g.pc = .ok (.iload k, 2)) (hl : g.locals[k]? = some (.val (.int v))) (hg : g.method = m) (k : own_FinW p e below s kc ks Q (T.setTop { g with pc := g.pc + 2, stack := .int v :: g.stack })) : own_FinW p e below s kc ks Q (T.setTop g) := own_stepW (fun _ q => XS.iload X.here hx hg hd hl q) k
theorem xiconstW {i : Int} (X : Stand p l e R s' m args below meth c T locs cells slots) (hx : p.tables.exec = Jvm.exec) (hd : decode c.code g.pc = .ok (.iconst i, 1))  (hg : g.method = m) (k : own_FinW p e below s kc ks Q (T.setTop { g with pc := g.pc + 1, stack := .int (Int32.ofInt i) :: g.stack })) : own_FinW p e below s kc ks Q (T.setTop g) := own_stepW (fun _ q => XS.iconst X.here hx hg hd  q) k
theorem xbipushW {i : Int} (X : Stand p l e R s' m args below meth c T locs cells slots) (hx : p.tables.exec = Jvm.exec) (hd : decode c.code g.pc = .ok (.bipush i, 2))  (hg : g.method = m) (k : own_FinW p e below s kc ks Q (T.setTop { g with pc := g.pc + 2, stack := .int (Int8.ofInt i).toInt32 :: g.stack })) : own_FinW p e below s kc ks Q (T.setTop g) := own_stepW (fun _ q => XS.bipush X.here hx hg hd  q) k
theorem xdupW {x : Value} {rest : List Value} (X : Stand p l e R s' m args below meth c T locs cells slots) (hx : p.tables.exec = Jvm.exec) (hd : decode c.code g.pc = .ok (.dup, 1)) (hs : g.stack = x :: rest) (hc : x.category = 1) (hg : g.method = m) (k : own_FinW p e below s kc ks Q (T.setTop { g with pc := g.pc + 1, stack := x :: x :: rest })) : own_FinW p e below s kc ks Q (T.setTop g) := own_stepW (fun _ q => XS.dup X.here hx hg hd hs hc q) k
theorem xastoreNW {k : Fin 4} {x : Value} {rest : List Value} {l' : Array Slot} (X : Stand p l e R s' m args below meth c T locs cells slots) (hx : p.tables.exec = Jvm.exec) (hd : decode c.code g.pc = .ok (.astore_n k, 1)) (hs : g.stack = x :: rest) (hv : x.isRef = true) (hl : storeLocals g.locals k.val x = some l') (hg : g.method = m) (k : own_FinW p e below s kc ks Q (T.setTop { g with pc := g.pc + 1, stack := rest, locals := l' })) : own_FinW p e below s kc ks Q (T.setTop g) := own_stepW (fun _ q => XS.astoreN X.here hx hg hd hs hv hl q) k
theorem xastoreW {k : Nat} {x : Value} {rest : List Value} {l' : Array Slot} (X : Stand p l e R s' m args below meth c T locs cells slots) (hx : p.tables.exec = Jvm.exec) (hd : decode c.code g.pc = .ok (.astore k, 2)) (hs : g.stack = x :: rest) (hv : x.isRef = true) (hl : storeLocals g.locals k x = some l') (hg : g.method = m) (k : own_FinW p e below s kc ks Q (T.setTop { g with pc := g.pc + 2, stack := rest, locals := l' })) : own_FinW p e below s kc ks Q (T.setTop g) := own_stepW (fun _ q => XS.astore X.here hx hg hd hs hv hl q) k
theorem xiaddW {x y : Int32} {rest : List Value} (X : Stand p l e R s' m args below meth c T locs cells slots) (hx : p.tables.exec = Jvm.exec) (hd : decode c.code g.pc = .ok (.iadd, 1)) (hs : g.stack = .int y :: .int x :: rest) (hg : g.method = m) (k : own_FinW p e below s kc ks Q (T.setTop { g with pc := g.pc + 1, stack := .int (x + y) :: rest })) : own_FinW p e below s kc ks Q (T.setTop g) := own_stepW (fun _ q => XS.iadd X.here hx hg hd hs q) k
theorem xifNoW {cd : ClassFile.Cond} {o : Int} {x : Int32} {rest : List Value} (X : Stand p l e R s' m args below meth c T locs cells slots) (hx : p.tables.exec = Jvm.exec) (hd : decode c.code g.pc = .ok (.ifCond cd o, 3)) (hs : g.stack = .int x :: rest) (hc : ifCond.holds cd x = false) (hg : g.method = m) (k : own_FinW p e below s kc ks Q (T.setTop { g with pc := g.pc + 3, stack := rest })) : own_FinW p e below s kc ks Q (T.setTop g) := own_stepW (fun _ q => XS.ifNo X.here hx hg hd hs hc q) k
theorem xicmpNoW {cd : ClassFile.Cond} {o : Int} {x y : Int32} {rest : List Value} (X : Stand p l e R s' m args below meth c T locs cells slots) (hx : p.tables.exec = Jvm.exec) (hd : decode c.code g.pc = .ok (.if_icmp cd o, 3)) (hs : g.stack = .int y :: .int x :: rest) (hc : if_icmp.holds cd x y = false) (hg : g.method = m) (k : own_FinW p e below s kc ks Q (T.setTop { g with pc := g.pc + 3, stack := rest })) : own_FinW p e below s kc ks Q (T.setTop g) := own_stepW (fun _ q => XS.icmpNo X.here hx hg hd hs hc q) k
theorem xistoreNW {k : Fin 4} {x : Int32} {rest : List Value} {l' : Array Slot} (X : Stand p l e R s' m args below meth c T locs cells slots) (hx : p.tables.exec = Jvm.exec) (hd : decode c.code g.pc = .ok (.istore_n k, 1)) (hs : g.stack = .int x :: rest) (hl : storeLocals g.locals k.val (.int x) = some l') (hg : g.method = m) (k : own_FinW p e below s kc ks Q (T.setTop { g with pc := g.pc + 1, stack := rest, locals := l' })) : own_FinW p e below s kc ks Q (T.setTop g) := own_stepW (fun _ q => XS.istoreN X.here hx hg hd hs hl q) k
theorem xistoreW {k : Nat} {x : Int32} {rest : List Value} {l' : Array Slot} (X : Stand p l e R s' m args below meth c T locs cells slots) (hx : p.tables.exec = Jvm.exec) (hd : decode c.code g.pc = .ok (.istore k, 2)) (hs : g.stack = .int x :: rest) (hl : storeLocals g.locals k (.int x) = some l') (hg : g.method = m) (k : own_FinW p e below s kc ks Q (T.setTop { g with pc := g.pc + 2, stack := rest, locals := l' })) : own_FinW p e below s kc ks Q (T.setTop g) := own_stepW (fun _ q => XS.istore X.here hx hg hd hs hl q) k
theorem xifYesW {cd : ClassFile.Cond} {x : Int32} {rest : List Value} {o : Int} (X : Stand p l e R s' m args below meth c T locs cells slots) (hx : p.tables.exec = Jvm.exec) (pc0 pc' : Nat) (hpc : g.pc = pc0) (hd : decode c.code g.pc = .ok (.ifCond cd o, 3)) (hs : g.stack = .int x :: rest) (hc : ifCond.holds cd x = true) (hg : g.method = m) (k : own_FinW p e below s kc ks Q (T.setTop { g with pc := pc', stack := rest })) (ho : 0 ≤ (pc0 : Int) + o := by decide) (hp : ((pc0 : Int) + o).toNat = pc' := by decide) : own_FinW p e below s kc ks Q (T.setTop g) := own_stepW (fun _ q => XS.ifYes X.here hx hg hpc hd hs hc ho hp q) k
theorem xicmpYesW {cd : ClassFile.Cond} {x y : Int32} {rest : List Value} {o : Int} (X : Stand p l e R s' m args below meth c T locs cells slots) (hx : p.tables.exec = Jvm.exec) (pc0 pc' : Nat) (hpc : g.pc = pc0) (hd : decode c.code g.pc = .ok (.if_icmp cd o, 3)) (hs : g.stack = .int y :: .int x :: rest) (hc : if_icmp.holds cd x y = true) (hg : g.method = m) (k : own_FinW p e below s kc ks Q (T.setTop { g with pc := pc', stack := rest })) (ho : 0 ≤ (pc0 : Int) + o := by decide) (hp : ((pc0 : Int) + o).toNat = pc' := by decide) : own_FinW p e below s kc ks Q (T.setTop g) := own_stepW (fun _ q => XS.icmpYes X.here hx hg hpc hd hs hc ho hp q) k
theorem xgotoW {o : Int} (X : Stand p l e R s' m args below meth c T locs cells slots) (hx : p.tables.exec = Jvm.exec) (pc0 pc' : Nat) (hpc : g.pc = pc0) (hd : decode c.code g.pc = .ok (.goto o, 3))  (hg : g.method = m) (k : own_FinW p e below s kc ks Q (T.setTop { g with pc := pc' })) (ho : 0 ≤ (pc0 : Int) + o := by decide) (hp : ((pc0 : Int) + o).toNat = pc' := by decide) : own_FinW p e below s kc ks Q (T.setTop g) := own_stepW (fun _ q => XS.goto X.here hx hg hpc hd  ho hp q) k
theorem oIW {b : Addr} (X : Stand p l e R s' m args below meth c T locs cells slots) (hx : p.tables.exec = Jvm.exec) (hZ : Z.Warmed39 s'.vm) (hown : s'.vm.findClass own = some m.cls) (hml : c.maxLocals = nl) (w1 : (Cond.methodLink own index y).before a0 Z = true) (w4 : (Cond.instanceMethod y).before a0 Z = true)
    (hM : own_Met l y bytes ml none [] rm as' Z h Qc) (wc : (Cond.code y bytes ml none).before a0 Z = true) (wz : (Cond.initialized y.cls).before a0 Z = true) (eT : T.heap = h) (argsL rest : List Value) (W : Nat) (hlen : ∀ sig, parseMethodDescriptor y.desc = some sig → argsL.length = sig.parameters.length) (hstack : g.stack = argsL.reverse ++ .ref b :: rest) (hdg : decode c.code g.pc = .ok (.invokespecial index, 3)) (hg : g.method = m) (hsz : g.locals.size = nl) (has : (Value.ref b :: argsL).toArray = as')
    (k : ∀ T' L v, Stand p l e R s' m args below meth c T' (locs ++ L) (cells + rm.cells) (slots + rm.slots) → Qc v T'.heap L → own_FinW p e below s kc ks Q (T'.setTop { g with pc := g.pc + 3, stack := v.toList ++ rest }))
    (hy1 : y.name = "<init>" := by rfl) (hy : y.cls ≠ "java/lang/invoke/MethodHandle" ∧ y.cls ≠ "java/lang/invoke/VarHandle" := by decide) (hW : 2 * g.monitorRoom + (rest.map fun v => v.category).sum ≤ W := by show 2 * 0 + _ ≤ _; exact Nat.le_of_eq rfl) (hf : rm.frames + 1 ≤ R.frames := by decide) (hl : W + (ml + 11) + rm.locals ≤ R.locals := by decide) (hc1 : cells + rm.cells ≤ R.cells := by decide) (hc2 : slots + rm.slots ≤ R.slots := by decide) : own_FinW p e below s kc ks Q (T.setTop g) := by
  obtain ⟨T', L, v, X', hQ, st⟩ := own_un X (X.specialBack hx (y := y) hy1 hown (mvT hZ w1) (mvT hZ w4) (mvT hZ wc) hy (backOf (W := W) hM hZ wc wz hf hl) hg (hsz.trans hml.symm) (Steps.refl _) hlen hstack hW hdg (fun _ _ => ⟨has, eT, hc1, hc2⟩))
  exact own_stepW (fun _ q => st.trans q) (k T' L v X' hQ)
theorem oUW {b : Addr} {K : String} {C : String} {y2 : MethodName} (X : Stand p l e R s' m args below meth c T locs cells slots) (hx : p.tables.exec = Jvm.exec) (hZ : Z.Warmed39 s'.vm) (hown : s'.vm.findClass own = some m.cls) (hml : c.maxLocals = nl) (w1 : (Cond.methodLink own index y).before a0 Z = true) (w4 : (Cond.instanceMethod y).before a0 Z = true) (w5 : (Cond.selects C y2 y2).before a0 Z = true) (w6 : (Cond.superclass own y.cls).before a0 Z = true)
    (hM : own_Met l y bytes ml r [] rm as' Z h Qc) (wc : (Cond.code y bytes ml r).before a0 Z = true) (wz : (Cond.initialized y.cls).before a0 Z = true) (eT : T.heap = h) (E : Exa Z h b K) (argsL rest : List Value) (W : Nat) (hlen : ∀ sig, parseMethodDescriptor y.desc = some sig → argsL.length = sig.parameters.length) (hstack : g.stack = argsL.reverse ++ .ref b :: rest) (hdg : decode c.code g.pc = .ok (.invokespecial index, 3)) (hg : g.method = m) (hsz : g.locals.size = nl) (has : (Value.ref b :: argsL).toArray = as')
    (k : ∀ T' L v, Stand p l e R s' m args below meth c T' (locs ++ L) (cells + rm.cells) (slots + rm.slots) → Qc v T'.heap L → own_FinW p e below s kc ks Q (T'.setTop { g with pc := g.pc + 3, stack := v.toList ++ rest }))
    (hcc : y2.cls = y.cls := by rfl) (hy1 : y.name ≠ "<init>" := by decide) (hy : y.cls ≠ "java/lang/invoke/MethodHandle" ∧ y.cls ≠ "java/lang/invoke/VarHandle" := by decide) (hW : 2 * g.monitorRoom + (rest.map fun v => v.category).sum ≤ W := by show 2 * 0 + _ ≤ _; exact Nat.le_of_eq rfl) (hf : rm.frames + 1 ≤ R.frames := by decide) (hl : W + (ml + 11) + rm.locals ≤ R.locals := by decide) (hc1 : cells + rm.cells ≤ R.cells := by decide) (hc2 : slots + rm.slots ≤ R.slots := by decide) : own_FinW p e below s kc ks Q (T.setTop g) := by
  obtain ⟨T', L, v, X', hQ, st⟩ := own_un X (superBack X hx hZ (y := y) (K := K) hown w1 (own_same w4 w5 hcc hy) w4 w6 hy1 (backOf (W := W) hM hZ wc wz hf hl) eT (Ins.self E) hg (hsz.trans hml.symm) wc hlen hstack hW hdg (fun _ _ => ⟨has, eT, hc1, hc2⟩))
  exact own_stepW (fun _ q => st.trans q) (k T' L v X' hQ)
theorem oGH (X : Stand p l e R s' m args below meth c T locs cells slots) (hx : p.tables.exec = Jvm.exec) {O n d : String} {rest : List Value} (hZ : Z.Warmed39 s'.vm) (hown : s'.vm.findClass own = some m.cls) (w : (Cond.fieldLink own index O n d).before a0 Z = true) (eT : T.heap = h) {a : Addr} {v : Value} (F : Fld Z h a O n d v) (hd : decode c.code g.pc = .ok (.getfield index, 3)) (hg : g.method = m) (hs : g.stack = .ref a :: rest)
    (k : ∀ T', Stand p l e R s' m args below meth c T' locs cells slots → T'.heap = h → own_FinH (Z := Z) p e below s kc ks Q (T'.setTop { g with pc := g.pc + 3, stack := v :: rest })) : own_FinH (Z := Z) p e below s kc ks Q (T.setTop g) := by
  obtain ⟨T', X', e', st⟩ := getF X hx hZ hown (host := "") (Or.inl w) Via.refl eT F hg hs hd
  exact own_stepH st (k T' X' e')
theorem oVH {C : String} {b : Addr} (X : Stand p l e R s' m args below meth c T locs cells slots) (hx : p.tables.exec = Jvm.exec) (hZ : Z.Warmed39 s'.vm) (hown : s'.vm.findClass own = some m.cls) (hml : c.maxLocals = nl) (w1 : (Cond.methodLink own index y).before a0 Z = true) (w2 : (Cond.declares y).before a0 Z = true) (w3 : (Cond.selects C y y).before a0 Z = true) (w4 : (Cond.instanceMethod y).before a0 Z = true)
    (hM : own_Met l y bytes ml r [] rm as' Z h Qc) (wc : (Cond.code y bytes ml r).before a0 Z = true) (wz : (Cond.initialized y.cls).before a0 Z = true) (eT : T.heap = h) (E : Exa Z h b C) (argsL rest : List Value) (W : Nat) (hlen : ∀ sig, parseMethodDescriptor y.desc = some sig → argsL.length = sig.parameters.length) (hstack : g.stack = argsL.reverse ++ .ref b :: rest) (hdg : decode c.code g.pc = .ok (.invokevirtual index, 3)) (hg : g.method = m) (hsz : g.locals.size = nl) (has : (Value.ref b :: argsL).toArray = as')
    (k : ∀ T' L v, Stand p l e R s' m args below meth c T' (locs ++ L) (cells + rm.cells) (slots + rm.slots) → Qc v T'.heap L → own_FinH (Z := Z) p e below s kc ks Q (T'.setTop { g with pc := g.pc + 3, stack := v.toList ++ rest }))
    (hy : y.cls ≠ "java/lang/invoke/MethodHandle" ∧ y.cls ≠ "java/lang/invoke/VarHandle" := by decide) (hW : 2 * g.monitorRoom + (rest.map fun v => v.category).sum ≤ W := by show 2 * 0 + _ ≤ _; exact Nat.le_of_eq rfl) (hf : rm.frames + 1 ≤ R.frames := by decide) (hl : W + (ml + 11) + rm.locals ≤ R.locals := by decide) (hc1 : cells + rm.cells ≤ R.cells := by decide) (hc2 : slots + rm.slots ≤ R.slots := by decide) : own_FinH (Z := Z) p e below s kc ks Q (T.setTop g) := by
  obtain ⟨cq, kq, qa, qb, qc⟩ := isOf hZ eT E
  obtain ⟨T', L, v, X', hQ, st⟩ := own_un X (X.virtualBack hx (y := y) (z := y) hown (mvT hZ w1) (mvT hZ w2) (notFace_of_selects (args := #[]) (mvT hZ w3)) (mvT hZ w3) (mvT hZ w4) hy (backOf (W := W) hM hZ wc wz hf hl) qa qc hg (hsz.trans hml.symm) (Steps.refl _) hlen hstack hW hdg (fun _ _ => ⟨has, eT, hc1, hc2⟩))
  exact own_stepH (fun _ q => st.trans q) (k T' L v X' hQ)
theorem oCH (X : Stand p l e R s' m args below meth c T locs cells slots) (hx : p.tables.exec = Jvm.exec) (hZ : Z.Warmed39 s'.vm) (hown : s'.vm.findClass own = some m.cls) (hml : c.maxLocals = nl) (w1 : (Cond.methodLink own index y).before a0 Z = true) (w2 : (Cond.static y).before a0 Z = true)
    (hM : own_Met l y bytes ml r [] rm as' Z h Qc) (wc : (Cond.code y bytes ml r).before a0 Z = true) (wz : (Cond.initialized y.cls).before a0 Z = true) (eT : T.heap = h) (argsL rest : List Value) (W : Nat) (hlen : ∀ sig, parseMethodDescriptor y.desc = some sig → argsL.length = sig.parameters.length) (hstack : g.stack = argsL.reverse ++ rest) (hdg : decode c.code g.pc = .ok (.invokestatic index, 3)) (hg : g.method = m) (hsz : g.locals.size = nl) (has : argsL.toArray = as')
    (k : ∀ T' L v, Stand p l e R s' m args below meth c T' (locs ++ L) (cells + rm.cells) (slots + rm.slots) → Qc v T'.heap L → own_FinH (Z := Z) p e below s kc ks Q (T'.setTop { g with pc := g.pc + 3, stack := v.toList ++ rest }))
    (hy : y.cls ≠ "java/lang/invoke/MethodHandle" ∧ y.cls ≠ "java/lang/invoke/VarHandle" := by decide) (hW : 2 * g.monitorRoom + (rest.map fun v => v.category).sum ≤ W := by show 2 * 0 + _ ≤ _; exact Nat.le_of_eq rfl) (hf : rm.frames + 1 ≤ R.frames := by decide) (hl : W + (ml + 11) + rm.locals ≤ R.locals := by decide) (hc1 : cells + rm.cells ≤ R.cells := by decide) (hc2 : slots + rm.slots ≤ R.slots := by decide) : own_FinH (Z := Z) p e below s kc ks Q (T.setTop g) := by
  obtain ⟨T', L, v, X', hQ, st⟩ := own_unS X (Jvm.LawKit.callS X hx (y := y) hown (mvT hZ w1) (mvT hZ w2) (mvT hZ wz) (mvT hZ wc) hy (backOf (W := W) hM hZ wc wz hf hl) hg (hsz.trans hml.symm) hlen hstack hW hdg (fun _ _ => ⟨has, eT, hc1, hc2⟩))
  exact own_stepH st (k T' L v X' hQ)
theorem xaloadNH {k : Fin 4} {v : Value} (X : Stand p l e R s' m args below meth c T locs cells slots) (hx : p.tables.exec = Jvm.exec) (hd : decode c.code g.pc = .ok (.aload_n k, 1)) (hl : g.locals[k.val]? = some (.val v)) (hv : v.isRef = true) (hg : g.method = m) (k : own_FinH (Z := Z) p e below s kc ks Q (T.setTop { g with pc := g.pc + 1, stack := v :: g.stack })) : own_FinH (Z := Z) p e below s kc ks Q (T.setTop g) := own_stepH (fun _ q => XS.aloadN X.here hx hg hd hl hv q) k
theorem xaloadH {k : Nat} {v : Value} (X : Stand p l e R s' m args below meth c T locs cells slots) (hx : p.tables.exec = Jvm.exec) (hd : decode c.code g.pc = .ok (.aload k, 2)) (hl : g.locals[k]? = some (.val v)) (hv : v.isRef = true) (hg : g.method = m) (k : own_FinH (Z := Z) p e below s kc ks Q (T.setTop { g with pc := g.pc + 2, stack := v :: g.stack })) : own_FinH (Z := Z) p e below s kc ks Q (T.setTop g) := own_stepH (fun _ q => XS.aload X.here hx hg hd hl hv q) k
theorem xiloadNH {k : Fin 4} {v : Int32} (X : Stand p l e R s' m args below meth c T locs cells slots) (hx : p.tables.exec = Jvm.exec) (hd : decode c.code g.pc = .ok (.iload_n k, 1)) (hl : g.locals[k.val]? = some (.val (.int v))) (hg : g.method = m) (k : own_FinH (Z := Z) p e below s kc ks Q (T.setTop { g with pc := g.pc + 1, stack := .int v :: g.stack })) : own_FinH (Z := Z) p e below s kc ks Q (T.setTop g) := own_stepH (fun _ q => XS.iloadN X.here hx hg hd hl q) k
theorem xiloadH {k : Nat} {v : Int32} (X : Stand p l e R s' m args below meth c T locs cells slots) (hx : p.tables.exec = Jvm.exec) (hd : decode c.code g.pc = .ok (.iload k, 2)) (hl : g.locals[k]? = some (.val (.int v))) (hg : g.method = m) (k : own_FinH (Z := Z) p e below s kc ks Q (T.setTop { g with pc := g.pc + 2, stack := .int v :: g.stack })) : own_FinH (Z := Z) p e below s kc ks Q (T.setTop g) := own_stepH (fun _ q => XS.iload X.here hx hg hd hl q) k
theorem xiconstH {i : Int} (X : Stand p l e R s' m args below meth c T locs cells slots) (hx : p.tables.exec = Jvm.exec) (hd : decode c.code g.pc = .ok (.iconst i, 1))  (hg : g.method = m) (k : own_FinH (Z := Z) p e below s kc ks Q (T.setTop { g with pc := g.pc + 1, stack := .int (Int32.ofInt i) :: g.stack })) : own_FinH (Z := Z) p e below s kc ks Q (T.setTop g) := own_stepH (fun _ q => XS.iconst X.here hx hg hd  q) k
theorem xbipushH {i : Int} (X : Stand p l e R s' m args below meth c T locs cells slots) (hx : p.tables.exec = Jvm.exec) (hd : decode c.code g.pc = .ok (.bipush i, 2))  (hg : g.method = m) (k : own_FinH (Z := Z) p e below s kc ks Q (T.setTop { g with pc := g.pc + 2, stack := .int (Int8.ofInt i).toInt32 :: g.stack })) : own_FinH (Z := Z) p e below s kc ks Q (T.setTop g) := own_stepH (fun _ q => XS.bipush X.here hx hg hd  q) k
theorem xdupH {x : Value} {rest : List Value} (X : Stand p l e R s' m args below meth c T locs cells slots) (hx : p.tables.exec = Jvm.exec) (hd : decode c.code g.pc = .ok (.dup, 1)) (hs : g.stack = x :: rest) (hc : x.category = 1) (hg : g.method = m) (k : own_FinH (Z := Z) p e below s kc ks Q (T.setTop { g with pc := g.pc + 1, stack := x :: x :: rest })) : own_FinH (Z := Z) p e below s kc ks Q (T.setTop g) := own_stepH (fun _ q => XS.dup X.here hx hg hd hs hc q) k
theorem xastoreNH {k : Fin 4} {x : Value} {rest : List Value} {l' : Array Slot} (X : Stand p l e R s' m args below meth c T locs cells slots) (hx : p.tables.exec = Jvm.exec) (hd : decode c.code g.pc = .ok (.astore_n k, 1)) (hs : g.stack = x :: rest) (hv : x.isRef = true) (hl : storeLocals g.locals k.val x = some l') (hg : g.method = m) (k : own_FinH (Z := Z) p e below s kc ks Q (T.setTop { g with pc := g.pc + 1, stack := rest, locals := l' })) : own_FinH (Z := Z) p e below s kc ks Q (T.setTop g) := own_stepH (fun _ q => XS.astoreN X.here hx hg hd hs hv hl q) k
theorem xastoreH {k : Nat} {x : Value} {rest : List Value} {l' : Array Slot} (X : Stand p l e R s' m args below meth c T locs cells slots) (hx : p.tables.exec = Jvm.exec) (hd : decode c.code g.pc = .ok (.astore k, 2)) (hs : g.stack = x :: rest) (hv : x.isRef = true) (hl : storeLocals g.locals k x = some l') (hg : g.method = m) (k : own_FinH (Z := Z) p e below s kc ks Q (T.setTop { g with pc := g.pc + 2, stack := rest, locals := l' })) : own_FinH (Z := Z) p e below s kc ks Q (T.setTop g) := own_stepH (fun _ q => XS.astore X.here hx hg hd hs hv hl q) k
theorem xiaddH {x y : Int32} {rest : List Value} (X : Stand p l e R s' m args below meth c T locs cells slots) (hx : p.tables.exec = Jvm.exec) (hd : decode c.code g.pc = .ok (.iadd, 1)) (hs : g.stack = .int y :: .int x :: rest) (hg : g.method = m) (k : own_FinH (Z := Z) p e below s kc ks Q (T.setTop { g with pc := g.pc + 1, stack := .int (x + y) :: rest })) : own_FinH (Z := Z) p e below s kc ks Q (T.setTop g) := own_stepH (fun _ q => XS.iadd X.here hx hg hd hs q) k
theorem xifNoH {cd : ClassFile.Cond} {o : Int} {x : Int32} {rest : List Value} (X : Stand p l e R s' m args below meth c T locs cells slots) (hx : p.tables.exec = Jvm.exec) (hd : decode c.code g.pc = .ok (.ifCond cd o, 3)) (hs : g.stack = .int x :: rest) (hc : ifCond.holds cd x = false) (hg : g.method = m) (k : own_FinH (Z := Z) p e below s kc ks Q (T.setTop { g with pc := g.pc + 3, stack := rest })) : own_FinH (Z := Z) p e below s kc ks Q (T.setTop g) := own_stepH (fun _ q => XS.ifNo X.here hx hg hd hs hc q) k
theorem xicmpNoH {cd : ClassFile.Cond} {o : Int} {x y : Int32} {rest : List Value} (X : Stand p l e R s' m args below meth c T locs cells slots) (hx : p.tables.exec = Jvm.exec) (hd : decode c.code g.pc = .ok (.if_icmp cd o, 3)) (hs : g.stack = .int y :: .int x :: rest) (hc : if_icmp.holds cd x y = false) (hg : g.method = m) (k : own_FinH (Z := Z) p e below s kc ks Q (T.setTop { g with pc := g.pc + 3, stack := rest })) : own_FinH (Z := Z) p e below s kc ks Q (T.setTop g) := own_stepH (fun _ q => XS.icmpNo X.here hx hg hd hs hc q) k
theorem xistoreNH {k : Fin 4} {x : Int32} {rest : List Value} {l' : Array Slot} (X : Stand p l e R s' m args below meth c T locs cells slots) (hx : p.tables.exec = Jvm.exec) (hd : decode c.code g.pc = .ok (.istore_n k, 1)) (hs : g.stack = .int x :: rest) (hl : storeLocals g.locals k.val (.int x) = some l') (hg : g.method = m) (k : own_FinH (Z := Z) p e below s kc ks Q (T.setTop { g with pc := g.pc + 1, stack := rest, locals := l' })) : own_FinH (Z := Z) p e below s kc ks Q (T.setTop g) := own_stepH (fun _ q => XS.istoreN X.here hx hg hd hs hl q) k
theorem xistoreH {k : Nat} {x : Int32} {rest : List Value} {l' : Array Slot} (X : Stand p l e R s' m args below meth c T locs cells slots) (hx : p.tables.exec = Jvm.exec) (hd : decode c.code g.pc = .ok (.istore k, 2)) (hs : g.stack = .int x :: rest) (hl : storeLocals g.locals k (.int x) = some l') (hg : g.method = m) (k : own_FinH (Z := Z) p e below s kc ks Q (T.setTop { g with pc := g.pc + 2, stack := rest, locals := l' })) : own_FinH (Z := Z) p e below s kc ks Q (T.setTop g) := own_stepH (fun _ q => XS.istore X.here hx hg hd hs hl q) k
theorem xifYesH {cd : ClassFile.Cond} {x : Int32} {rest : List Value} {o : Int} (X : Stand p l e R s' m args below meth c T locs cells slots) (hx : p.tables.exec = Jvm.exec) (pc0 pc' : Nat) (hpc : g.pc = pc0) (hd : decode c.code g.pc = .ok (.ifCond cd o, 3)) (hs : g.stack = .int x :: rest) (hc : ifCond.holds cd x = true) (hg : g.method = m) (k : own_FinH (Z := Z) p e below s kc ks Q (T.setTop { g with pc := pc', stack := rest })) (ho : 0 ≤ (pc0 : Int) + o := by decide) (hp : ((pc0 : Int) + o).toNat = pc' := by decide) : own_FinH (Z := Z) p e below s kc ks Q (T.setTop g) := own_stepH (fun _ q => XS.ifYes X.here hx hg hpc hd hs hc ho hp q) k
theorem xicmpYesH {cd : ClassFile.Cond} {x y : Int32} {rest : List Value} {o : Int} (X : Stand p l e R s' m args below meth c T locs cells slots) (hx : p.tables.exec = Jvm.exec) (pc0 pc' : Nat) (hpc : g.pc = pc0) (hd : decode c.code g.pc = .ok (.if_icmp cd o, 3)) (hs : g.stack = .int y :: .int x :: rest) (hc : if_icmp.holds cd x y = true) (hg : g.method = m) (k : own_FinH (Z := Z) p e below s kc ks Q (T.setTop { g with pc := pc', stack := rest })) (ho : 0 ≤ (pc0 : Int) + o := by decide) (hp : ((pc0 : Int) + o).toNat = pc' := by decide) : own_FinH (Z := Z) p e below s kc ks Q (T.setTop g) := own_stepH (fun _ q => XS.icmpYes X.here hx hg hpc hd hs hc ho hp q) k
theorem xgotoH {o : Int} (X : Stand p l e R s' m args below meth c T locs cells slots) (hx : p.tables.exec = Jvm.exec) (pc0 pc' : Nat) (hpc : g.pc = pc0) (hd : decode c.code g.pc = .ok (.goto o, 3))  (hg : g.method = m) (k : own_FinH (Z := Z) p e below s kc ks Q (T.setTop { g with pc := pc' })) (ho : 0 ≤ (pc0 : Int) + o := by decide) (hp : ((pc0 : Int) + o).toNat = pc' := by decide) : own_FinH (Z := Z) p e below s kc ks Q (T.setTop g) := own_stepH (fun _ q => XS.goto X.here hx hg hpc hd  ho hp q) k
theorem oIH {b : Addr} (X : Stand p l e R s' m args below meth c T locs cells slots) (hx : p.tables.exec = Jvm.exec) (hZ : Z.Warmed39 s'.vm) (hown : s'.vm.findClass own = some m.cls) (hml : c.maxLocals = nl) (w1 : (Cond.methodLink own index y).before a0 Z = true) (w4 : (Cond.instanceMethod y).before a0 Z = true)
    (hM : own_Met l y bytes ml none [] rm as' Z h Qc) (wc : (Cond.code y bytes ml none).before a0 Z = true) (wz : (Cond.initialized y.cls).before a0 Z = true) (eT : T.heap = h) (argsL rest : List Value) (W : Nat) (hlen : ∀ sig, parseMethodDescriptor y.desc = some sig → argsL.length = sig.parameters.length) (hstack : g.stack = argsL.reverse ++ .ref b :: rest) (hdg : decode c.code g.pc = .ok (.invokespecial index, 3)) (hg : g.method = m) (hsz : g.locals.size = nl) (has : (Value.ref b :: argsL).toArray = as')
    (k : ∀ T' L v, Stand p l e R s' m args below meth c T' (locs ++ L) (cells + rm.cells) (slots + rm.slots) → Qc v T'.heap L → own_FinH (Z := Z) p e below s kc ks Q (T'.setTop { g with pc := g.pc + 3, stack := v.toList ++ rest }))
    (hy1 : y.name = "<init>" := by rfl) (hy : y.cls ≠ "java/lang/invoke/MethodHandle" ∧ y.cls ≠ "java/lang/invoke/VarHandle" := by decide) (hW : 2 * g.monitorRoom + (rest.map fun v => v.category).sum ≤ W := by show 2 * 0 + _ ≤ _; exact Nat.le_of_eq rfl) (hf : rm.frames + 1 ≤ R.frames := by decide) (hl : W + (ml + 11) + rm.locals ≤ R.locals := by decide) (hc1 : cells + rm.cells ≤ R.cells := by decide) (hc2 : slots + rm.slots ≤ R.slots := by decide) : own_FinH (Z := Z) p e below s kc ks Q (T.setTop g) := by
  obtain ⟨T', L, v, X', hQ, st⟩ := own_un X (X.specialBack hx (y := y) hy1 hown (mvT hZ w1) (mvT hZ w4) (mvT hZ wc) hy (backOf (W := W) hM hZ wc wz hf hl) hg (hsz.trans hml.symm) (Steps.refl _) hlen hstack hW hdg (fun _ _ => ⟨has, eT, hc1, hc2⟩))
  exact own_stepH (fun _ q => st.trans q) (k T' L v X' hQ)
theorem oUH {b : Addr} {K : String} {C : String} {y2 : MethodName} (X : Stand p l e R s' m args below meth c T locs cells slots) (hx : p.tables.exec = Jvm.exec) (hZ : Z.Warmed39 s'.vm) (hown : s'.vm.findClass own = some m.cls) (hml : c.maxLocals = nl) (w1 : (Cond.methodLink own index y).before a0 Z = true) (w4 : (Cond.instanceMethod y).before a0 Z = true) (w5 : (Cond.selects C y2 y2).before a0 Z = true) (w6 : (Cond.superclass own y.cls).before a0 Z = true)
    (hM : own_Met l y bytes ml r [] rm as' Z h Qc) (wc : (Cond.code y bytes ml r).before a0 Z = true) (wz : (Cond.initialized y.cls).before a0 Z = true) (eT : T.heap = h) (E : Exa Z h b K) (argsL rest : List Value) (W : Nat) (hlen : ∀ sig, parseMethodDescriptor y.desc = some sig → argsL.length = sig.parameters.length) (hstack : g.stack = argsL.reverse ++ .ref b :: rest) (hdg : decode c.code g.pc = .ok (.invokespecial index, 3)) (hg : g.method = m) (hsz : g.locals.size = nl) (has : (Value.ref b :: argsL).toArray = as')
    (k : ∀ T' L v, Stand p l e R s' m args below meth c T' (locs ++ L) (cells + rm.cells) (slots + rm.slots) → Qc v T'.heap L → own_FinH (Z := Z) p e below s kc ks Q (T'.setTop { g with pc := g.pc + 3, stack := v.toList ++ rest }))
    (hcc : y2.cls = y.cls := by rfl) (hy1 : y.name ≠ "<init>" := by decide) (hy : y.cls ≠ "java/lang/invoke/MethodHandle" ∧ y.cls ≠ "java/lang/invoke/VarHandle" := by decide) (hW : 2 * g.monitorRoom + (rest.map fun v => v.category).sum ≤ W := by show 2 * 0 + _ ≤ _; exact Nat.le_of_eq rfl) (hf : rm.frames + 1 ≤ R.frames := by decide) (hl : W + (ml + 11) + rm.locals ≤ R.locals := by decide) (hc1 : cells + rm.cells ≤ R.cells := by decide) (hc2 : slots + rm.slots ≤ R.slots := by decide) : own_FinH (Z := Z) p e below s kc ks Q (T.setTop g) := by
  obtain ⟨T', L, v, X', hQ, st⟩ := own_un X (superBack X hx hZ (y := y) (K := K) hown w1 (own_same w4 w5 hcc hy) w4 w6 hy1 (backOf (W := W) hM hZ wc wz hf hl) eT (Ins.self E) hg (hsz.trans hml.symm) wc hlen hstack hW hdg (fun _ _ => ⟨has, eT, hc1, hc2⟩))
  exact own_stepH (fun _ q => st.trans q) (k T' L v X' hQ)
end OwnCps
set_option maxRecDepth 65536
set_option maxHeartbeats 40000000
abbrev own_HW (Z : State) (a0 : Array Value) : Prop := ∀ d ∈ tables_1, d.before a0 Z = true
abbrev own_HS (Z : State) (a0 : Array Value) : Prop := ∀ d ∈ jdkStatics_1, d.before a0 Z = true
theorem w_ {ts : List Jvm.Cond} {Z : State} {a0 : Array Value} (hw : ∀ d ∈ ts, d.before a0 Z = true) (i : Nat) {d : Jvm.Cond} (h : ts[i]? = some d) : d.before a0 Z = true := own_w hw i h
abbrev oR (f c s l : Nat) : Room := { frames := f, cells := c, slots := s, locals := l }
abbrev oQ (r : Option Value) (h0 : Heap) (n0 : Nat) (v : Option Value) (h : Heap) (L : List Loc) : Prop := v = r ∧ Fr n0 L ∧ h = h0
abbrev oF := @own_Fin
abbrev oFH {Z : State} := @own_FinH Z
theorem oS {p : Program} {e : Env} {below : List Frame} {s : State} {kc ks : Nat} {Q : Option Value → Heap → List Loc → Prop} {S S' : State} (h : ∀ t, Steps p.tables e below S' t → Steps p.tables e below S t) (k : own_Fin p e below s kc ks Q S') : own_Fin p e below s kc ks Q S := own_step h k
theorem oH {Z : State} {p : Program} {e : Env} {below : List Frame} {s : State} {kc ks : Nat} {Q : Option Value → Heap → List Loc → Prop} {S S' : State} (h : ∀ t, Steps p.tables e below S' t → Steps p.tables e below S t) (k : own_FinH (Z := Z) p e below s kc ks Q S') : own_FinH (Z := Z) p e below s kc ks Q S := own_stepH h k
abbrev J0 : Value := .int (0 : Int32)
abbrev J1 : Value := .int (1 : Int32)
abbrev J2 : Value := .int (2 : Int32)
abbrev J3 : Value := .int (3 : Int32)
abbrev J4 : Value := .int (4 : Int32)
abbrev J16 : Value := .int (16 : Int32)
abbrev J53 : Value := .int (53 : Int32)
abbrev J255 : Value := .int (255 : Int32)
abbrev cN0 : String := "java/lang/String"
abbrev cN1 : String := "java/lang/StringBuilder"
abbrev cN2 : String := "java/lang/AbstractStringBuilder"
abbrev cN3 : String := "com/example/nearfield/nearfield/JoinedText"
def own_r1 (p0 : Int32) (p1 : Int32) : Int32 := (if p1 < p0 then p1 else p0)
abbrev b0_ : ByteArray := jdk_29_method_69_code
theorem d0_0 : decode b0_ 0 = .ok (.iload_n 0, 1) := by decide +kernel
theorem d0_1 : decode b0_ 1 = .ok (.iload_n 1, 1) := by decide +kernel
theorem d0_2 : decode b0_ 2 = .ok (.if_icmp .gt 7, 3) := by decide +kernel
theorem d0_5 : decode b0_ 5 = .ok (.iload_n 0, 1) := by decide +kernel
theorem d0_6 : decode b0_ 6 = .ok (.goto 4, 3) := by decide +kernel
theorem d0_9 : decode b0_ 9 = .ok (.iload_n 1, 1) := by decide +kernel
theorem d0_10 : decode b0_ 10 = .ok (.ireturn, 1) := by decide +kernel
abbrev own_y0 : MethodName := (⟨"java/lang/Math", "min", "(II)I"⟩ : MethodName)
theorem own_rm1 {l : Launch} {Z : State} {a0 : Array Value} (hw : own_HW Z a0) (hs : own_HS Z a0) (p0 p1 : Int32) (h0 : Heap) (n0 : Nat) (Z0 : n0 ≤ h0.size) :
    own_Met l own_y0 jdk_29_method_69_code 2 (some .int) [] (oR 0 0 0 0) #[(.int p0), (.int p1)] Z h0 (oQ (some (.int (own_r1 p0 p1))) h0 n0) := by
  refine own_body (Jvm.Free.JP.mathPlain rfl (by decide +kernel)) (own := "java/lang/Math") rfl (L0 := #[iv p0, iv p1]) fun p e s m below meth c s₁ hx hby hlk hml hown hnm X0 hZ e0 hh hret => ?_
  have N0 := Fr.nil n0
  refine xiloadN X0 hx (hb hby d0_0) rfl rfl ?_
  refine xiloadN X0 hx (hb hby d0_1) rfl rfl ?_
  by_cases hc1 : p1 < p0
  · refine xicmpYes X0 hx 2 9 rfl (hb hby d0_2) rfl (tlt hc1).2.2.1 rfl ?_
    refine xiloadN X0 hx (hb hby d0_9) rfl rfl ?_
    exact oRI X0 hx hlk hret (hb hby d0_10) (by rw [e0]; exact ⟨(congrArg (fun z => some (Value.int z)) (show (own_r1 p0 p1) = p1 from by rw [own_r1, if_pos hc1]).symm), N0, rfl⟩)
  · refine xicmpNo X0 hx (hb hby d0_2) rfl (flt hc1).2.2.1 rfl ?_
    refine xiloadN X0 hx (hb hby d0_5) rfl rfl ?_
    refine xgoto X0 hx 6 10 rfl (hb hby d0_6) rfl ?_
    exact oRI X0 hx hlk hret (hb hby d0_10) (by rw [e0]; exact ⟨(congrArg (fun z => some (Value.int z)) (show (own_r1 p0 p1) = p0 from by rw [own_r1, if_neg hc1]).symm), N0, rfl⟩)

abbrev b1_ : ByteArray := jdk_42_method_152_code
theorem d1_0 : decode b1_ 0 = .ok (.getstatic 38, 3) := by decide +kernel
theorem d1_3 : decode b1_ 3 = .ok (.ifCond .eq 10, 3) := by decide +kernel
theorem d1_6 : decode b1_ 6 = .ok (.aload_n 0, 1) := by decide +kernel
theorem d1_7 : decode b1_ 7 = .ok (.getfield 15, 3) := by decide +kernel
theorem d1_10 : decode b1_ 10 = .ok (.goto 4, 3) := by decide +kernel
theorem d1_14 : decode b1_ 14 = .ok (.ireturn, 1) := by decide +kernel
theorem own_pn0 : plainName "java/lang/String" = true := by first | (simp [plainName, overriddenIn]; done) | decide +kernel
abbrev own_y1 : MethodName := (⟨"java/lang/String", "coder", "()B"⟩ : MethodName)
theorem own_rm2 {l : Launch} {Z : State} {a0 : Array Value} (hw : own_HW Z a0) (hs : own_HS Z a0) (ad0 : Addr) (zaa : Int32) (h0 : Heap) (n0 : Nat) (Z0 : n0 ≤ h0.size) (zac : Sta Z h0 cN0 "COMPACT_STRINGS" "Z" (.int zaa)) (hc3 : ¬ (zaa = (0 : Int32))) (zak : Fld Z h0 ad0 cN0 "coder" "B" J0) :
    own_Met l own_y1 jdk_42_method_152_code 1 (some .byte) [] (oR 0 0 0 0) #[(.ref ad0)] Z h0 (oQ (some J0) h0 n0) := by
  refine own_body (plainFor_of_name own_pn0) (own := "java/lang/String") rfl (L0 := #[rv ad0]) fun p e s m below meth c s₁ hx hby hlk hml hown hnm X0 hZ e0 hh hret => ?_
  have N0 := Fr.nil n0
  obtain ⟨T1, X1, e1, st1⟩ := getS2 X0 hx hZ hown (host := "") (Or.inl (w_ hw 117 rfl)) Via.refl e0 zac (g := (mkF m 0 #[rv ad0] [])) rfl (hb hby d1_0)
  refine oS st1 ?_
  refine xifNo X1 hx (hb hby d1_3) rfl ((if0 _ _).trans (feq hc3).1) rfl ?_
  refine xaloadN X1 hx (hb hby d1_6) rfl rfl rfl ?_
  refine oG X1 hx hZ hown (w_ hw 29 rfl) e1 zak (hb hby d1_7) rfl rfl fun T2 X2 e2 => ?_
  refine xgoto X2 hx 10 14 rfl (hb hby d1_10) rfl ?_
  exact own_ret X2 hlk (v := some J0) (fun h => by rw [hret] at h; cases h) (by decide) (by decide) (by rw [e2]; exact ⟨rfl, N0, rfl⟩) (fun fs hr => retN X2 hx (t := .byte) hret (by simp) (hb hby d1_14) hr)

abbrev b2_ : ByteArray := jdk_42_method_154_code
theorem d2_0 : decode b2_ 0 = .ok (.getstatic 38, 3) := by decide +kernel
theorem d2_3 : decode b2_ 3 = .ok (.ifCond .eq 14, 3) := by decide +kernel
theorem d2_6 : decode b2_ 6 = .ok (.aload_n 0, 1) := by decide +kernel
theorem d2_7 : decode b2_ 7 = .ok (.getfield 15, 3) := by decide +kernel
theorem d2_10 : decode b2_ 10 = .ok (.ifCond .ne 7, 3) := by decide +kernel
theorem d2_13 : decode b2_ 13 = .ok (.iconst 1, 1) := by decide +kernel
theorem d2_14 : decode b2_ 14 = .ok (.goto 4, 3) := by decide +kernel
theorem d2_18 : decode b2_ 18 = .ok (.ireturn, 1) := by decide +kernel
abbrev own_y2 : MethodName := (⟨"java/lang/String", "isLatin1", "()Z"⟩ : MethodName)
theorem own_rm3 {l : Launch} {Z : State} {a0 : Array Value} (hw : own_HW Z a0) (hs : own_HS Z a0) (ad0 : Addr) (zaa : Int32) (h0 : Heap) (n0 : Nat) (Z0 : n0 ≤ h0.size) (zac : Sta Z h0 cN0 "COMPACT_STRINGS" "Z" (.int zaa)) (hc3 : ¬ (zaa = (0 : Int32))) (zak : Fld Z h0 ad0 cN0 "coder" "B" J0) :
    own_Met l own_y2 jdk_42_method_154_code 1 (some .boolean) [] (oR 0 0 0 0) #[(.ref ad0)] Z h0 (oQ (some J1) h0 n0) := by
  refine own_body (plainFor_of_name own_pn0) (own := "java/lang/String") rfl (L0 := #[rv ad0]) fun p e s m below meth c s₁ hx hby hlk hml hown hnm X0 hZ e0 hh hret => ?_
  have N0 := Fr.nil n0
  obtain ⟨T1, X1, e1, st1⟩ := getS2 X0 hx hZ hown (host := "") (Or.inl (w_ hw 117 rfl)) Via.refl e0 zac (g := (mkF m 0 #[rv ad0] [])) rfl (hb hby d2_0)
  refine oS st1 ?_
  refine xifNo X1 hx (hb hby d2_3) rfl ((if0 _ _).trans (feq hc3).1) rfl ?_
  refine xaloadN X1 hx (hb hby d2_6) rfl rfl rfl ?_
  refine oG X1 hx hZ hown (w_ hw 29 rfl) e1 zak (hb hby d2_7) rfl rfl fun T2 X2 e2 => ?_
  refine xifNo X2 hx (hb hby d2_10) rfl ((if0 _ _).trans (teq (by decide : (0 : Int32) = (0 : Int32))).2) rfl ?_
  refine xiconst X2 hx (hb hby d2_13) rfl ?_
  refine xgoto X2 hx 14 18 rfl (hb hby d2_14) rfl ?_
  exact own_ret X2 hlk (v := some J1) (fun h => by rw [hret] at h; cases h) (by decide) (by decide) (by rw [e2]; exact ⟨rfl, N0, rfl⟩) (fun fs hr => retN X2 hx (t := .boolean) hret (by simp) (hb hby d2_18) hr)

theorem own_pd0 : parseMethodDescriptor "()B" = some ⟨[], some .byte⟩ := by decide +kernel
abbrev b3_ : ByteArray := jdk_42_method_54_code
theorem d3_0 : decode b3_ 0 = .ok (.aload_n 0, 1) := by decide +kernel
theorem d3_1 : decode b3_ 1 = .ok (.getfield 9, 3) := by decide +kernel
theorem d3_4 : decode b3_ 4 = .ok (.arraylength, 1) := by decide +kernel
theorem d3_5 : decode b3_ 5 = .ok (.aload_n 0, 1) := by decide +kernel
theorem d3_6 : decode b3_ 6 = .ok (.invokevirtual 335, 3) := by decide +kernel
theorem d3_9 : decode b3_ 9 = .ok (.ishr, 1) := by decide +kernel
theorem d3_10 : decode b3_ 10 = .ok (.ireturn, 1) := by decide +kernel
abbrev own_y3 : MethodName := (⟨"java/lang/String", "length", "()I"⟩ : MethodName)
theorem own_rm4 {l : Launch} {Z : State} {a0 : Array Value} (hw : own_HW Z a0) (hs : own_HS Z a0) (ad0 zae : Addr) (zaj : ClassId) (zao : List Value) (zai zaa : Int32) (h0 : Heap) (n0 : Nat) (Z0 : n0 ≤ h0.size) (hB0 : own_T Z h0 ad0 zae zaj zai  zao) (zac : Sta Z h0 cN0 "COMPACT_STRINGS" "Z" (.int zaa)) (hc3_6 : ¬ (zaa = (0 : Int32))) :
    own_Met l own_y3 jdk_42_method_54_code 1 (some .int) [] (oR 1 0 0 13) #[(.ref ad0)] Z h0 (oQ (some (.int zai)) h0 n0) := by
  refine own_body (plainFor_of_name own_pn0) (own := "java/lang/String") rfl (L0 := #[rv ad0]) fun p e s m below meth c s₁ hx hby hlk hml hown hnm X0 hZ e0 hh hret => ?_
  obtain ⟨zad, zal, zak, zam⟩ := hB0
  have N0 := Fr.nil n0
  refine xaloadN X0 hx (hb hby d3_0) rfl rfl rfl ?_
  refine oG X0 hx hZ hown (w_ hw 28 rfl) e0 zal (hb hby d3_1) rfl rfl fun T1 X1 e1 => ?_
  obtain ⟨cl2, Ar2, q2, Sz2, Ng2, Hs2, Gf2⟩ := id zam
  refine oS (fun _ k => X1.arraylength hx (by rw [e1]; exact Ar2.1) (State.isArrayOf_alike hZ.alike Ar2.2.1) (g := (mkF m 4 #[rv ad0] [(.ref zae)])) rfl rfl (hb hby d3_4) _ k) ?_
  rw [len_of Sz2 Ng2]
  show oF p e below s _ _ _ (T1.setTop (mkF m 5 #[rv ad0] [(.int zai)]))
  refine xaloadN X1 hx (hb hby d3_5) rfl rfl rfl ?_
  refine oV X1 hx hZ hown hml (w_ hw 112 rfl) (w_ hw 113 rfl) (w_ hw 115 rfl) (w_ hw 114 rfl) (own_rm2 hw hs ad0 zaa h0 n0 Z0 zac hc3_6 zak) (w_ hw 116 rfl) (w_ hw 10 rfl) e1 zad [] [(.int zai)] 1 (lenOf own_pd0 rfl) rfl (hb hby d3_6) rfl rfl rfl fun T3 L3 v3 X3 hQ3 => ?_
  obtain ⟨rfl, N3q, e3⟩ := hQ3
  have N3 := Fr.app N0 N3q
  refine oS (fun _ k => XS.ishr X3.here hx rfl (hb hby d3_9) rfl k) ?_
  show oF p e below s _ _ _ (T3.setTop (mkF m 10 #[rv ad0] [(.int (zai >>> ((0 : Int32) &&& 31)))]))
  rw [show (zai >>> ((0 : Int32) &&& 31)) = zai from own_shr0 _]
  show oF p e below s _ _ _ (T3.setTop (mkF m 10 #[rv ad0] [(.int zai)]))
  exact oRI X3 hx hlk hret (hb hby d3_10) (by rw [e3]; exact ⟨rfl, N3, rfl⟩)

abbrev b4_ : ByteArray := jdk_42_method_55_code
theorem d4_0 : decode b4_ 0 = .ok (.aload_n 0, 1) := by decide +kernel
theorem d4_1 : decode b4_ 1 = .ok (.getfield 9, 3) := by decide +kernel
theorem d4_4 : decode b4_ 4 = .ok (.arraylength, 1) := by decide +kernel
theorem d4_5 : decode b4_ 5 = .ok (.ifCond .ne 7, 3) := by decide +kernel
theorem d4_8 : decode b4_ 8 = .ok (.iconst 1, 1) := by decide +kernel
theorem d4_9 : decode b4_ 9 = .ok (.goto 4, 3) := by decide +kernel
theorem d4_13 : decode b4_ 13 = .ok (.ireturn, 1) := by decide +kernel
abbrev own_y4 : MethodName := (⟨"java/lang/String", "isEmpty", "()Z"⟩ : MethodName)
theorem own_rm5 {l : Launch} {Z : State} {a0 : Array Value} (hw : own_HW Z a0) (hs : own_HS Z a0) (ad0 zae : Addr) (zaj : ClassId) (zcm zcn zco zcp : Int32) (h0 : Heap) (n0 : Nat) (Z0 : n0 ≤ h0.size) (hB0 : own_S Z h0 ad0 zae zaj (0 : Int32)  zcm zcn zco zcp) :
    own_Met l own_y4 jdk_42_method_55_code 1 (some .boolean) [] (oR 0 0 0 0) #[(.ref ad0)] Z h0 (oQ (some J1) h0 n0) := by
  refine own_body (plainFor_of_name own_pn0) (own := "java/lang/String") rfl (L0 := #[rv ad0]) fun p e s m below meth c s₁ hx hby hlk hml hown hnm X0 hZ e0 hh hret => ?_
  obtain ⟨zad, zal, zak, zam⟩ := hB0
  have N0 := Fr.nil n0
  refine xaloadN X0 hx (hb hby d4_0) rfl rfl rfl ?_
  refine oG X0 hx hZ hown (w_ hw 28 rfl) e0 zal (hb hby d4_1) rfl rfl fun T1 X1 e1 => ?_
  obtain ⟨cl2, Ar2, q2, Sz2, Ng2, Hs2, Gf2⟩ := id zam
  refine oS (fun _ k => X1.arraylength hx (by rw [e1]; exact Ar2.1) (State.isArrayOf_alike hZ.alike Ar2.2.1) (g := (mkF m 4 #[rv ad0] [(.ref zae)])) rfl rfl (hb hby d4_4) _ k) ?_
  rw [len_of Sz2 Ng2]
  show oF p e below s _ _ _ (T1.setTop (mkF m 5 #[rv ad0] [J0]))
  refine xifNo X1 hx (hb hby d4_5) rfl ((if0 _ _).trans (teq (by decide : (0 : Int32) = (0 : Int32))).2) rfl ?_
  refine xiconst X1 hx (hb hby d4_8) rfl ?_
  refine xgoto X1 hx 9 13 rfl (hb hby d4_9) rfl ?_
  exact own_ret X1 hlk (v := some J1) (fun h => by rw [hret] at h; cases h) (by decide) (by decide) (by rw [e1]; exact ⟨rfl, N0, rfl⟩) (fun fs hr => retN X1 hx (t := .boolean) hret (by simp) (hb hby d4_13) hr)

theorem d4_12 : decode b4_ 12 = .ok (.iconst 0, 1) := by decide +kernel
theorem own_rm6 {l : Launch} {Z : State} {a0 : Array Value} (hw : own_HW Z a0) (hs : own_HS Z a0) (ad0 zae : Addr) (zaj : ClassId) (zao : List Value) (zai : Int32) (h0 : Heap) (n0 : Nat) (Z0 : n0 ≤ h0.size) (hB0 : own_T Z h0 ad0 zae zaj zai  zao) (hc5 : ¬ (zai = (0 : Int32))) :
    own_Met l own_y4 jdk_42_method_55_code 1 (some .boolean) [] (oR 0 0 0 0) #[(.ref ad0)] Z h0 (oQ (some J0) h0 n0) := by
  refine own_body (plainFor_of_name own_pn0) (own := "java/lang/String") rfl (L0 := #[rv ad0]) fun p e s m below meth c s₁ hx hby hlk hml hown hnm X0 hZ e0 hh hret => ?_
  obtain ⟨zad, zal, zak, zam⟩ := hB0
  have N0 := Fr.nil n0
  refine xaloadN X0 hx (hb hby d4_0) rfl rfl rfl ?_
  refine oG X0 hx hZ hown (w_ hw 28 rfl) e0 zal (hb hby d4_1) rfl rfl fun T1 X1 e1 => ?_
  obtain ⟨cl2, Ar2, q2, Sz2, Ng2, Hs2, Gf2⟩ := id zam
  refine oS (fun _ k => X1.arraylength hx (by rw [e1]; exact Ar2.1) (State.isArrayOf_alike hZ.alike Ar2.2.1) (g := (mkF m 4 #[rv ad0] [(.ref zae)])) rfl rfl (hb hby d4_4) _ k) ?_
  rw [len_of Sz2 Ng2]
  show oF p e below s _ _ _ (T1.setTop (mkF m 5 #[rv ad0] [(.int zai)]))
  refine xifYes X1 hx 5 12 rfl (hb hby d4_5) rfl ((if0 _ _).trans (feq hc5).2) rfl ?_
  refine xiconst X1 hx (hb hby d4_12) rfl ?_
  exact own_ret X1 hlk (v := some J0) (fun h => by rw [hret] at h; cases h) (by decide) (by decide) (by rw [e1]; exact ⟨rfl, N0, rfl⟩) (fun fs hr => retN X1 hx (t := .boolean) hret (by simp) (hb hby d4_13) hr)

abbrev b5_ : ByteArray := jdk_41_method_11_code
theorem d5_0 : decode b5_ 0 = .ok (.iload_n 0, 1) := by decide +kernel
theorem d5_1 : decode b5_ 1 = .ok (.ifCond .lt 8, 3) := by decide +kernel
theorem d5_4 : decode b5_ 4 = .ok (.iload_n 0, 1) := by decide +kernel
theorem d5_5 : decode b5_ 5 = .ok (.iload_n 1, 1) := by decide +kernel
theorem d5_6 : decode b5_ 6 = .ok (.if_icmp .lt 10, 3) := by decide +kernel
theorem d5_16 : decode b5_ 16 = .ok (.iload_n 0, 1) := by decide +kernel
theorem d5_17 : decode b5_ 17 = .ok (.ireturn, 1) := by decide +kernel
theorem own_pn1 : plainName "jdk/internal/util/Preconditions" = true := by first | (simp [plainName, overriddenIn]; done) | decide +kernel
theorem own_ef7 (m : MethodId) (p0 : Int32) (p1 : Int32) (v2 : Value) (zdw : v2.isRef = true) : entryFrame m #[(.int p0), (.int p1), v2] 3 = mkF m 0 #[.val (.int p0), .val (.int p1), .val v2] [] := by rcases ref_cases zdw with rfl | ⟨_, rfl⟩ <;> first | (simp [entryFrame, mkF, argsToLocals, Value.category]; done) | rfl
abbrev own_y5 : MethodName := (⟨"jdk/internal/util/Preconditions", "checkIndex", "(IILjava/util/function/BiFunction;)I"⟩ : MethodName)
theorem own_rm7 {l : Launch} {Z : State} {a0 : Array Value} (hw : own_HW Z a0) (hs : own_HS Z a0) (p0 p1 : Int32) (v2 : Value) (h0 : Heap) (n0 : Nat) (Z0 : n0 ≤ h0.size) (zdw : v2.isRef = true) (hc1 : ¬ (p0 < (0 : Int32))) (hc6 : p0 < p1) :
    own_Met l own_y5 jdk_41_method_11_code 3 (some .int) [] (oR 0 0 0 0) #[(.int p0), (.int p1), v2] Z h0 (oQ (some (.int p0)) h0 n0) := by
  refine own_body (plainFor_of_name own_pn1) (own := "jdk/internal/util/Preconditions") rfl (ef := fun m => own_ef7 m p0 p1 v2 zdw) fun p e s m below meth c s₁ hx hby hlk hml hown hnm X0 hZ e0 hh hret => ?_
  have N0 := Fr.nil n0
  refine xiloadN X0 hx (hb hby d5_0) rfl rfl ?_
  refine xifNo X0 hx (hb hby d5_1) rfl ((if0 _ _).trans (flt hc1).1) rfl ?_
  refine xiloadN X0 hx (hb hby d5_4) rfl rfl ?_
  refine xiloadN X0 hx (hb hby d5_5) rfl rfl ?_
  refine xicmpYes X0 hx 6 16 rfl (hb hby d5_6) rfl (tlt hc6).1 rfl ?_
  refine xiloadN X0 hx (hb hby d5_16) rfl rfl ?_
  exact oRI X0 hx hlk hret (hb hby d5_17) (by rw [e0]; exact ⟨rfl, N0, rfl⟩)

theorem own_pd1 : parseMethodDescriptor "(IILjava/util/function/BiFunction;)I" = some ⟨[.int, .int, (.object "java/util/function/BiFunction")], some .int⟩ := by decide +kernel
abbrev b6_ : ByteArray := jdk_42_method_155_code
theorem d6_0 : decode b6_ 0 = .ok (.iload_n 0, 1) := by decide +kernel
theorem d6_1 : decode b6_ 1 = .ok (.iload_n 1, 1) := by decide +kernel
theorem d6_2 : decode b6_ 2 = .ok (.getstatic 1053, 3) := by decide +kernel
theorem d6_5 : decode b6_ 5 = .ok (.invokestatic 1059, 3) := by decide +kernel
theorem d6_8 : decode b6_ 8 = .ok (.pop, 1) := by decide +kernel
theorem d6_9 : decode b6_ 9 = .ok (.return_, 1) := by decide +kernel
abbrev own_y6 : MethodName := (⟨"java/lang/String", "checkIndex", "(II)V"⟩ : MethodName)
theorem own_rm8 {l : Launch} {Z : State} {a0 : Array Value} (hw : own_HW Z a0) (hs : own_HS Z a0) (p0 p1 : Int32) (zab : Value) (h0 : Heap) (n0 : Nat) (Z0 : n0 ≤ h0.size) (zaf : zab.isRef = true) (zan : Sta Z h0 "jdk/internal/util/Preconditions" "SIOOBE_FORMATTER" "Ljava/util/function/BiFunction;" zab) (hc1_5 : ¬ (p0 < (0 : Int32))) (hc6_5 : p0 < p1) :
    own_Met l own_y6 jdk_42_method_155_code 2 none [] (oR 1 0 0 14) #[(.int p0), (.int p1)] Z h0 (oQ (none) h0 n0) := by
  refine own_body (plainFor_of_name own_pn0) (own := "java/lang/String") rfl (L0 := #[iv p0, iv p1]) fun p e s m below meth c s₁ hx hby hlk hml hown hnm X0 hZ e0 hh hret => ?_
  have N0 := Fr.nil n0
  refine xiloadN X0 hx (hb hby d6_0) rfl rfl ?_
  refine xiloadN X0 hx (hb hby d6_1) rfl rfl ?_
  obtain ⟨T1, X1, e1, st1⟩ := getS2 X0 hx hZ hown (host := "") (Or.inl (w_ hw 247 rfl)) Via.refl e0 zan (g := (mkF m 2 #[iv p0, iv p1] [(.int p1), (.int p0)])) rfl (hb hby d6_2)
  refine oS st1 ?_
  refine oC X1 hx hZ hown hml (w_ hw 249 rfl) (w_ hw 250 rfl) (own_rm7 hw hs p0 p1 zab h0 n0 Z0 zaf hc1_5 hc6_5) (w_ hw 251 rfl) (w_ hw 248 rfl) e1 [(.int p0), (.int p1), zab] [] 0 (lenOf own_pd1 rfl) rfl (hb hby d6_5) rfl rfl rfl fun T2 L2 v2 X2 hQ2 => ?_
  obtain ⟨rfl, N2q, e2⟩ := hQ2
  have N2 := Fr.app N0 N2q
  refine oS (fun _ k => XS.pop X2.here hx rfl (hb hby d6_8) rfl rfl k) ?_
  exact oRV X2 hx hlk hret (hb hby d6_9) (by rw [e2]; exact ⟨rfl, N2, rfl⟩)

theorem own_pd2 : parseMethodDescriptor "(II)V" = some ⟨[.int, .int], none⟩ := by decide +kernel
abbrev b7_ : ByteArray := jdk_43_method_2_code
theorem d7_0 : decode b7_ 0 = .ok (.iload_n 1, 1) := by decide +kernel
theorem d7_1 : decode b7_ 1 = .ok (.aload_n 0, 1) := by decide +kernel
theorem d7_2 : decode b7_ 2 = .ok (.arraylength, 1) := by decide +kernel
theorem d7_3 : decode b7_ 3 = .ok (.invokestatic 9, 3) := by decide +kernel
theorem d7_6 : decode b7_ 6 = .ok (.aload_n 0, 1) := by decide +kernel
theorem d7_7 : decode b7_ 7 = .ok (.iload_n 1, 1) := by decide +kernel
theorem d7_8 : decode b7_ 8 = .ok (.baload, 1) := by decide +kernel
theorem d7_9 : decode b7_ 9 = .ok (.sipush 255, 3) := by decide +kernel
theorem d7_12 : decode b7_ 12 = .ok (.iand, 1) := by decide +kernel
theorem d7_13 : decode b7_ 13 = .ok (.i2c, 1) := by decide +kernel
theorem d7_14 : decode b7_ 14 = .ok (.ireturn, 1) := by decide +kernel
theorem own_pn2 : plainName "java/lang/StringLatin1" = true := by first | (simp [plainName, overriddenIn]; done) | decide +kernel
abbrev own_y7 : MethodName := (⟨"java/lang/StringLatin1", "charAt", "([BI)C"⟩ : MethodName)
theorem own_rm9 {l : Launch} {Z : State} {a0 : Array Value} (hw : own_HW Z a0) (hs : own_HS Z a0) (ad0 : Addr) (zch : ClassId) (zax zaz zcs zct zbu : Int32) (zab : Value) (h0 : Heap) (n0 : Nat) (Z0 : n0 ≤ h0.size) (zbv : Arv Z h0 ad0 zch .byte zbu [(.int zax), (.int zaz), (.int zcs), (.int zct)] J0) (zcu : ¬ (zbu < (1 : Int32))) (zaf : zab.isRef = true) (zan : Sta Z h0 "jdk/internal/util/Preconditions" "SIOOBE_FORMATTER" "Ljava/util/function/BiFunction;" zab) :
    own_Met l own_y7 jdk_43_method_2_code 2 (some .char) [] (oR 2 0 0 27) #[(.ref ad0), J0] Z h0 (oQ (some (.int (nar .char ((zax &&& (255 : Int32)).toUInt32.toUInt16.toUInt32.toInt32)))) h0 n0) := by
  refine own_body (plainFor_of_name own_pn2) (own := "java/lang/StringLatin1") rfl (L0 := #[rv ad0, iv (0 : Int32)]) fun p e s m below meth c s₁ hx hby hlk hml hown hnm X0 hZ e0 hh hret => ?_
  have N0 := Fr.nil n0
  refine xiloadN X0 hx (hb hby d7_0) rfl rfl ?_
  refine xaloadN X0 hx (hb hby d7_1) rfl rfl rfl ?_
  obtain ⟨cl1, Ar1, q1, Sz1, Ng1, Hs1, Gf1⟩ := id zbv
  refine oS (fun _ k => X0.arraylength hx (by rw [e0]; exact Ar1.1) (State.isArrayOf_alike hZ.alike Ar1.2.1) (g := (mkF m 2 #[rv ad0, iv (0 : Int32)] [(.ref ad0), J0])) rfl rfl (hb hby d7_2) _ k) ?_
  rw [len_of Sz1 Ng1]
  show oF p e below s _ _ _ (s₁.setTop (mkF m 3 #[rv ad0, iv (0 : Int32)] [(.int zbu), J0]))
  refine oC X0 hx hZ hown hml (w_ hw 244 rfl) (w_ hw 245 rfl) (own_rm8 hw hs ((0 : Int32)) zbu zab h0 n0 Z0 zaf zan (show ¬ ((0 : Int32) < (0 : Int32)) from (by first | decide | assumption | exact Nat.le_of_ble_eq_true rfl)) (show (0 : Int32) < zbu from own_ltn zcu (by decide))) (w_ hw 246 rfl) (w_ hw 10 rfl) e0 [J0, (.int zbu)] [] 0 (lenOf own_pd2 rfl) rfl (hb hby d7_3) rfl rfl rfl fun T2 L2 v2 X2 hQ2 => ?_
  obtain ⟨rfl, N2q, e2⟩ := hQ2
  have N2 := Fr.app N0 N2q
  refine xaloadN X2 hx (hb hby d7_6) rfl rfl rfl ?_
  refine xiloadN X2 hx (hb hby d7_7) rfl rfl ?_
  obtain ⟨cl3, Ar3, q3, Sz3, Ng3, Hs3, Gf3⟩ := id zbv
  have hin3 : ¬ ((0 : Int32) < 0 ∨ cl3.slots.size ≤ ((0 : Int32)).toNatClampNeg) := inb_of Sz3 ⟨by decide, own_ltn zcu (by decide)⟩
  refine oS (fun _ k => X2.baloadBytes hx (j := (0 : Int32)) (v := (.int zax)) (by rw [e2]; exact Ar3.1) (State.isArrayOf_alike hZ.alike Ar3.2.1) Ar3.2.2 hin3 (Has.at Hs3 hin3 rfl) (g := (mkF m 8 #[rv ad0, iv (0 : Int32)] [J0, (.ref ad0)])) rfl rfl (hb hby d7_8) _ k) ?_
  refine oS (fun _ k => XS.sipush X2.here hx rfl (hb hby d7_9) k) ?_
  refine oS (fun _ k => XS.iand X2.here hx rfl (hb hby d7_12) rfl k) ?_
  refine oS (fun _ k => XS.i2c X2.here hx rfl (hb hby d7_13) rfl k) ?_
  exact own_ret X2 hlk (v := some (.int (nar .char ((zax &&& (255 : Int32)).toUInt32.toUInt16.toUInt32.toInt32)))) (fun h => by rw [hret] at h; cases h) (by decide) (by decide) (by rw [e2]; exact ⟨rfl, N2, rfl⟩) (fun fs hr => retN X2 hx (t := .char) hret (by simp) (hb hby d7_14) hr)

theorem own_rm10 {l : Launch} {Z : State} {a0 : Array Value} (hw : own_HW Z a0) (hs : own_HS Z a0) (ad0 : Addr) (zch : ClassId) (zax zaz zcs zct zbu : Int32) (zab : Value) (h0 : Heap) (n0 : Nat) (Z0 : n0 ≤ h0.size) (zbv : Arv Z h0 ad0 zch .byte zbu [(.int zax), (.int zaz), (.int zcs), (.int zct)] J0) (zcu : ¬ (zbu < (2 : Int32))) (zaf : zab.isRef = true) (zan : Sta Z h0 "jdk/internal/util/Preconditions" "SIOOBE_FORMATTER" "Ljava/util/function/BiFunction;" zab) :
    own_Met l own_y7 jdk_43_method_2_code 2 (some .char) [] (oR 2 0 0 27) #[(.ref ad0), J1] Z h0 (oQ (some (.int (nar .char ((zaz &&& (255 : Int32)).toUInt32.toUInt16.toUInt32.toInt32)))) h0 n0) := by
  refine own_body (plainFor_of_name own_pn2) (own := "java/lang/StringLatin1") rfl (L0 := #[rv ad0, iv (1 : Int32)]) fun p e s m below meth c s₁ hx hby hlk hml hown hnm X0 hZ e0 hh hret => ?_
  have N0 := Fr.nil n0
  refine xiloadN X0 hx (hb hby d7_0) rfl rfl ?_
  refine xaloadN X0 hx (hb hby d7_1) rfl rfl rfl ?_
  obtain ⟨cl1, Ar1, q1, Sz1, Ng1, Hs1, Gf1⟩ := id zbv
  refine oS (fun _ k => X0.arraylength hx (by rw [e0]; exact Ar1.1) (State.isArrayOf_alike hZ.alike Ar1.2.1) (g := (mkF m 2 #[rv ad0, iv (1 : Int32)] [(.ref ad0), J1])) rfl rfl (hb hby d7_2) _ k) ?_
  rw [len_of Sz1 Ng1]
  show oF p e below s _ _ _ (s₁.setTop (mkF m 3 #[rv ad0, iv (1 : Int32)] [(.int zbu), J1]))
  refine oC X0 hx hZ hown hml (w_ hw 244 rfl) (w_ hw 245 rfl) (own_rm8 hw hs ((1 : Int32)) zbu zab h0 n0 Z0 zaf zan (show ¬ ((1 : Int32) < (0 : Int32)) from (by first | decide | assumption | exact Nat.le_of_ble_eq_true rfl)) (show (1 : Int32) < zbu from own_ltn zcu (by decide))) (w_ hw 246 rfl) (w_ hw 10 rfl) e0 [J1, (.int zbu)] [] 0 (lenOf own_pd2 rfl) rfl (hb hby d7_3) rfl rfl rfl fun T2 L2 v2 X2 hQ2 => ?_
  obtain ⟨rfl, N2q, e2⟩ := hQ2
  have N2 := Fr.app N0 N2q
  refine xaloadN X2 hx (hb hby d7_6) rfl rfl rfl ?_
  refine xiloadN X2 hx (hb hby d7_7) rfl rfl ?_
  obtain ⟨cl3, Ar3, q3, Sz3, Ng3, Hs3, Gf3⟩ := id zbv
  have hin3 : ¬ ((1 : Int32) < 0 ∨ cl3.slots.size ≤ ((1 : Int32)).toNatClampNeg) := inb_of Sz3 ⟨by decide, own_ltn zcu (by decide)⟩
  refine oS (fun _ k => X2.baloadBytes hx (j := (1 : Int32)) (v := (.int zaz)) (by rw [e2]; exact Ar3.1) (State.isArrayOf_alike hZ.alike Ar3.2.1) Ar3.2.2 hin3 (Has.at Hs3 hin3 rfl) (g := (mkF m 8 #[rv ad0, iv (1 : Int32)] [J1, (.ref ad0)])) rfl rfl (hb hby d7_8) _ k) ?_
  refine oS (fun _ k => XS.sipush X2.here hx rfl (hb hby d7_9) k) ?_
  refine oS (fun _ k => XS.iand X2.here hx rfl (hb hby d7_12) rfl k) ?_
  refine oS (fun _ k => XS.i2c X2.here hx rfl (hb hby d7_13) rfl k) ?_
  exact own_ret X2 hlk (v := some (.int (nar .char ((zaz &&& (255 : Int32)).toUInt32.toUInt16.toUInt32.toInt32)))) (fun h => by rw [hret] at h; cases h) (by decide) (by decide) (by rw [e2]; exact ⟨rfl, N2, rfl⟩) (fun fs hr => retN X2 hx (t := .char) hret (by simp) (hb hby d7_14) hr)

theorem own_rm11 {l : Launch} {Z : State} {a0 : Array Value} (hw : own_HW Z a0) (hs : own_HS Z a0) (ad0 : Addr) (zch : ClassId) (zax zaz zcs zct zbu : Int32) (zab : Value) (h0 : Heap) (n0 : Nat) (Z0 : n0 ≤ h0.size) (zbv : Arv Z h0 ad0 zch .byte zbu [(.int zax), (.int zaz), (.int zcs), (.int zct)] J0) (zcu : ¬ (zbu < (3 : Int32))) (zaf : zab.isRef = true) (zan : Sta Z h0 "jdk/internal/util/Preconditions" "SIOOBE_FORMATTER" "Ljava/util/function/BiFunction;" zab) :
    own_Met l own_y7 jdk_43_method_2_code 2 (some .char) [] (oR 2 0 0 27) #[(.ref ad0), J2] Z h0 (oQ (some (.int (nar .char ((zcs &&& (255 : Int32)).toUInt32.toUInt16.toUInt32.toInt32)))) h0 n0) := by
  refine own_body (plainFor_of_name own_pn2) (own := "java/lang/StringLatin1") rfl (L0 := #[rv ad0, iv (2 : Int32)]) fun p e s m below meth c s₁ hx hby hlk hml hown hnm X0 hZ e0 hh hret => ?_
  have N0 := Fr.nil n0
  refine xiloadN X0 hx (hb hby d7_0) rfl rfl ?_
  refine xaloadN X0 hx (hb hby d7_1) rfl rfl rfl ?_
  obtain ⟨cl1, Ar1, q1, Sz1, Ng1, Hs1, Gf1⟩ := id zbv
  refine oS (fun _ k => X0.arraylength hx (by rw [e0]; exact Ar1.1) (State.isArrayOf_alike hZ.alike Ar1.2.1) (g := (mkF m 2 #[rv ad0, iv (2 : Int32)] [(.ref ad0), J2])) rfl rfl (hb hby d7_2) _ k) ?_
  rw [len_of Sz1 Ng1]
  show oF p e below s _ _ _ (s₁.setTop (mkF m 3 #[rv ad0, iv (2 : Int32)] [(.int zbu), J2]))
  refine oC X0 hx hZ hown hml (w_ hw 244 rfl) (w_ hw 245 rfl) (own_rm8 hw hs ((2 : Int32)) zbu zab h0 n0 Z0 zaf zan (show ¬ ((2 : Int32) < (0 : Int32)) from (by first | decide | assumption | exact Nat.le_of_ble_eq_true rfl)) (show (2 : Int32) < zbu from own_ltn zcu (by decide))) (w_ hw 246 rfl) (w_ hw 10 rfl) e0 [J2, (.int zbu)] [] 0 (lenOf own_pd2 rfl) rfl (hb hby d7_3) rfl rfl rfl fun T2 L2 v2 X2 hQ2 => ?_
  obtain ⟨rfl, N2q, e2⟩ := hQ2
  have N2 := Fr.app N0 N2q
  refine xaloadN X2 hx (hb hby d7_6) rfl rfl rfl ?_
  refine xiloadN X2 hx (hb hby d7_7) rfl rfl ?_
  obtain ⟨cl3, Ar3, q3, Sz3, Ng3, Hs3, Gf3⟩ := id zbv
  have hin3 : ¬ ((2 : Int32) < 0 ∨ cl3.slots.size ≤ ((2 : Int32)).toNatClampNeg) := inb_of Sz3 ⟨by decide, own_ltn zcu (by decide)⟩
  refine oS (fun _ k => X2.baloadBytes hx (j := (2 : Int32)) (v := (.int zcs)) (by rw [e2]; exact Ar3.1) (State.isArrayOf_alike hZ.alike Ar3.2.1) Ar3.2.2 hin3 (Has.at Hs3 hin3 rfl) (g := (mkF m 8 #[rv ad0, iv (2 : Int32)] [J2, (.ref ad0)])) rfl rfl (hb hby d7_8) _ k) ?_
  refine oS (fun _ k => XS.sipush X2.here hx rfl (hb hby d7_9) k) ?_
  refine oS (fun _ k => XS.iand X2.here hx rfl (hb hby d7_12) rfl k) ?_
  refine oS (fun _ k => XS.i2c X2.here hx rfl (hb hby d7_13) rfl k) ?_
  exact own_ret X2 hlk (v := some (.int (nar .char ((zcs &&& (255 : Int32)).toUInt32.toUInt16.toUInt32.toInt32)))) (fun h => by rw [hret] at h; cases h) (by decide) (by decide) (by rw [e2]; exact ⟨rfl, N2, rfl⟩) (fun fs hr => retN X2 hx (t := .char) hret (by simp) (hb hby d7_14) hr)

theorem own_rm12 {l : Launch} {Z : State} {a0 : Array Value} (hw : own_HW Z a0) (hs : own_HS Z a0) (ad0 : Addr) (zch : ClassId) (zax zaz zcs zct zbu : Int32) (zab : Value) (h0 : Heap) (n0 : Nat) (Z0 : n0 ≤ h0.size) (zbv : Arv Z h0 ad0 zch .byte zbu [(.int zax), (.int zaz), (.int zcs), (.int zct)] J0) (zcu : ¬ (zbu < (4 : Int32))) (zaf : zab.isRef = true) (zan : Sta Z h0 "jdk/internal/util/Preconditions" "SIOOBE_FORMATTER" "Ljava/util/function/BiFunction;" zab) :
    own_Met l own_y7 jdk_43_method_2_code 2 (some .char) [] (oR 2 0 0 27) #[(.ref ad0), J3] Z h0 (oQ (some (.int (nar .char ((zct &&& (255 : Int32)).toUInt32.toUInt16.toUInt32.toInt32)))) h0 n0) := by
  refine own_body (plainFor_of_name own_pn2) (own := "java/lang/StringLatin1") rfl (L0 := #[rv ad0, iv (3 : Int32)]) fun p e s m below meth c s₁ hx hby hlk hml hown hnm X0 hZ e0 hh hret => ?_
  have N0 := Fr.nil n0
  refine xiloadN X0 hx (hb hby d7_0) rfl rfl ?_
  refine xaloadN X0 hx (hb hby d7_1) rfl rfl rfl ?_
  obtain ⟨cl1, Ar1, q1, Sz1, Ng1, Hs1, Gf1⟩ := id zbv
  refine oS (fun _ k => X0.arraylength hx (by rw [e0]; exact Ar1.1) (State.isArrayOf_alike hZ.alike Ar1.2.1) (g := (mkF m 2 #[rv ad0, iv (3 : Int32)] [(.ref ad0), J3])) rfl rfl (hb hby d7_2) _ k) ?_
  rw [len_of Sz1 Ng1]
  show oF p e below s _ _ _ (s₁.setTop (mkF m 3 #[rv ad0, iv (3 : Int32)] [(.int zbu), J3]))
  refine oC X0 hx hZ hown hml (w_ hw 244 rfl) (w_ hw 245 rfl) (own_rm8 hw hs ((3 : Int32)) zbu zab h0 n0 Z0 zaf zan (show ¬ ((3 : Int32) < (0 : Int32)) from (by first | decide | assumption | exact Nat.le_of_ble_eq_true rfl)) (show (3 : Int32) < zbu from own_ltn zcu (by decide))) (w_ hw 246 rfl) (w_ hw 10 rfl) e0 [J3, (.int zbu)] [] 0 (lenOf own_pd2 rfl) rfl (hb hby d7_3) rfl rfl rfl fun T2 L2 v2 X2 hQ2 => ?_
  obtain ⟨rfl, N2q, e2⟩ := hQ2
  have N2 := Fr.app N0 N2q
  refine xaloadN X2 hx (hb hby d7_6) rfl rfl rfl ?_
  refine xiloadN X2 hx (hb hby d7_7) rfl rfl ?_
  obtain ⟨cl3, Ar3, q3, Sz3, Ng3, Hs3, Gf3⟩ := id zbv
  have hin3 : ¬ ((3 : Int32) < 0 ∨ cl3.slots.size ≤ ((3 : Int32)).toNatClampNeg) := inb_of Sz3 ⟨by decide, own_ltn zcu (by decide)⟩
  refine oS (fun _ k => X2.baloadBytes hx (j := (3 : Int32)) (v := (.int zct)) (by rw [e2]; exact Ar3.1) (State.isArrayOf_alike hZ.alike Ar3.2.1) Ar3.2.2 hin3 (Has.at Hs3 hin3 rfl) (g := (mkF m 8 #[rv ad0, iv (3 : Int32)] [J3, (.ref ad0)])) rfl rfl (hb hby d7_8) _ k) ?_
  refine oS (fun _ k => XS.sipush X2.here hx rfl (hb hby d7_9) k) ?_
  refine oS (fun _ k => XS.iand X2.here hx rfl (hb hby d7_12) rfl k) ?_
  refine oS (fun _ k => XS.i2c X2.here hx rfl (hb hby d7_13) rfl k) ?_
  exact own_ret X2 hlk (v := some (.int (nar .char ((zct &&& (255 : Int32)).toUInt32.toUInt16.toUInt32.toInt32)))) (fun h => by rw [hret] at h; cases h) (by decide) (by decide) (by rw [e2]; exact ⟨rfl, N2, rfl⟩) (fun fs hr => retN X2 hx (t := .char) hret (by simp) (hb hby d7_14) hr)

theorem own_pd3 : parseMethodDescriptor "()Z" = some ⟨[], some .boolean⟩ := by decide +kernel
theorem own_pd4 : parseMethodDescriptor "([BI)C" = some ⟨[(.array .byte), .int], some .char⟩ := by decide +kernel
abbrev b8_ : ByteArray := jdk_42_method_56_code
theorem d8_0 : decode b8_ 0 = .ok (.aload_n 0, 1) := by decide +kernel
theorem d8_1 : decode b8_ 1 = .ok (.invokevirtual 492, 3) := by decide +kernel
theorem d8_4 : decode b8_ 4 = .ok (.ifCond .eq 12, 3) := by decide +kernel
theorem d8_7 : decode b8_ 7 = .ok (.aload_n 0, 1) := by decide +kernel
theorem d8_8 : decode b8_ 8 = .ok (.getfield 9, 3) := by decide +kernel
theorem d8_11 : decode b8_ 11 = .ok (.iload_n 1, 1) := by decide +kernel
theorem d8_12 : decode b8_ 12 = .ok (.invokestatic 495, 3) := by decide +kernel
theorem d8_15 : decode b8_ 15 = .ok (.ireturn, 1) := by decide +kernel
abbrev own_y8 : MethodName := (⟨"java/lang/String", "charAt", "(I)C"⟩ : MethodName)
theorem own_rm13 {l : Launch} {Z : State} {a0 : Array Value} (hw : own_HW Z a0) (hs : own_HS Z a0) (ad0 zae : Addr) (zaj : ClassId) (zcm zcn zco zcp zai zaa : Int32) (zab : Value) (h0 : Heap) (n0 : Nat) (Z0 : n0 ≤ h0.size) (hB0 : own_S Z h0 ad0 zae zaj zai  zcm zcn zco zcp) (zbo : ¬ (zai < (1 : Int32))) (zac : Sta Z h0 cN0 "COMPACT_STRINGS" "Z" (.int zaa)) (zda : ¬ (zaa = (0 : Int32))) (zaf : zab.isRef = true) (zan : Sta Z h0 "jdk/internal/util/Preconditions" "SIOOBE_FORMATTER" "Ljava/util/function/BiFunction;" zab) :
    own_Met l own_y8 jdk_42_method_56_code 2 (some .char) [] (oR 3 0 0 40) #[(.ref ad0), J0] Z h0 (oQ (some (.int (nar .char (nar .char ((zcm &&& (255 : Int32)).toUInt32.toUInt16.toUInt32.toInt32))))) h0 n0) := by
  refine own_body (plainFor_of_name own_pn0) (own := "java/lang/String") rfl (L0 := #[rv ad0, iv (0 : Int32)]) fun p e s m below meth c s₁ hx hby hlk hml hown hnm X0 hZ e0 hh hret => ?_
  obtain ⟨zad, zal, zak, zam⟩ := hB0
  have N0 := Fr.nil n0
  refine xaloadN X0 hx (hb hby d8_0) rfl rfl rfl ?_
  refine oV X0 hx hZ hown hml (w_ hw 236 rfl) (w_ hw 237 rfl) (w_ hw 239 rfl) (w_ hw 238 rfl) (own_rm3 hw hs ad0 zaa h0 n0 Z0 zac zda zak) (w_ hw 240 rfl) (w_ hw 10 rfl) e0 zad [] [] 0 (lenOf own_pd3 rfl) rfl (hb hby d8_1) rfl rfl rfl fun T1 L1 v1 X1 hQ1 => ?_
  obtain ⟨rfl, N1q, e1⟩ := hQ1
  have N1 := Fr.app N0 N1q
  refine xifNo X1 hx (hb hby d8_4) rfl ((if0 _ _).trans (feq (by decide : ¬ ((1 : Int32) = (0 : Int32)))).1) rfl ?_
  refine xaloadN X1 hx (hb hby d8_7) rfl rfl rfl ?_
  refine oG X1 hx hZ hown (w_ hw 28 rfl) e1 zal (hb hby d8_8) rfl rfl fun T2 X2 e2 => ?_
  refine xiloadN X2 hx (hb hby d8_11) rfl rfl ?_
  refine oC X2 hx hZ hown hml (w_ hw 241 rfl) (w_ hw 242 rfl) (own_rm9 hw hs zae zaj zcm zcn zco zcp zai zab h0 n0 Z0 zam zbo zaf zan) (w_ hw 243 rfl) (w_ hw 154 rfl) e2 [(.ref zae), J0] [] 0 (lenOf own_pd4 rfl) rfl (hb hby d8_12) rfl rfl rfl fun T3 L3 v3 X3 hQ3 => ?_
  obtain ⟨rfl, N3q, e3⟩ := hQ3
  have N3 := Fr.app N1 N3q
  exact own_ret X3 hlk (v := some (.int (nar .char (nar .char ((zcm &&& (255 : Int32)).toUInt32.toUInt16.toUInt32.toInt32))))) (fun h => by rw [hret] at h; cases h) (by decide) (by decide) (by rw [e3]; exact ⟨rfl, N3, rfl⟩) (fun fs hr => retN X3 hx (t := .char) hret (by simp) (hb hby d8_15) hr)

theorem own_rm14 {l : Launch} {Z : State} {a0 : Array Value} (hw : own_HW Z a0) (hs : own_HS Z a0) (ad0 zae : Addr) (zaj : ClassId) (zcm zcn zco zcp zai zaa : Int32) (zab : Value) (h0 : Heap) (n0 : Nat) (Z0 : n0 ≤ h0.size) (hB0 : own_S Z h0 ad0 zae zaj zai  zcm zcn zco zcp) (zbo : ¬ (zai < (2 : Int32))) (zac : Sta Z h0 cN0 "COMPACT_STRINGS" "Z" (.int zaa)) (zda : ¬ (zaa = (0 : Int32))) (zaf : zab.isRef = true) (zan : Sta Z h0 "jdk/internal/util/Preconditions" "SIOOBE_FORMATTER" "Ljava/util/function/BiFunction;" zab) :
    own_Met l own_y8 jdk_42_method_56_code 2 (some .char) [] (oR 3 0 0 40) #[(.ref ad0), J1] Z h0 (oQ (some (.int (nar .char (nar .char ((zcn &&& (255 : Int32)).toUInt32.toUInt16.toUInt32.toInt32))))) h0 n0) := by
  refine own_body (plainFor_of_name own_pn0) (own := "java/lang/String") rfl (L0 := #[rv ad0, iv (1 : Int32)]) fun p e s m below meth c s₁ hx hby hlk hml hown hnm X0 hZ e0 hh hret => ?_
  obtain ⟨zad, zal, zak, zam⟩ := hB0
  have N0 := Fr.nil n0
  refine xaloadN X0 hx (hb hby d8_0) rfl rfl rfl ?_
  refine oV X0 hx hZ hown hml (w_ hw 236 rfl) (w_ hw 237 rfl) (w_ hw 239 rfl) (w_ hw 238 rfl) (own_rm3 hw hs ad0 zaa h0 n0 Z0 zac zda zak) (w_ hw 240 rfl) (w_ hw 10 rfl) e0 zad [] [] 0 (lenOf own_pd3 rfl) rfl (hb hby d8_1) rfl rfl rfl fun T1 L1 v1 X1 hQ1 => ?_
  obtain ⟨rfl, N1q, e1⟩ := hQ1
  have N1 := Fr.app N0 N1q
  refine xifNo X1 hx (hb hby d8_4) rfl ((if0 _ _).trans (feq (by decide : ¬ ((1 : Int32) = (0 : Int32)))).1) rfl ?_
  refine xaloadN X1 hx (hb hby d8_7) rfl rfl rfl ?_
  refine oG X1 hx hZ hown (w_ hw 28 rfl) e1 zal (hb hby d8_8) rfl rfl fun T2 X2 e2 => ?_
  refine xiloadN X2 hx (hb hby d8_11) rfl rfl ?_
  refine oC X2 hx hZ hown hml (w_ hw 241 rfl) (w_ hw 242 rfl) (own_rm10 hw hs zae zaj zcm zcn zco zcp zai zab h0 n0 Z0 zam zbo zaf zan) (w_ hw 243 rfl) (w_ hw 154 rfl) e2 [(.ref zae), J1] [] 0 (lenOf own_pd4 rfl) rfl (hb hby d8_12) rfl rfl rfl fun T3 L3 v3 X3 hQ3 => ?_
  obtain ⟨rfl, N3q, e3⟩ := hQ3
  have N3 := Fr.app N1 N3q
  exact own_ret X3 hlk (v := some (.int (nar .char (nar .char ((zcn &&& (255 : Int32)).toUInt32.toUInt16.toUInt32.toInt32))))) (fun h => by rw [hret] at h; cases h) (by decide) (by decide) (by rw [e3]; exact ⟨rfl, N3, rfl⟩) (fun fs hr => retN X3 hx (t := .char) hret (by simp) (hb hby d8_15) hr)

theorem own_rm15 {l : Launch} {Z : State} {a0 : Array Value} (hw : own_HW Z a0) (hs : own_HS Z a0) (ad0 zae : Addr) (zaj : ClassId) (zcm zcn zco zcp zai zaa : Int32) (zab : Value) (h0 : Heap) (n0 : Nat) (Z0 : n0 ≤ h0.size) (hB0 : own_S Z h0 ad0 zae zaj zai  zcm zcn zco zcp) (zbo : ¬ (zai < (3 : Int32))) (zac : Sta Z h0 cN0 "COMPACT_STRINGS" "Z" (.int zaa)) (zda : ¬ (zaa = (0 : Int32))) (zaf : zab.isRef = true) (zan : Sta Z h0 "jdk/internal/util/Preconditions" "SIOOBE_FORMATTER" "Ljava/util/function/BiFunction;" zab) :
    own_Met l own_y8 jdk_42_method_56_code 2 (some .char) [] (oR 3 0 0 40) #[(.ref ad0), J2] Z h0 (oQ (some (.int (nar .char (nar .char ((zco &&& (255 : Int32)).toUInt32.toUInt16.toUInt32.toInt32))))) h0 n0) := by
  refine own_body (plainFor_of_name own_pn0) (own := "java/lang/String") rfl (L0 := #[rv ad0, iv (2 : Int32)]) fun p e s m below meth c s₁ hx hby hlk hml hown hnm X0 hZ e0 hh hret => ?_
  obtain ⟨zad, zal, zak, zam⟩ := hB0
  have N0 := Fr.nil n0
  refine xaloadN X0 hx (hb hby d8_0) rfl rfl rfl ?_
  refine oV X0 hx hZ hown hml (w_ hw 236 rfl) (w_ hw 237 rfl) (w_ hw 239 rfl) (w_ hw 238 rfl) (own_rm3 hw hs ad0 zaa h0 n0 Z0 zac zda zak) (w_ hw 240 rfl) (w_ hw 10 rfl) e0 zad [] [] 0 (lenOf own_pd3 rfl) rfl (hb hby d8_1) rfl rfl rfl fun T1 L1 v1 X1 hQ1 => ?_
  obtain ⟨rfl, N1q, e1⟩ := hQ1
  have N1 := Fr.app N0 N1q
  refine xifNo X1 hx (hb hby d8_4) rfl ((if0 _ _).trans (feq (by decide : ¬ ((1 : Int32) = (0 : Int32)))).1) rfl ?_
  refine xaloadN X1 hx (hb hby d8_7) rfl rfl rfl ?_
  refine oG X1 hx hZ hown (w_ hw 28 rfl) e1 zal (hb hby d8_8) rfl rfl fun T2 X2 e2 => ?_
  refine xiloadN X2 hx (hb hby d8_11) rfl rfl ?_
  refine oC X2 hx hZ hown hml (w_ hw 241 rfl) (w_ hw 242 rfl) (own_rm11 hw hs zae zaj zcm zcn zco zcp zai zab h0 n0 Z0 zam zbo zaf zan) (w_ hw 243 rfl) (w_ hw 154 rfl) e2 [(.ref zae), J2] [] 0 (lenOf own_pd4 rfl) rfl (hb hby d8_12) rfl rfl rfl fun T3 L3 v3 X3 hQ3 => ?_
  obtain ⟨rfl, N3q, e3⟩ := hQ3
  have N3 := Fr.app N1 N3q
  exact own_ret X3 hlk (v := some (.int (nar .char (nar .char ((zco &&& (255 : Int32)).toUInt32.toUInt16.toUInt32.toInt32))))) (fun h => by rw [hret] at h; cases h) (by decide) (by decide) (by rw [e3]; exact ⟨rfl, N3, rfl⟩) (fun fs hr => retN X3 hx (t := .char) hret (by simp) (hb hby d8_15) hr)

theorem own_rm16 {l : Launch} {Z : State} {a0 : Array Value} (hw : own_HW Z a0) (hs : own_HS Z a0) (ad0 zae : Addr) (zaj : ClassId) (zcm zcn zco zcp zai zaa : Int32) (zab : Value) (h0 : Heap) (n0 : Nat) (Z0 : n0 ≤ h0.size) (hB0 : own_S Z h0 ad0 zae zaj zai  zcm zcn zco zcp) (zbo : ¬ (zai < (4 : Int32))) (zac : Sta Z h0 cN0 "COMPACT_STRINGS" "Z" (.int zaa)) (zda : ¬ (zaa = (0 : Int32))) (zaf : zab.isRef = true) (zan : Sta Z h0 "jdk/internal/util/Preconditions" "SIOOBE_FORMATTER" "Ljava/util/function/BiFunction;" zab) :
    own_Met l own_y8 jdk_42_method_56_code 2 (some .char) [] (oR 3 0 0 40) #[(.ref ad0), J3] Z h0 (oQ (some (.int (nar .char (nar .char ((zcp &&& (255 : Int32)).toUInt32.toUInt16.toUInt32.toInt32))))) h0 n0) := by
  refine own_body (plainFor_of_name own_pn0) (own := "java/lang/String") rfl (L0 := #[rv ad0, iv (3 : Int32)]) fun p e s m below meth c s₁ hx hby hlk hml hown hnm X0 hZ e0 hh hret => ?_
  obtain ⟨zad, zal, zak, zam⟩ := hB0
  have N0 := Fr.nil n0
  refine xaloadN X0 hx (hb hby d8_0) rfl rfl rfl ?_
  refine oV X0 hx hZ hown hml (w_ hw 236 rfl) (w_ hw 237 rfl) (w_ hw 239 rfl) (w_ hw 238 rfl) (own_rm3 hw hs ad0 zaa h0 n0 Z0 zac zda zak) (w_ hw 240 rfl) (w_ hw 10 rfl) e0 zad [] [] 0 (lenOf own_pd3 rfl) rfl (hb hby d8_1) rfl rfl rfl fun T1 L1 v1 X1 hQ1 => ?_
  obtain ⟨rfl, N1q, e1⟩ := hQ1
  have N1 := Fr.app N0 N1q
  refine xifNo X1 hx (hb hby d8_4) rfl ((if0 _ _).trans (feq (by decide : ¬ ((1 : Int32) = (0 : Int32)))).1) rfl ?_
  refine xaloadN X1 hx (hb hby d8_7) rfl rfl rfl ?_
  refine oG X1 hx hZ hown (w_ hw 28 rfl) e1 zal (hb hby d8_8) rfl rfl fun T2 X2 e2 => ?_
  refine xiloadN X2 hx (hb hby d8_11) rfl rfl ?_
  refine oC X2 hx hZ hown hml (w_ hw 241 rfl) (w_ hw 242 rfl) (own_rm12 hw hs zae zaj zcm zcn zco zcp zai zab h0 n0 Z0 zam zbo zaf zan) (w_ hw 243 rfl) (w_ hw 154 rfl) e2 [(.ref zae), J3] [] 0 (lenOf own_pd4 rfl) rfl (hb hby d8_12) rfl rfl rfl fun T3 L3 v3 X3 hQ3 => ?_
  obtain ⟨rfl, N3q, e3⟩ := hQ3
  have N3 := Fr.app N1 N3q
  exact own_ret X3 hlk (v := some (.int (nar .char (nar .char ((zcp &&& (255 : Int32)).toUInt32.toUInt16.toUInt32.toInt32))))) (fun h => by rw [hret] at h; cases h) (by decide) (by decide) (by rw [e3]; exact ⟨rfl, N3, rfl⟩) (fun fs hr => retN X3 hx (t := .char) hret (by simp) (hb hby d8_15) hr)

abbrev b9_ : ByteArray := jdk_43_method_3_code
theorem d9_0 : decode b9_ 0 = .ok (.iload_n 0, 1) := by decide +kernel
theorem d9_1 : decode b9_ 1 = .ok (.sipush 255, 3) := by decide +kernel
theorem d9_4 : decode b9_ 4 = .ok (.if_icmp .gt 7, 3) := by decide +kernel
theorem d9_7 : decode b9_ 7 = .ok (.iconst 1, 1) := by decide +kernel
theorem d9_8 : decode b9_ 8 = .ok (.goto 4, 3) := by decide +kernel
theorem d9_12 : decode b9_ 12 = .ok (.ireturn, 1) := by decide +kernel
abbrev own_y9 : MethodName := (⟨"java/lang/StringLatin1", "canEncode", "(C)Z"⟩ : MethodName)
theorem own_rm17 {l : Launch} {Z : State} {a0 : Array Value} (hw : own_HW Z a0) (hs : own_HS Z a0) (p0 : Int32) (h0 : Heap) (n0 : Nat) (Z0 : n0 ≤ h0.size) (hc4 : ¬ ((255 : Int32) < p0)) :
    own_Met l own_y9 jdk_43_method_3_code 1 (some .boolean) [] (oR 0 0 0 0) #[(.int p0)] Z h0 (oQ (some J1) h0 n0) := by
  refine own_body (plainFor_of_name own_pn2) (own := "java/lang/StringLatin1") rfl (L0 := #[iv p0]) fun p e s m below meth c s₁ hx hby hlk hml hown hnm X0 hZ e0 hh hret => ?_
  have N0 := Fr.nil n0
  refine xiloadN X0 hx (hb hby d9_0) rfl rfl ?_
  refine oS (fun _ k => XS.sipush X0.here hx rfl (hb hby d9_1) k) ?_
  refine xicmpNo X0 hx (hb hby d9_4) rfl (flt hc4).2.2.1 rfl ?_
  refine xiconst X0 hx (hb hby d9_7) rfl ?_
  refine xgoto X0 hx 8 12 rfl (hb hby d9_8) rfl ?_
  exact own_ret X0 hlk (v := some J1) (fun h => by rw [hret] at h; cases h) (by decide) (by decide) (by rw [e0]; exact ⟨rfl, N0, rfl⟩) (fun fs hr => retN X0 hx (t := .boolean) hret (by simp) (hb hby d9_12) hr)

abbrev b10_ : ByteArray := jdk_43_method_46_code
theorem d10_0 : decode b10_ 0 = .ok (.iconst 1, 1) := by decide +kernel
theorem d10_1 : decode b10_ 1 = .ok (.newarray .byte, 2) := by decide +kernel
theorem d10_3 : decode b10_ 3 = .ok (.dup, 1) := by decide +kernel
theorem d10_4 : decode b10_ 4 = .ok (.iconst 0, 1) := by decide +kernel
theorem d10_5 : decode b10_ 5 = .ok (.iload_n 0, 1) := by decide +kernel
theorem d10_6 : decode b10_ 6 = .ok (.i2b, 1) := by decide +kernel
theorem d10_7 : decode b10_ 7 = .ok (.bastore, 1) := by decide +kernel
theorem d10_8 : decode b10_ 8 = .ok (.areturn, 1) := by decide +kernel
abbrev own_y10 : MethodName := (⟨"java/lang/StringLatin1", "toBytes", "(C)[B"⟩ : MethodName)
abbrev own_Q18 (Z : State) (p0 : Int32) (h0 : Heap) (n0 : Nat) (v : Option Value) (h : Heap) (L : List Loc) : Prop := Fr n0 L ∧ Keep h0 h [] ∧ ∃ o0 : Addr, n0 ≤ o0 ∧ h0.size ≤ o0 ∧ ∃ (ko0 : ClassId), v = some (.ref o0) ∧ Arv Z h o0 ko0 .byte (1 : Int32) [(.int (nar .byte (p0.toInt8.toInt32))), J0, J0, J0] J0
theorem own_rm18 {l : Launch} {Z : State} {a0 : Array Value} (hw : own_HW Z a0) (hs : own_HS Z a0) (p0 : Int32) (h0 : Heap) (n0 : Nat) (Z0 : n0 ≤ h0.size) :
    own_Met l own_y10 jdk_43_method_46_code 1 (some (.array .byte)) [] (oR 0 1 1 0) #[(.int p0)] Z h0 (own_Q18 Z p0 h0 n0) := by
  refine own_body (plainFor_of_name own_pn2) (own := "java/lang/StringLatin1") rfl (L0 := #[iv p0]) fun p e s m below meth c s₁ hx hby hlk hml hown hnm X0 hZ e0 hh hret => ?_
  have N0 := Fr.nil n0
  have KR : Keep h0 h0 [] := Keep.refl _ _
  refine xiconst X0 hx (hb hby d10_0) rfl ?_
  obtain ⟨T1, h1, k1, X1, e1, E1, A1, st1⟩ := newP X0 hx hZ (w_ hw 23 rfl) e0 (g := (mkF m 1 #[iv p0] [J1])) rfl (hb hby d10_1) rfl (by decide) (cap := 1) (by decide) (by decide) (by decide) (by decide)
  obtain ⟨b1, g1⟩ : ∃ z, z = h0.size := ⟨_, rfl⟩
  rw [← g1] at A1 st1
  have gg1 : n0 ≤ b1 := Nat.le_trans Z0 (Nat.le_of_eq g1.symm)
  have sz1 : h0.size ≤ b1 := Nat.le_trans KR.1 (Nat.le_of_eq g1.symm)
  have K1 : Keep h0 h1 [] := KR.ext E1
  have Z1 : n0 ≤ h1.size := Nat.le_trans Z0 E1.1
  have G2 : Arv Z h1 b1 k1 .byte (1 : Int32) [J0, J0, J0, J0] J0 := (Arv.new A1 (by decide)).pad (pad_rep [] J0 4)
  refine oS st1 ?_
  refine xdup X1 hx (hb hby d10_3) rfl rfl rfl ?_
  refine xiconst X1 hx (hb hby d10_4) rfl ?_
  refine xiloadN X1 hx (hb hby d10_5) rfl rfl ?_
  refine oS (fun _ k => XS.i2b X1.here hx rfl (hb hby d10_6) rfl k) ?_
  obtain ⟨cl3, Ar3, q3, Sz3, Ng3, Hs3, Gf3⟩ := id G2
  have hin3 : ¬ ((0 : Int32) < 0 ∨ cl3.slots.size ≤ ((0 : Int32)).toNatClampNeg) := inb_of Sz3 ⟨by decide, by decide⟩
  obtain ⟨T3, h3, X3, e3, W3, st3⟩ := stB X1 hx hZ e1 Ar3 (j := (0 : Int32)) hin3 (g := (mkF m 7 #[iv p0] [(.int (p0.toInt8.toInt32)), J0, (.ref b1), (.ref b1)])) rfl rfl (hb hby d10_7)
  have N3 := Fr.snoc X3 N0 gg1
  have K3 : Keep h0 h3 [] := K1.wr W3 (Or.inr sz1)
  have Z3 : n0 ≤ h3.size := Nat.le_trans Z1 (Keep.of_wr W3).1
  have G4 : Arv Z h3 b1 k1 .byte (1 : Int32) [(.int (nar .byte (p0.toInt8.toInt32))), J0, J0, J0] J0 := Arv.set Ar3 q3 Sz3 Ng3 Hs3 Gf3 (fits_nar_byte _) W3 0 rfl (Nat.le_of_ble_eq_true rfl)
  refine oS st3 ?_
  exact oRA X3 hx hlk hret rfl rfl rfl (hb hby d10_8) (by rw [e3]; exact ⟨N3, K3, b1, gg1, sz1, k1, rfl, G4⟩)

theorem sn0 {Z : State} {a0 : Array Value} (hw : ∀ d ∈ tables_1, d.before a0 Z = true) : Jvm.RoadKit.slotOf Z cN0 "coder" "B" ≠ Jvm.RoadKit.slotOf Z cN0 "value" "[B" := slot_ne (C := cN0) (Or.inr (w_ hw 25 rfl)) (Or.inr (w_ hw 24 rfl)) (by decide) (t := .byte) (t' := (.array .byte)) (by decide) (by decide)
theorem sn1 {Z : State} {a0 : Array Value} (hw : ∀ d ∈ tables_1, d.before a0 Z = true) : Jvm.RoadKit.slotOf Z cN0 "value" "[B" ≠ Jvm.RoadKit.slotOf Z cN0 "coder" "B" := slot_ne (C := cN0) (Or.inr (w_ hw 24 rfl)) (Or.inr (w_ hw 25 rfl)) (by decide) (t := (.array .byte)) (t' := .byte) (by decide) (by decide)
abbrev b11_ : ByteArray := jdk_42_method_151_code
theorem d11_0 : decode b11_ 0 = .ok (.aload_n 0, 1) := by decide +kernel
theorem d11_1 : decode b11_ 1 = .ok (.invokespecial 1, 3) := by decide +kernel
theorem d11_4 : decode b11_ 4 = .ok (.aload_n 0, 1) := by decide +kernel
theorem d11_5 : decode b11_ 5 = .ok (.aload_n 1, 1) := by decide +kernel
theorem d11_6 : decode b11_ 6 = .ok (.putfield 9, 3) := by decide +kernel
theorem d11_9 : decode b11_ 9 = .ok (.aload_n 0, 1) := by decide +kernel
theorem d11_10 : decode b11_ 10 = .ok (.iload_n 2, 1) := by decide +kernel
theorem d11_11 : decode b11_ 11 = .ok (.putfield 15, 3) := by decide +kernel
theorem d11_14 : decode b11_ 14 = .ok (.return_, 1) := by decide +kernel
abbrev own_y11 : MethodName := (⟨"java/lang/String", "<init>", "([BB)V"⟩ : MethodName)
abbrev own_Q19 (Z : State) (ad0 ad1 : Addr) (h0 : Heap) (n0 : Nat) (v : Option Value) (h : Heap) (L : List Loc) : Prop := Fr n0 L ∧ Keep h0 h [ad0] ∧ v = none ∧ Exa Z h ad0 cN0 ∧ Fld Z h ad0 cN0 "value" "[B" (.ref ad1) ∧ Fld Z h ad0 cN0 "coder" "B" J0
theorem own_rm19 {l : Launch} {Z : State} {a0 : Array Value} (hw : own_HW Z a0) (hs : own_HS Z a0) (ad0 ad1 : Addr) (zcj zce : Value) (h0 : Heap) (n0 : Nat) (Z0 : n0 ≤ h0.size) (zad : Exa Z h0 ad0 cN0) (zal : Fld Z h0 ad0 cN0 "value" "[B" zcj) (zak : Fld Z h0 ad0 cN0 "coder" "B" zce) (zas : n0 ≤ ad0) :
    own_Met l own_y11 jdk_42_method_151_code 3 none [] (oR 1 0 0 12) #[(.ref ad0), (.ref ad1), J0] Z h0 (own_Q19 Z ad0 ad1 h0 n0) := by
  refine own_body (plainFor_of_name own_pn0) (own := "java/lang/String") rfl (L0 := #[rv ad0, rv ad1, iv (0 : Int32)]) fun p e s m below meth c s₁ hx hby hlk hml hown hnm X0 hZ e0 hh hret => ?_
  have N0 := Fr.nil n0
  have KR : Keep h0 h0 [ad0] := Keep.refl _ _
  refine xaloadN X0 hx (hb hby d11_0) rfl rfl rfl ?_
  obtain ⟨T1, X1, e1, st1⟩ := initO X0 hx hZ hown (w_ hw 19 rfl) (w_ hw 20 rfl) (w_ hw 21 rfl) e0 (g := (mkF m 1 #[rv ad0, rv ad1, iv (0 : Int32)] [(.ref ad0)])) rfl (by rw [hml]; rfl) rfl (hb hby d11_1) (by decide) (W := 0) (by show 2 * 0 + _ ≤ _; exact Nat.le_of_eq rfl) (by decide)
  refine oS st1 ?_
  refine xaloadN X1 hx (hb hby d11_4) rfl rfl rfl ?_
  refine xaloadN X1 hx (hb hby d11_5) rfl rfl rfl ?_
  obtain ⟨T2, h2, X2, e2, W2, st2⟩ := putF X1 hx hZ hown (host := "") (Or.inl (w_ hw 28 rfl)) Via.refl e1 zal zad (Or.inr ⟨(w_ hw 24 rfl), rfl, hnm⟩) (w_ hw 9 rfl) (ty := (.array .byte)) (by decide) rfl rfl (g := (mkF m 6 #[rv ad0, rv ad1, iv (0 : Int32)] [(.ref ad1), (.ref ad0)])) rfl rfl (hb hby d11_6)
  have N2 := Fr.snoc X2 N0 zas
  have K2 : Keep h0 h2 [ad0] := KR.wr W2 (Or.inl (List.mem_of_getElem? (i := 0) rfl))
  have Z2 : n0 ≤ h2.size := Nat.le_trans Z0 (Keep.of_wr W2).1
  have G3 := (zad.wr W2)
  have G4 := (zak.other W2 (Or.inr (sn0 hw)))
  have G5 := zal.same W2
  refine oS st2 ?_
  refine xaloadN X2 hx (hb hby d11_9) rfl rfl rfl ?_
  refine xiloadN X2 hx (hb hby d11_10) rfl rfl ?_
  obtain ⟨T6, h6, X6, e6, W6, st6⟩ := putFN X2 hx hZ hown (w_ hw 29 rfl) Via.refl e2 G4 G3 (Or.inr ⟨(w_ hw 25 rfl), rfl, hnm⟩) (w_ hw 9 rfl) (ty := .byte) (v' := J0) (by decide) rfl (rfl) (g := (mkF m 11 #[rv ad0, rv ad1, iv (0 : Int32)] [J0, (.ref ad0)])) rfl rfl (hb hby d11_11)
  have N6 := Fr.snoc X6 N2 zas
  have K6 : Keep h0 h6 [ad0] := K2.wr W6 (Or.inl (List.mem_of_getElem? (i := 0) rfl))
  have Z6 : n0 ≤ h6.size := Nat.le_trans Z2 (Keep.of_wr W6).1
  have G7 := (G3.wr W6)
  have G8 := (G5.other W6 (Or.inr (sn1 hw)))
  have G9 := G4.same W6
  refine oS st6 ?_
  show oF p e below s _ _ _ (T6.setTop (mkF m 14 #[rv ad0, rv ad1, iv (0 : Int32)] []))
  exact oRV X6 hx hlk hret (hb hby d11_14) (by rw [e6]; exact ⟨N6, K6, rfl, G7, G8, G9⟩)

theorem own_pd5 : parseMethodDescriptor "(C)Z" = some ⟨[.char], some .boolean⟩ := by decide +kernel
theorem own_pd6 : parseMethodDescriptor "(C)[B" = some ⟨[.char], some (.array .byte)⟩ := by decide +kernel
theorem own_pd7 : parseMethodDescriptor "([BB)V" = some ⟨[(.array .byte), .byte], none⟩ := by decide +kernel
abbrev b12_ : ByteArray := jdk_42_method_139_code
theorem d12_0 : decode b12_ 0 = .ok (.getstatic 38, 3) := by decide +kernel
theorem d12_3 : decode b12_ 3 = .ok (.ifCond .eq 23, 3) := by decide +kernel
theorem d12_6 : decode b12_ 6 = .ok (.iload_n 0, 1) := by decide +kernel
theorem d12_7 : decode b12_ 7 = .ok (.invokestatic 1015, 3) := by decide +kernel
theorem d12_10 : decode b12_ 10 = .ok (.ifCond .eq 16, 3) := by decide +kernel
theorem d12_13 : decode b12_ 13 = .ok (.new 10, 3) := by decide +kernel
theorem d12_16 : decode b12_ 16 = .ok (.dup, 1) := by decide +kernel
theorem d12_17 : decode b12_ 17 = .ok (.iload_n 0, 1) := by decide +kernel
theorem d12_18 : decode b12_ 18 = .ok (.invokestatic 1018, 3) := by decide +kernel
theorem d12_21 : decode b12_ 21 = .ok (.iconst 0, 1) := by decide +kernel
theorem d12_22 : decode b12_ 22 = .ok (.invokespecial 209, 3) := by decide +kernel
theorem d12_25 : decode b12_ 25 = .ok (.areturn, 1) := by decide +kernel
abbrev own_y12 : MethodName := (⟨"java/lang/String", "valueOf", "(C)Ljava/lang/String;"⟩ : MethodName)
abbrev own_Q20 (Z : State) (p0 : Int32) (h0 : Heap) (n0 : Nat) (v : Option Value) (h : Heap) (L : List Loc) : Prop := Fr n0 L ∧ Keep h0 h [] ∧ ∃ o0 : Addr, n0 ≤ o0 ∧ h0.size ≤ o0 ∧ ∃ o1 : Addr, n0 ≤ o1 ∧ h0.size ≤ o1 ∧ ∃ (ko0 : ClassId), v = some (.ref o0) ∧ Exa Z h o0 cN0 ∧ Fld Z h o0 cN0 "value" "[B" (.ref o1) ∧ Fld Z h o0 cN0 "coder" "B" J0 ∧ Arv Z h o1 ko0 .byte (1 : Int32) [(.int (nar .byte (p0.toInt8.toInt32))), J0, J0, J0] J0
theorem own_rm20 {l : Launch} {Z : State} {a0 : Array Value} (hw : own_HW Z a0) (hs : own_HS Z a0) (p0 zaa : Int32) (h0 : Heap) (n0 : Nat) (Z0 : n0 ≤ h0.size) (zac : Sta Z h0 cN0 "COMPACT_STRINGS" "Z" (.int zaa)) (hc3 : ¬ (zaa = (0 : Int32))) (hc4_7 : ¬ ((255 : Int32) < p0)) :
    own_Met l own_y12 jdk_42_method_139_code 1 (some (.object cN0)) [] (oR 2 2 5 27) #[(.int p0)] Z h0 (own_Q20 Z p0 h0 n0) := by
  refine own_body (plainFor_of_name own_pn0) (own := "java/lang/String") rfl (L0 := #[iv p0]) fun p e s m below meth c s₁ hx hby hlk hml hown hnm X0 hZ e0 hh hret => ?_
  have N0 := Fr.nil n0
  have KR : Keep h0 h0 [] := Keep.refl _ _
  obtain ⟨T1, X1, e1, st1⟩ := getS2 X0 hx hZ hown (host := "") (Or.inl (w_ hw 117 rfl)) Via.refl e0 zac (g := (mkF m 0 #[iv p0] [])) rfl (hb hby d12_0)
  refine oS st1 ?_
  refine xifNo X1 hx (hb hby d12_3) rfl ((if0 _ _).trans (feq hc3).1) rfl ?_
  refine xiloadN X1 hx (hb hby d12_6) rfl rfl ?_
  refine oC X1 hx hZ hown hml (w_ hw 178 rfl) (w_ hw 153 rfl) (own_rm17 hw hs p0 h0 n0 Z0 hc4_7) (w_ hw 155 rfl) (w_ hw 154 rfl) e1 [(.int p0)] [] 0 (lenOf own_pd5 rfl) rfl (hb hby d12_7) rfl rfl rfl fun T2 L2 v2 X2 hQ2 => ?_
  obtain ⟨rfl, N2q, e2⟩ := hQ2
  have N2 := Fr.app N0 N2q
  refine xifNo X2 hx (hb hby d12_10) rfl ((if0 _ _).trans (feq (by decide : ¬ ((1 : Int32) = (0 : Int32)))).1) rfl ?_
  obtain ⟨T3, h3, X3, e3, E3, A3, D3, -, st3⟩ := newO X2 hx hZ hown (w_ hw 179 rfl) (w_ hw 9 rfl) (w_ hw 10 rfl) e2 (g := (mkF m 13 #[iv p0] [])) rfl (hb hby d12_13) (by decide) (by decide)
  obtain ⟨b3, g3⟩ : ∃ z, z = h0.size := ⟨_, rfl⟩
  rw [← g3] at A3 D3 st3
  have gg3 : n0 ≤ b3 := Nat.le_trans Z0 (Nat.le_of_eq g3.symm)
  have sz3 : h0.size ≤ b3 := Nat.le_trans KR.1 (Nat.le_of_eq g3.symm)
  have K3 : Keep h0 h3 [] := KR.ext E3
  have Z3 : n0 ≤ h3.size := Nat.le_trans Z0 E3.1
  have G4 := (zac.ext E3)
  have G5 : Fld Z h3 b3 cN0 "value" "[B" .null := D3 (Or.inr (w_ hw 24 rfl)) (ty := (.array .byte)) (by decide)
  have G6 : Fld Z h3 b3 cN0 "coder" "B" J0 := D3 (Or.inr (w_ hw 25 rfl)) (ty := .byte) (by decide)
  refine oS st3 ?_
  refine xdup X3 hx (hb hby d12_16) rfl rfl rfl ?_
  refine xiloadN X3 hx (hb hby d12_17) rfl rfl ?_
  show oF p e below s _ _ _ (T3.setTop (mkF m 18 #[iv p0] [(.int p0), (.ref b3), (.ref b3)]))
  refine oC X3 hx hZ hown hml (w_ hw 180 rfl) (w_ hw 181 rfl) (own_rm18 hw hs p0 h3 n0 Z3 ) (w_ hw 182 rfl) (w_ hw 154 rfl) e3 [(.int p0)] [(.ref b3), (.ref b3)] 2 (lenOf own_pd6 rfl) rfl (hb hby d12_18) rfl rfl rfl fun T7 L7 v7 X7 hQ7 => ?_
  obtain ⟨N7q, K7q, b7_o0, gg7_o0, sz7_o0, ko0_7, rfl, G8⟩ := hQ7
  have N7 := Fr.app N2 N7q
  have K7 := K3.trans K7q own_a0
  have Z7 := Nat.le_trans Z3 K7q.1
  have sy7_o0 : h0.size ≤ b7_o0 := Nat.le_trans K3.1 sz7_o0
  obtain ⟨G9, G10, G11⟩ := own_k2 K7q nin0 A3 G5 G6
  have G12 := (own_sta_keep0 G4 K7q)
  refine xiconst X7 hx (hb hby d12_21) rfl ?_
  refine oI X7 hx hZ hown hml (w_ hw 183 rfl) (w_ hw 184 rfl) (own_rm19 hw hs b3 b7_o0 .null (J0) T7.heap n0 Z7 G9 G10 G11 gg3) (w_ hw 185 rfl) (w_ hw 10 rfl) rfl [(.ref b7_o0), J0] [(.ref b3)] 1 (lenOf own_pd7 rfl) rfl (hb hby d12_22) rfl rfl rfl fun T13 L13 v13 X13 hQ13 => ?_
  obtain ⟨N13q, K13q, rfl, G14, G15, G16⟩ := hQ13
  have N13 := Fr.app N7 N13q
  have K13 := K7.trans K13q (own_aB sz3 own_a0)
  have Z13 := Nat.le_trans Z7 K13q.1
  have G17 := (G9.keep K13q)
  have G18 := (own_sta_keep G12 K13q (own_nS (own_nst_exa G9) own_n0))
  have G19 := (G8.keep K13q (ninS (Ne.symm (Exa.neArv G9 G8 (w_ hw 9 rfl))) nin0))
  exact oRA X13 hx hlk hret rfl rfl rfl (hb hby d12_25) ⟨N13, K13, b3, gg3, sz3, b7_o0, gg7_o0, sy7_o0, ko0_7, rfl, G14, G15, G16, G19⟩

abbrev b13_ : ByteArray := jdk_52_method_15_code
theorem d13_0 : decode b13_ 0 = .ok (.iload_n 1, 1) := by decide +kernel
theorem d13_1 : decode b13_ 1 = .ok (.aload_n 0, 1) := by decide +kernel
theorem d13_2 : decode b13_ 2 = .ok (.arraylength, 1) := by decide +kernel
theorem d13_3 : decode b13_ 3 = .ok (.isub, 1) := by decide +kernel
theorem d13_4 : decode b13_ 4 = .ok (.bipush 31, 2) := by decide +kernel
theorem d13_6 : decode b13_ 6 = .ok (.iushr, 1) := by decide +kernel
theorem d13_7 : decode b13_ 7 = .ok (.i2b, 1) := by decide +kernel
theorem d13_8 : decode b13_ 8 = .ok (.ireturn, 1) := by decide +kernel
theorem own_pn3 : plainName "java/lang/StringUTF16" = true := by first | (simp [plainName, overriddenIn]; done) | decide +kernel
abbrev own_y13 : MethodName := (⟨"java/lang/StringUTF16", "coderFromArrayLen", "([BI)B"⟩ : MethodName)
theorem own_rm21 {l : Launch} {Z : State} {a0 : Array Value} (hw : own_HW Z a0) (hs : own_HS Z a0) (ad0 : Addr) (zch : ClassId) (zax zaz zcs zct : Int32) (h0 : Heap) (n0 : Nat) (Z0 : n0 ≤ h0.size) (zbv : Arv Z h0 ad0 zch .byte (2 : Int32) [(.int zax), (.int zaz), (.int zcs), (.int zct)] J0) :
    own_Met l own_y13 jdk_52_method_15_code 2 (some .byte) [] (oR 0 0 0 0) #[(.ref ad0), J2] Z h0 (oQ (some J0) h0 n0) := by
  refine own_body (plainFor_of_name own_pn3) (own := "java/lang/StringUTF16") rfl (L0 := #[rv ad0, iv (2 : Int32)]) fun p e s m below meth c s₁ hx hby hlk hml hown hnm X0 hZ e0 hh hret => ?_
  have N0 := Fr.nil n0
  refine xiloadN X0 hx (hb hby d13_0) rfl rfl ?_
  refine xaloadN X0 hx (hb hby d13_1) rfl rfl rfl ?_
  obtain ⟨cl1, Ar1, q1, Sz1, Ng1, Hs1, Gf1⟩ := id zbv
  refine oS (fun _ k => X0.arraylength hx (by rw [e0]; exact Ar1.1) (State.isArrayOf_alike hZ.alike Ar1.2.1) (g := (mkF m 2 #[rv ad0, iv (2 : Int32)] [(.ref ad0), J2])) rfl rfl (hb hby d13_2) _ k) ?_
  rw [len_of Sz1 Ng1]
  show oF p e below s _ _ _ (s₁.setTop (mkF m 3 #[rv ad0, iv (2 : Int32)] [J2, J2]))
  refine oS (fun _ k => XS.isub X0.here hx rfl (hb hby d13_3) rfl k) ?_
  show oF p e below s _ _ _ (s₁.setTop (mkF m 4 #[rv ad0, iv (2 : Int32)] [(.int ((2 : Int32) - (2 : Int32)))]))
  rw [show ((2 : Int32) - (2 : Int32)) = (0 : Int32) from by decide]
  show oF p e below s _ _ _ (s₁.setTop (mkF m 4 #[rv ad0, iv (2 : Int32)] [J0]))
  refine xbipush X0 hx (hb hby d13_4) rfl ?_
  refine oS (fun _ k => XS.iushr X0.here hx rfl (hb hby d13_6) rfl k) ?_
  show oF p e below s _ _ _ (s₁.setTop (mkF m 7 #[rv ad0, iv (2 : Int32)] [(.int (((0 : Int32).toUInt32 >>> ((31 : Int32) &&& 31).toUInt32).toInt32))]))
  rw [show (((0 : Int32).toUInt32 >>> ((31 : Int32) &&& 31).toUInt32).toInt32) = (0 : Int32) from by decide]
  show oF p e below s _ _ _ (s₁.setTop (mkF m 7 #[rv ad0, iv (2 : Int32)] [J0]))
  refine oS (fun _ k => XS.i2b X0.here hx rfl (hb hby d13_7) rfl k) ?_
  show oF p e below s _ _ _ (s₁.setTop (mkF m 8 #[rv ad0, iv (2 : Int32)] [(.int ((0 : Int32).toInt8.toInt32))]))
  rw [show ((0 : Int32).toInt8.toInt32) = (0 : Int32) from by decide]
  show oF p e below s _ _ _ (s₁.setTop (mkF m 8 #[rv ad0, iv (2 : Int32)] [J0]))
  exact own_ret X0 hlk (v := some J0) (fun h => by rw [hret] at h; cases h) (by decide) (by decide) (by rw [e0]; exact ⟨rfl, N0, rfl⟩) (fun fs hr => retN X0 hx (t := .byte) hret (by simp) (hb hby d13_8) hr)

abbrev b14_ : ByteArray := jdk_52_method_21_code
theorem d14_0 : decode b14_ 0 = .ok (.iconst 0, 1) := by decide +kernel
theorem d14_1 : decode b14_ 1 = .ok (.istore 5, 2) := by decide +kernel
theorem d14_3 : decode b14_ 3 = .ok (.iload 5, 2) := by decide +kernel
theorem d14_5 : decode b14_ 5 = .ok (.iload 4, 2) := by decide +kernel
theorem d14_7 : decode b14_ 7 = .ok (.if_icmp .ge 37, 3) := by decide +kernel
theorem d14_10 : decode b14_ 10 = .ok (.aload_n 0, 1) := by decide +kernel
theorem d14_11 : decode b14_ 11 = .ok (.iload_n 1, 1) := by decide +kernel
theorem d14_12 : decode b14_ 12 = .ok (.caload, 1) := by decide +kernel
theorem d14_13 : decode b14_ 13 = .ok (.istore 6, 2) := by decide +kernel
theorem d14_15 : decode b14_ 15 = .ok (.iload 6, 2) := by decide +kernel
theorem d14_17 : decode b14_ 17 = .ok (.sipush 255, 3) := by decide +kernel
theorem d14_20 : decode b14_ 20 = .ok (.if_icmp .le 6, 3) := by decide +kernel
theorem d14_26 : decode b14_ 26 = .ok (.aload_n 2, 1) := by decide +kernel
theorem d14_27 : decode b14_ 27 = .ok (.iload_n 3, 1) := by decide +kernel
theorem d14_28 : decode b14_ 28 = .ok (.iload 6, 2) := by decide +kernel
theorem d14_30 : decode b14_ 30 = .ok (.i2b, 1) := by decide +kernel
theorem d14_31 : decode b14_ 31 = .ok (.bastore, 1) := by decide +kernel
theorem d14_32 : decode b14_ 32 = .ok (.iinc 1 1, 3) := by decide +kernel
theorem d14_35 : decode b14_ 35 = .ok (.iinc 3 1, 3) := by decide +kernel
theorem d14_38 : decode b14_ 38 = .ok (.iinc 5 1, 3) := by decide +kernel
theorem d14_41 : decode b14_ 41 = .ok (.goto (-38), 3) := by decide +kernel
theorem d14_44 : decode b14_ 44 = .ok (.iload 4, 2) := by decide +kernel
theorem d14_46 : decode b14_ 46 = .ok (.ireturn, 1) := by decide +kernel
abbrev own_y14 : MethodName := (⟨"java/lang/StringUTF16", "compress", "([CI[BII)I"⟩ : MethodName)
abbrev own_Q22 (Z : State) (ad2 : Addr) (zax zaz : Int32) (zdi : ClassId) (zdj zdk : Int32) (h0 : Heap) (n0 : Nat) (v : Option Value) (h : Heap) (L : List Loc) : Prop := Fr n0 L ∧ Keep h0 h [ad2] ∧ v = some J2 ∧ Arv Z h ad2 zdi .byte (2 : Int32) [(.int (nar .byte (zax.toInt8.toInt32))), (.int (nar .byte (zaz.toInt8.toInt32))), (.int zdj), (.int zdk)] J0
theorem own_rm22 {l : Launch} {Z : State} {a0 : Array Value} (hw : own_HW Z a0) (hs : own_HS Z a0) (ad0 ad2 : Addr) (zch : ClassId) (zax zaz : Int32) (zdi : ClassId) (ad2_0 ad2_1 zdj zdk : Int32) (h0 : Heap) (n0 : Nat) (Z0 : n0 ≤ h0.size) (zbv : Arv Z h0 ad0 zch .char (2 : Int32) [(.int zax), (.int zaz)] J0) (A_ad2 : Arv Z h0 ad2 zdi .byte (2 : Int32) [(.int ad2_0), (.int ad2_1), (.int zdj), (.int zdk)] J0) (hc20 : ¬ ((255 : Int32) < zax)) (g_ad2 : n0 ≤ ad2) (ne_ad0_ad2 : ad0 ≠ ad2) (hc20' : ¬ ((255 : Int32) < zaz)) :
    own_Met l own_y14 jdk_52_method_21_code 7 (some .int) [] (oR 0 0 0 0) #[(.ref ad0), J0, (.ref ad2), J0, J2] Z h0 (own_Q22 Z ad2 zax zaz zdi zdj zdk h0 n0) := by
  refine own_body (plainFor_of_name own_pn3) (own := "java/lang/StringUTF16") rfl (L0 := #[rv ad0, iv (0 : Int32), rv ad2, iv (0 : Int32), iv (2 : Int32), .unset, .unset]) fun p e s m below meth c s₁ hx hby hlk hml hown hnm X0 hZ e0 hh hret => ?_
  have N0 := Fr.nil n0
  have KR : Keep h0 h0 [ad2] := Keep.refl _ _
  refine xiconst X0 hx (hb hby d14_0) rfl ?_
  refine xistore X0 hx (hb hby d14_1) rfl (l' := #[rv ad0, iv (0 : Int32), rv ad2, iv (0 : Int32), iv (2 : Int32), iv (0 : Int32), .unset]) rfl rfl ?_
  refine xiload X0 hx (hb hby d14_3) rfl rfl ?_
  refine xiload X0 hx (hb hby d14_5) rfl rfl ?_
  refine xicmpNo X0 hx (hb hby d14_7) rfl (tlt (by decide : (0 : Int32) < (2 : Int32))).2.1 rfl ?_
  refine xaloadN X0 hx (hb hby d14_10) rfl rfl rfl ?_
  refine xiloadN X0 hx (hb hby d14_11) rfl rfl ?_
  obtain ⟨cl1, Ar1, q1, Sz1, Ng1, Hs1, Gf1⟩ := id zbv
  have hin1 : ¬ ((0 : Int32) < 0 ∨ cl1.slots.size ≤ ((0 : Int32)).toNatClampNeg) := inb_of Sz1 ⟨by decide, by decide⟩
  refine oS (fun _ k => X0.caload hx (j := (0 : Int32)) (v := (.int zax)) (by rw [e0]; exact Ar1.1) (State.isArrayOf_alike hZ.alike Ar1.2.1) Ar1.2.2 hin1 (Has.at Hs1 hin1 rfl) (g := (mkF m 12 #[rv ad0, iv (0 : Int32), rv ad2, iv (0 : Int32), iv (2 : Int32), iv (0 : Int32), .unset] [J0, (.ref ad0)])) rfl rfl (hb hby d14_12) _ k) ?_
  refine xistore X0 hx (hb hby d14_13) rfl (l' := #[rv ad0, iv (0 : Int32), rv ad2, iv (0 : Int32), iv (2 : Int32), iv (0 : Int32), iv zax]) rfl rfl ?_
  refine xiload X0 hx (hb hby d14_15) rfl rfl ?_
  refine oS (fun _ k => XS.sipush X0.here hx rfl (hb hby d14_17) k) ?_
  show oF p e below s _ _ _ (s₁.setTop (mkF m 20 #[rv ad0, iv (0 : Int32), rv ad2, iv (0 : Int32), iv (2 : Int32), iv (0 : Int32), iv zax] [J255, (.int zax)]))
  refine xicmpYes X0 hx 20 26 rfl (hb hby d14_20) rfl (flt hc20).2.2.2 rfl ?_
  refine xaloadN X0 hx (hb hby d14_26) rfl rfl rfl ?_
  refine xiloadN X0 hx (hb hby d14_27) rfl rfl ?_
  refine xiload X0 hx (hb hby d14_28) rfl rfl ?_
  refine oS (fun _ k => XS.i2b X0.here hx rfl (hb hby d14_30) rfl k) ?_
  obtain ⟨cl2, Ar2, q2, Sz2, Ng2, Hs2, Gf2⟩ := id A_ad2
  have hin2 : ¬ ((0 : Int32) < 0 ∨ cl2.slots.size ≤ ((0 : Int32)).toNatClampNeg) := inb_of Sz2 ⟨by decide, by decide⟩
  obtain ⟨T2, h2, X2, e2, W2, st2⟩ := stB X0 hx hZ e0 Ar2 (j := (0 : Int32)) hin2 (g := (mkF m 31 #[rv ad0, iv (0 : Int32), rv ad2, iv (0 : Int32), iv (2 : Int32), iv (0 : Int32), iv zax] [(.int (zax.toInt8.toInt32)), J0, (.ref ad2)])) rfl rfl (hb hby d14_31)
  have N2 := Fr.snoc X2 N0 g_ad2
  have K2 : Keep h0 h2 [ad2] := KR.wr W2 (Or.inl (List.mem_of_getElem? (i := 0) rfl))
  have Z2 : n0 ≤ h2.size := Nat.le_trans Z0 (Keep.of_wr W2).1
  have G3 := (zbv.other W2 ne_ad0_ad2)
  have G4 : Arv Z h2 ad2 zdi .byte (2 : Int32) [(.int (nar .byte (zax.toInt8.toInt32))), (.int ad2_1), (.int zdj), (.int zdk)] J0 := Arv.set Ar2 q2 Sz2 Ng2 Hs2 Gf2 (fits_nar_byte _) W2 0 rfl (Nat.le_of_ble_eq_true rfl)
  refine oS st2 ?_
  refine oS (fun _ k => XS.iinc X2.here hx rfl (hb hby d14_32) rfl (l' := #[rv ad0, iv ((0 : Int32) + (1 : Int32)), rv ad2, iv (0 : Int32), iv (2 : Int32), iv (0 : Int32), iv zax]) rfl k) ?_
  show oF p e below s _ _ _ (T2.setTop (mkF m 35 #[rv ad0, iv ((0 : Int32) + (1 : Int32)), rv ad2, iv (0 : Int32), iv (2 : Int32), iv (0 : Int32), iv zax] []))
  rw [show ((0 : Int32) + (1 : Int32)) = (1 : Int32) from by decide]
  show oF p e below s _ _ _ (T2.setTop (mkF m 35 #[rv ad0, iv (1 : Int32), rv ad2, iv (0 : Int32), iv (2 : Int32), iv (0 : Int32), iv zax] []))
  refine oS (fun _ k => XS.iinc X2.here hx rfl (hb hby d14_35) rfl (l' := #[rv ad0, iv (1 : Int32), rv ad2, iv ((0 : Int32) + (1 : Int32)), iv (2 : Int32), iv (0 : Int32), iv zax]) rfl k) ?_
  show oF p e below s _ _ _ (T2.setTop (mkF m 38 #[rv ad0, iv (1 : Int32), rv ad2, iv ((0 : Int32) + (1 : Int32)), iv (2 : Int32), iv (0 : Int32), iv zax] []))
  rw [show ((0 : Int32) + (1 : Int32)) = (1 : Int32) from by decide]
  show oF p e below s _ _ _ (T2.setTop (mkF m 38 #[rv ad0, iv (1 : Int32), rv ad2, iv (1 : Int32), iv (2 : Int32), iv (0 : Int32), iv zax] []))
  refine oS (fun _ k => XS.iinc X2.here hx rfl (hb hby d14_38) rfl (l' := #[rv ad0, iv (1 : Int32), rv ad2, iv (1 : Int32), iv (2 : Int32), iv ((0 : Int32) + (1 : Int32)), iv zax]) rfl k) ?_
  show oF p e below s _ _ _ (T2.setTop (mkF m 41 #[rv ad0, iv (1 : Int32), rv ad2, iv (1 : Int32), iv (2 : Int32), iv ((0 : Int32) + (1 : Int32)), iv zax] []))
  rw [show ((0 : Int32) + (1 : Int32)) = (1 : Int32) from by decide]
  show oF p e below s _ _ _ (T2.setTop (mkF m 41 #[rv ad0, iv (1 : Int32), rv ad2, iv (1 : Int32), iv (2 : Int32), iv (1 : Int32), iv zax] []))
  refine xgoto X2 hx 41 3 rfl (hb hby d14_41) rfl ?_
  refine xiload X2 hx (hb hby d14_3) rfl rfl ?_
  refine xiload X2 hx (hb hby d14_5) rfl rfl ?_
  refine xicmpNo X2 hx (hb hby d14_7) rfl (tlt (by decide : (1 : Int32) < (2 : Int32))).2.1 rfl ?_
  refine xaloadN X2 hx (hb hby d14_10) rfl rfl rfl ?_
  refine xiloadN X2 hx (hb hby d14_11) rfl rfl ?_
  obtain ⟨cl5, Ar5, q5, Sz5, Ng5, Hs5, Gf5⟩ := id G3
  have hin5 : ¬ ((1 : Int32) < 0 ∨ cl5.slots.size ≤ ((1 : Int32)).toNatClampNeg) := inb_of Sz5 ⟨by decide, by decide⟩
  refine oS (fun _ k => X2.caload hx (j := (1 : Int32)) (v := (.int zaz)) (by rw [e2]; exact Ar5.1) (State.isArrayOf_alike hZ.alike Ar5.2.1) Ar5.2.2 hin5 (Has.at Hs5 hin5 rfl) (g := (mkF m 12 #[rv ad0, iv (1 : Int32), rv ad2, iv (1 : Int32), iv (2 : Int32), iv (1 : Int32), iv zax] [J1, (.ref ad0)])) rfl rfl (hb hby d14_12) _ k) ?_
  refine xistore X2 hx (hb hby d14_13) rfl (l' := #[rv ad0, iv (1 : Int32), rv ad2, iv (1 : Int32), iv (2 : Int32), iv (1 : Int32), iv zaz]) rfl rfl ?_
  refine xiload X2 hx (hb hby d14_15) rfl rfl ?_
  refine oS (fun _ k => XS.sipush X2.here hx rfl (hb hby d14_17) k) ?_
  refine xicmpYes X2 hx 20 26 rfl (hb hby d14_20) rfl (flt hc20').2.2.2 rfl ?_
  show oF p e below s _ _ _ (T2.setTop (mkF m 26 #[rv ad0, iv (1 : Int32), rv ad2, iv (1 : Int32), iv (2 : Int32), iv (1 : Int32), iv zaz] []))
  refine xaloadN X2 hx (hb hby d14_26) rfl rfl rfl ?_
  refine xiloadN X2 hx (hb hby d14_27) rfl rfl ?_
  refine xiload X2 hx (hb hby d14_28) rfl rfl ?_
  refine oS (fun _ k => XS.i2b X2.here hx rfl (hb hby d14_30) rfl k) ?_
  obtain ⟨cl6, Ar6, q6, Sz6, Ng6, Hs6, Gf6⟩ := id G4
  have hin6 : ¬ ((1 : Int32) < 0 ∨ cl6.slots.size ≤ ((1 : Int32)).toNatClampNeg) := inb_of Sz6 ⟨by decide, by decide⟩
  obtain ⟨T6, h6, X6, e6, W6, st6⟩ := stB X2 hx hZ e2 Ar6 (j := (1 : Int32)) hin6 (g := (mkF m 31 #[rv ad0, iv (1 : Int32), rv ad2, iv (1 : Int32), iv (2 : Int32), iv (1 : Int32), iv zaz] [(.int (zaz.toInt8.toInt32)), J1, (.ref ad2)])) rfl rfl (hb hby d14_31)
  have N6 := Fr.snoc X6 N2 g_ad2
  have K6 : Keep h0 h6 [ad2] := K2.wr W6 (Or.inl (List.mem_of_getElem? (i := 0) rfl))
  have Z6 : n0 ≤ h6.size := Nat.le_trans Z2 (Keep.of_wr W6).1
  have G7 := (G3.other W6 ne_ad0_ad2)
  have G8 : Arv Z h6 ad2 zdi .byte (2 : Int32) [(.int (nar .byte (zax.toInt8.toInt32))), (.int (nar .byte (zaz.toInt8.toInt32))), (.int zdj), (.int zdk)] J0 := Arv.set Ar6 q6 Sz6 Ng6 Hs6 Gf6 (fits_nar_byte _) W6 1 rfl (Nat.le_of_ble_eq_true rfl)
  refine oS st6 ?_
  refine oS (fun _ k => XS.iinc X6.here hx rfl (hb hby d14_32) rfl (l' := #[rv ad0, iv ((1 : Int32) + (1 : Int32)), rv ad2, iv (1 : Int32), iv (2 : Int32), iv (1 : Int32), iv zaz]) rfl k) ?_
  show oF p e below s _ _ _ (T6.setTop (mkF m 35 #[rv ad0, iv ((1 : Int32) + (1 : Int32)), rv ad2, iv (1 : Int32), iv (2 : Int32), iv (1 : Int32), iv zaz] []))
  rw [show ((1 : Int32) + (1 : Int32)) = (2 : Int32) from by decide]
  show oF p e below s _ _ _ (T6.setTop (mkF m 35 #[rv ad0, iv (2 : Int32), rv ad2, iv (1 : Int32), iv (2 : Int32), iv (1 : Int32), iv zaz] []))
  refine oS (fun _ k => XS.iinc X6.here hx rfl (hb hby d14_35) rfl (l' := #[rv ad0, iv (2 : Int32), rv ad2, iv ((1 : Int32) + (1 : Int32)), iv (2 : Int32), iv (1 : Int32), iv zaz]) rfl k) ?_
  show oF p e below s _ _ _ (T6.setTop (mkF m 38 #[rv ad0, iv (2 : Int32), rv ad2, iv ((1 : Int32) + (1 : Int32)), iv (2 : Int32), iv (1 : Int32), iv zaz] []))
  rw [show ((1 : Int32) + (1 : Int32)) = (2 : Int32) from by decide]
  show oF p e below s _ _ _ (T6.setTop (mkF m 38 #[rv ad0, iv (2 : Int32), rv ad2, iv (2 : Int32), iv (2 : Int32), iv (1 : Int32), iv zaz] []))
  refine oS (fun _ k => XS.iinc X6.here hx rfl (hb hby d14_38) rfl (l' := #[rv ad0, iv (2 : Int32), rv ad2, iv (2 : Int32), iv (2 : Int32), iv ((1 : Int32) + (1 : Int32)), iv zaz]) rfl k) ?_
  show oF p e below s _ _ _ (T6.setTop (mkF m 41 #[rv ad0, iv (2 : Int32), rv ad2, iv (2 : Int32), iv (2 : Int32), iv ((1 : Int32) + (1 : Int32)), iv zaz] []))
  rw [show ((1 : Int32) + (1 : Int32)) = (2 : Int32) from by decide]
  show oF p e below s _ _ _ (T6.setTop (mkF m 41 #[rv ad0, iv (2 : Int32), rv ad2, iv (2 : Int32), iv (2 : Int32), iv (2 : Int32), iv zaz] []))
  refine xgoto X6 hx 41 3 rfl (hb hby d14_41) rfl ?_
  refine xiload X6 hx (hb hby d14_3) rfl rfl ?_
  refine xiload X6 hx (hb hby d14_5) rfl rfl ?_
  refine xicmpYes X6 hx 7 44 rfl (hb hby d14_7) rfl (flt (by decide : ¬ ((2 : Int32) < (2 : Int32)))).2.1 rfl ?_
  refine xiload X6 hx (hb hby d14_44) rfl rfl ?_
  exact oRI X6 hx hlk hret (hb hby d14_46) (by rw [e6]; exact ⟨N6, K6, rfl, G8⟩)

theorem own_pd8 : parseMethodDescriptor "([CI[BII)I" = some ⟨[(.array .char), .int, (.array .byte), .int, .int], some .int⟩ := by decide +kernel
abbrev b15_ : ByteArray := jdk_52_method_16_code
theorem d15_0 : decode b15_ 0 = .ok (.iload_n 2, 1) := by decide +kernel
theorem d15_1 : decode b15_ 1 = .ok (.newarray .byte, 2) := by decide +kernel
theorem d15_3 : decode b15_ 3 = .ok (.astore_n 3, 1) := by decide +kernel
theorem d15_4 : decode b15_ 4 = .ok (.aload_n 0, 1) := by decide +kernel
theorem d15_5 : decode b15_ 5 = .ok (.iload_n 1, 1) := by decide +kernel
theorem d15_6 : decode b15_ 6 = .ok (.aload_n 3, 1) := by decide +kernel
theorem d15_7 : decode b15_ 7 = .ok (.iconst 0, 1) := by decide +kernel
theorem d15_8 : decode b15_ 8 = .ok (.iload_n 2, 1) := by decide +kernel
theorem d15_9 : decode b15_ 9 = .ok (.invokestatic 115, 3) := by decide +kernel
theorem d15_12 : decode b15_ 12 = .ok (.istore 4, 2) := by decide +kernel
theorem d15_14 : decode b15_ 14 = .ok (.iload 4, 2) := by decide +kernel
theorem d15_16 : decode b15_ 16 = .ok (.iload_n 2, 1) := by decide +kernel
theorem d15_17 : decode b15_ 17 = .ok (.if_icmp .eq 40, 3) := by decide +kernel
theorem d15_57 : decode b15_ 57 = .ok (.aload_n 3, 1) := by decide +kernel
theorem d15_58 : decode b15_ 58 = .ok (.areturn, 1) := by decide +kernel
abbrev own_y15 : MethodName := (⟨"java/lang/StringUTF16", "compress", "([CII)[B"⟩ : MethodName)
abbrev own_Q23 (Z : State) (zax zaz : Int32) (h0 : Heap) (n0 : Nat) (v : Option Value) (h : Heap) (L : List Loc) : Prop := Fr n0 L ∧ Keep h0 h [] ∧ ∃ o0 : Addr, n0 ≤ o0 ∧ h0.size ≤ o0 ∧ ∃ (ko0 : ClassId), v = some (.ref o0) ∧ Arv Z h o0 ko0 .byte (2 : Int32) [(.int (nar .byte (zax.toInt8.toInt32))), (.int (nar .byte (zaz.toInt8.toInt32))), J0, J0] J0
theorem own_rm23 {l : Launch} {Z : State} {a0 : Array Value} (hw : own_HW Z a0) (hs : own_HS Z a0) (ad0 : Addr) (zch : ClassId) (zax zaz : Int32) (h0 : Heap) (n0 : Nat) (Z0 : n0 ≤ h0.size) (zbv : Arv Z h0 ad0 zch .char (2 : Int32) [(.int zax), (.int zaz)] J0) (hc20_9 : ¬ ((255 : Int32) < zax)) (hc20'_9 : ¬ ((255 : Int32) < zaz)) :
    own_Met l own_y15 jdk_52_method_16_code 6 (some (.array .byte)) [] (oR 1 1 2 18) #[(.ref ad0), J0, J2] Z h0 (own_Q23 Z zax zaz h0 n0) := by
  refine own_body (plainFor_of_name own_pn3) (own := "java/lang/StringUTF16") rfl (L0 := #[rv ad0, iv (0 : Int32), iv (2 : Int32), .unset, .unset, .unset]) fun p e s m below meth c s₁ hx hby hlk hml hown hnm X0 hZ e0 hh hret => ?_
  have N0 := Fr.nil n0
  have KR : Keep h0 h0 [] := Keep.refl _ _
  refine xiloadN X0 hx (hb hby d15_0) rfl rfl ?_
  obtain ⟨T1, h1, k1, X1, e1, E1, A1, st1⟩ := newP X0 hx hZ (w_ hw 23 rfl) e0 (g := (mkF m 1 #[rv ad0, iv (0 : Int32), iv (2 : Int32), .unset, .unset, .unset] [J2])) rfl (hb hby d15_1) rfl (by decide) (cap := 2) (by decide) (by decide) (by decide) (by decide)
  obtain ⟨b1, g1⟩ : ∃ z, z = h0.size := ⟨_, rfl⟩
  rw [← g1] at A1 st1
  have ne1_ad0 : ad0 ≠ b1 := Nat.ne_of_lt (Nat.lt_of_lt_of_le zbv.lt (Nat.le_of_eq g1.symm))
  have gg1 : n0 ≤ b1 := Nat.le_trans Z0 (Nat.le_of_eq g1.symm)
  have sz1 : h0.size ≤ b1 := Nat.le_trans KR.1 (Nat.le_of_eq g1.symm)
  have K1 : Keep h0 h1 [] := KR.ext E1
  have Z1 : n0 ≤ h1.size := Nat.le_trans Z0 E1.1
  have G2 := (zbv.ext E1)
  have G3 : Arv Z h1 b1 k1 .byte (2 : Int32) [J0, J0, J0, J0] J0 := (Arv.new A1 (by decide)).pad (pad_rep [] J0 4)
  refine oS st1 ?_
  refine xastoreN X1 hx (hb hby d15_3) rfl rfl (l' := #[rv ad0, iv (0 : Int32), iv (2 : Int32), rv b1, .unset, .unset]) rfl rfl ?_
  refine xaloadN X1 hx (hb hby d15_4) rfl rfl rfl ?_
  refine xiloadN X1 hx (hb hby d15_5) rfl rfl ?_
  refine xaloadN X1 hx (hb hby d15_6) rfl rfl rfl ?_
  refine xiconst X1 hx (hb hby d15_7) rfl ?_
  refine xiloadN X1 hx (hb hby d15_8) rfl rfl ?_
  refine oC X1 hx hZ hown hml (w_ hw 256 rfl) (w_ hw 257 rfl) (own_rm22 hw hs ad0 b1 zch zax zaz k1 ((0 : Int32)) ((0 : Int32)) ((0 : Int32)) ((0 : Int32)) h1 n0 Z1 G2 G3 hc20_9 gg1 ne1_ad0 hc20'_9) (w_ hw 258 rfl) (w_ hw 254 rfl) e1 [(.ref ad0), J0, (.ref b1), J0, J2] [] 0 (lenOf own_pd8 rfl) rfl (hb hby d15_9) rfl rfl rfl fun T4 L4 v4 X4 hQ4 => ?_
  obtain ⟨N4q, K4q, rfl, G5⟩ := hQ4
  have N4 := Fr.app N0 N4q
  have K4 := K1.trans K4q (own_aB sz1 own_a0)
  have Z4 := Nat.le_trans Z1 K4q.1
  have G6 := (G2.keep K4q (ninS ne1_ad0 nin0))
  show oF p e below s _ _ _ (T4.setTop (mkF m 12 #[rv ad0, iv (0 : Int32), iv (2 : Int32), rv b1, .unset, .unset] [J2]))
  refine xistore X4 hx (hb hby d15_12) rfl (l' := #[rv ad0, iv (0 : Int32), iv (2 : Int32), rv b1, iv (2 : Int32), .unset]) rfl rfl ?_
  refine xiload X4 hx (hb hby d15_14) rfl rfl ?_
  refine xiloadN X4 hx (hb hby d15_16) rfl rfl ?_
  refine xicmpYes X4 hx 17 57 rfl (hb hby d15_17) rfl (teq (by decide : (2 : Int32) = (2 : Int32))).1 rfl ?_
  refine xaloadN X4 hx (hb hby d15_57) rfl rfl rfl ?_
  exact oRA X4 hx hlk hret rfl rfl rfl (hb hby d15_58) ⟨N4, K4, b1, gg1, sz1, k1, rfl, G5⟩

theorem own_pd9 : parseMethodDescriptor "([CII)[B" = some ⟨[(.array .char), .int, .int], some (.array .byte)⟩ := by decide +kernel
theorem own_pd10 : parseMethodDescriptor "([BI)B" = some ⟨[(.array .byte), .int], some .byte⟩ := by decide +kernel
abbrev b16_ : ByteArray := jdk_42_method_149_code
theorem d16_0 : decode b16_ 0 = .ok (.aload_n 0, 1) := by decide +kernel
theorem d16_1 : decode b16_ 1 = .ok (.invokespecial 1, 3) := by decide +kernel
theorem d16_4 : decode b16_ 4 = .ok (.iload_n 3, 1) := by decide +kernel
theorem d16_5 : decode b16_ 5 = .ok (.ifCond .ne 22, 3) := by decide +kernel
theorem d16_27 : decode b16_ 27 = .ok (.getstatic 38, 3) := by decide +kernel
theorem d16_30 : decode b16_ 30 = .ok (.ifCond .eq 28, 3) := by decide +kernel
theorem d16_33 : decode b16_ 33 = .ok (.aload_n 1, 1) := by decide +kernel
theorem d16_34 : decode b16_ 34 = .ok (.iload_n 2, 1) := by decide +kernel
theorem d16_35 : decode b16_ 35 = .ok (.iload_n 3, 1) := by decide +kernel
theorem d16_36 : decode b16_ 36 = .ok (.invokestatic 177, 3) := by decide +kernel
theorem d16_39 : decode b16_ 39 = .ok (.astore 5, 2) := by decide +kernel
theorem d16_41 : decode b16_ 41 = .ok (.aload_n 0, 1) := by decide +kernel
theorem d16_42 : decode b16_ 42 = .ok (.aload 5, 2) := by decide +kernel
theorem d16_44 : decode b16_ 44 = .ok (.iload_n 3, 1) := by decide +kernel
theorem d16_45 : decode b16_ 45 = .ok (.invokestatic 47, 3) := by decide +kernel
theorem d16_48 : decode b16_ 48 = .ok (.putfield 15, 3) := by decide +kernel
theorem d16_51 : decode b16_ 51 = .ok (.aload_n 0, 1) := by decide +kernel
theorem d16_52 : decode b16_ 52 = .ok (.aload 5, 2) := by decide +kernel
theorem d16_54 : decode b16_ 54 = .ok (.putfield 9, 3) := by decide +kernel
theorem d16_57 : decode b16_ 57 = .ok (.return_, 1) := by decide +kernel
abbrev own_y16 : MethodName := (⟨"java/lang/String", "<init>", "([CIILjava/lang/Void;)V"⟩ : MethodName)
abbrev own_Q24 (Z : State) (ad0 : Addr) (zcq zcr : Int32) (h0 : Heap) (n0 : Nat) (v : Option Value) (h : Heap) (L : List Loc) : Prop := Fr n0 L ∧ Keep h0 h [ad0] ∧ ∃ o0 : Addr, n0 ≤ o0 ∧ h0.size ≤ o0 ∧ ∃ (ko0 : ClassId), v = none ∧ Exa Z h ad0 cN0 ∧ Fld Z h ad0 cN0 "coder" "B" J0 ∧ Fld Z h ad0 cN0 "value" "[B" (.ref o0) ∧ Arv Z h o0 ko0 .byte (2 : Int32) [(.int (nar .byte (zcq.toInt8.toInt32))), (.int (nar .byte (zcr.toInt8.toInt32))), J0, J0] J0
theorem own_rm24 {l : Launch} {Z : State} {a0 : Array Value} (hw : own_HW Z a0) (hs : own_HS Z a0) (ad0 ad1 : Addr) (zcj zce : Value) (zck : ClassId) (zcq zcr zaa : Int32) (h0 : Heap) (n0 : Nat) (Z0 : n0 ≤ h0.size) (zad : Exa Z h0 ad0 cN0) (zal : Fld Z h0 ad0 cN0 "value" "[B" zcj) (zak : Fld Z h0 ad0 cN0 "coder" "B" zce) (zcf : Arv Z h0 ad1 zck .char (2 : Int32) [(.int zcq), (.int zcr)] J0) (zac : Sta Z h0 cN0 "COMPACT_STRINGS" "Z" (.int zaa)) (hc30 : ¬ (zaa = (0 : Int32))) (hc20_9_36 : ¬ ((255 : Int32) < zcq)) (hc20'_9_36 : ¬ ((255 : Int32) < zcr)) (zas : n0 ≤ ad0) :
    own_Met l own_y16 jdk_42_method_149_code 6 none [] (oR 2 1 2 35) #[(.ref ad0), (.ref ad1), J0, J2, .null] Z h0 (own_Q24 Z ad0 zcq zcr h0 n0) := by
  refine own_body (plainFor_of_name own_pn0) (own := "java/lang/String") rfl (L0 := #[rv ad0, rv ad1, iv (0 : Int32), iv (2 : Int32), .val .null, .unset]) fun p e s m below meth c s₁ hx hby hlk hml hown hnm X0 hZ e0 hh hret => ?_
  have N0 := Fr.nil n0
  have KR : Keep h0 h0 [ad0] := Keep.refl _ _
  refine xaloadN X0 hx (hb hby d16_0) rfl rfl rfl ?_
  obtain ⟨T1, X1, e1, st1⟩ := initO X0 hx hZ hown (w_ hw 19 rfl) (w_ hw 20 rfl) (w_ hw 21 rfl) e0 (g := (mkF m 1 #[rv ad0, rv ad1, iv (0 : Int32), iv (2 : Int32), .val .null, .unset] [(.ref ad0)])) rfl (by rw [hml]; rfl) rfl (hb hby d16_1) (by decide) (W := 0) (by show 2 * 0 + _ ≤ _; exact Nat.le_of_eq rfl) (by decide)
  refine oS st1 ?_
  refine xiloadN X1 hx (hb hby d16_4) rfl rfl ?_
  refine xifYes X1 hx 5 27 rfl (hb hby d16_5) rfl ((if0 _ _).trans (feq (by decide : ¬ ((2 : Int32) = (0 : Int32)))).2) rfl ?_
  obtain ⟨T2, X2, e2, st2⟩ := getS2 X1 hx hZ hown (host := "") (Or.inl (w_ hw 117 rfl)) Via.refl e1 zac (g := (mkF m 27 #[rv ad0, rv ad1, iv (0 : Int32), iv (2 : Int32), .val .null, .unset] [])) rfl (hb hby d16_27)
  refine oS st2 ?_
  refine xifNo X2 hx (hb hby d16_30) rfl ((if0 _ _).trans (feq hc30).1) rfl ?_
  refine xaloadN X2 hx (hb hby d16_33) rfl rfl rfl ?_
  refine xiloadN X2 hx (hb hby d16_34) rfl rfl ?_
  refine xiloadN X2 hx (hb hby d16_35) rfl rfl ?_
  show oF p e below s _ _ _ (T2.setTop (mkF m 36 #[rv ad0, rv ad1, iv (0 : Int32), iv (2 : Int32), .val .null, .unset] [J2, J0, (.ref ad1)]))
  refine oC X2 hx hZ hown hml (w_ hw 252 rfl) (w_ hw 253 rfl) (own_rm23 hw hs ad1 zck zcq zcr h0 n0 Z0 zcf hc20_9_36 hc20'_9_36) (w_ hw 255 rfl) (w_ hw 254 rfl) e2 [(.ref ad1), J0, J2] [] 0 (lenOf own_pd9 rfl) rfl (hb hby d16_36) rfl rfl rfl fun T3 L3 v3 X3 hQ3 => ?_
  obtain ⟨N3q, K3q, b3_o0, gg3_o0, sz3_o0, ko0_3, rfl, G4⟩ := hQ3
  have N3 := Fr.app N0 N3q
  have ne3_o0_ad1 : ad1 ≠ b3_o0 := Nat.ne_of_lt (Nat.lt_of_lt_of_le zcf.lt sz3_o0)
  have K3 := KR.trans K3q own_a0
  have Z3 := Nat.le_trans Z0 K3q.1
  have sy3_o0 : h0.size ≤ b3_o0 := Nat.le_trans KR.1 sz3_o0
  obtain ⟨G5, G6, G7⟩ := own_k2 K3q nin0 zad zal zak
  have G8 := (zcf.keep K3q nin0)
  have G9 := (own_sta_keep0 zac K3q)
  refine xastore X3 hx (hb hby d16_39) rfl rfl (l' := #[rv ad0, rv ad1, iv (0 : Int32), iv (2 : Int32), .val .null, rv b3_o0]) rfl rfl ?_
  refine xaloadN X3 hx (hb hby d16_41) rfl rfl rfl ?_
  refine xaload X3 hx (hb hby d16_42) rfl rfl rfl ?_
  refine xiloadN X3 hx (hb hby d16_44) rfl rfl ?_
  refine oC X3 hx hZ hown hml (w_ hw 259 rfl) (w_ hw 260 rfl) (own_rm21 hw hs b3_o0 ko0_3 ((nar .byte (zcq.toInt8.toInt32))) ((nar .byte (zcr.toInt8.toInt32))) ((0 : Int32)) ((0 : Int32)) T3.heap n0 Z3 G4) (w_ hw 261 rfl) (w_ hw 254 rfl) rfl [(.ref b3_o0), J2] [(.ref ad0)] 1 (lenOf own_pd10 rfl) rfl (hb hby d16_45) rfl rfl rfl fun T10 L10 v10 X10 hQ10 => ?_
  obtain ⟨rfl, N10q, e10⟩ := hQ10
  have N10 := Fr.app N3 N10q
  obtain ⟨T11, h11, X11, e11, W11, st11⟩ := putFN X10 hx hZ hown (w_ hw 29 rfl) Via.refl e10 G7 G5 (Or.inr ⟨(w_ hw 25 rfl), rfl, hnm⟩) (w_ hw 9 rfl) (ty := .byte) (v' := J0) (by decide) rfl (rfl) (g := (mkF m 48 #[rv ad0, rv ad1, iv (0 : Int32), iv (2 : Int32), .val .null, rv b3_o0] [J0, (.ref ad0)])) rfl rfl (hb hby d16_48)
  have N11 := Fr.snoc X11 N10 zas
  have K11 : Keep h0 h11 [ad0] := K3.wr W11 (Or.inl (List.mem_of_getElem? (i := 0) rfl))
  have Z11 : n0 ≤ h11.size := Nat.le_trans Z3 (Keep.of_wr W11).1
  have G12 := (G5.wr W11)
  have G13 := (G6.other W11 (Or.inr (sn1 hw)))
  have G14 := (G8.other W11 (Ne.symm (Exa.neArv G5 G8 (w_ hw 9 rfl))))
  have G15 := (G9.wr W11)
  have G16 := (G4.other W11 (Ne.symm (Exa.neArv G5 G4 (w_ hw 9 rfl))))
  have G17 := G7.same W11
  refine oS st11 ?_
  refine xaloadN X11 hx (hb hby d16_51) rfl rfl rfl ?_
  show oF p e below s _ _ _ (T11.setTop (mkF m 52 #[rv ad0, rv ad1, iv (0 : Int32), iv (2 : Int32), .val .null, rv b3_o0] [(.ref ad0)]))
  refine xaload X11 hx (hb hby d16_52) rfl rfl rfl ?_
  obtain ⟨T18, h18, X18, e18, W18, st18⟩ := putF X11 hx hZ hown (host := "") (Or.inl (w_ hw 28 rfl)) Via.refl e11 G13 G12 (Or.inr ⟨(w_ hw 24 rfl), rfl, hnm⟩) (w_ hw 9 rfl) (ty := (.array .byte)) (by decide) rfl rfl (g := (mkF m 54 #[rv ad0, rv ad1, iv (0 : Int32), iv (2 : Int32), .val .null, rv b3_o0] [(.ref b3_o0), (.ref ad0)])) rfl rfl (hb hby d16_54)
  have N18 := Fr.snoc X18 N11 zas
  have K18 : Keep h0 h18 [ad0] := K11.wr W18 (Or.inl (List.mem_of_getElem? (i := 0) rfl))
  have Z18 : n0 ≤ h18.size := Nat.le_trans Z11 (Keep.of_wr W18).1
  have G19 := (G12.wr W18)
  have G20 := (G14.other W18 (Ne.symm (Exa.neArv G12 G14 (w_ hw 9 rfl))))
  have G21 := (G15.wr W18)
  have G22 := (G16.other W18 (Ne.symm (Exa.neArv G12 G16 (w_ hw 9 rfl))))
  have G23 := (G17.other W18 (Or.inr (sn0 hw)))
  have G24 := G13.same W18
  refine oS st18 ?_
  exact oRV X18 hx hlk hret (hb hby d16_57) (by rw [e18]; exact ⟨N18, K18, b3_o0, gg3_o0, sy3_o0, ko0_3, rfl, G19, G23, G24, G22⟩)

theorem d16_8 : decode b16_ 8 = .ok (.aload_n 0, 1) := by decide +kernel
theorem d16_9 : decode b16_ 9 = .ok (.ldc 7, 2) := by decide +kernel
theorem d16_11 : decode b16_ 11 = .ok (.getfield 9, 3) := by decide +kernel
theorem d16_14 : decode b16_ 14 = .ok (.putfield 9, 3) := by decide +kernel
theorem d16_17 : decode b16_ 17 = .ok (.aload_n 0, 1) := by decide +kernel
theorem d16_18 : decode b16_ 18 = .ok (.ldc 7, 2) := by decide +kernel
theorem d16_20 : decode b16_ 20 = .ok (.getfield 15, 3) := by decide +kernel
theorem d16_23 : decode b16_ 23 = .ok (.putfield 15, 3) := by decide +kernel
theorem d16_26 : decode b16_ 26 = .ok (.return_, 1) := by decide +kernel
abbrev own_Q25 (Z : State) (ad0 : Addr) (h0 : Heap) (n0 : Nat) (v : Option Value) (h : Heap) (L : List Loc) : Prop := Fr n0 L ∧ Keep h0 h [ad0] ∧ ∃ (x0 : Addr) (ko0 : ClassId), v = none ∧ Exa Z h ad0 cN0 ∧ Fld Z h ad0 cN0 "value" "[B" (.ref x0) ∧ Fld Z h ad0 cN0 "coder" "B" J0 ∧ Arv Z h x0 ko0 .byte (0 : Int32) [J0, J0, J0, J0] J0
theorem own_rm25 {l : Launch} {Z : State} {a0 : Array Value} (hw : own_HW Z a0) (hs : own_HS Z a0) (ad0 ad1 : Addr) (zce : Value) (zck : ClassId) (h0 : Heap) (n0 : Nat) (Z0 : n0 ≤ h0.size) (zad : Exa Z h0 ad0 cN0) (zal : Fld Z h0 ad0 cN0 "value" "[B" .null) (zak : Fld Z h0 ad0 cN0 "coder" "B" zce) (zcf : Arv Z h0 ad1 zck .char (0 : Int32) [] J0) (zas : n0 ≤ ad0) :
    own_MetH l own_y16 jdk_42_method_149_code 6 none [] (oR 1 4 8 12) #[(.ref ad0), (.ref ad1), J0, J0, .null] Z h0 (own_Q25 Z ad0 h0 n0) := by
  refine own_bodyH (plainFor_of_name own_pn0) (own := "java/lang/String") rfl (L0 := #[rv ad0, rv ad1, iv (0 : Int32), iv (0 : Int32), .val .null, .unset]) fun p e s m below meth c s₁ hx hby hlk hml hown hnm X0 hZ e0 hh hret H0 hS0 => ?_
  have N0 := Fr.nil n0
  have KR : Keep h0 h0 [ad0] := Keep.refl _ _
  have hk0 : h0.size ≤ h0.size := Nat.le_refl _
  have Sf0 := own_safe0 (EL := consts_1) hZ.alike zad zal
  refine xaloadNH X0 hx (hb hby d16_0) rfl rfl rfl ?_
  obtain ⟨T1, X1, e1, st1⟩ := initO X0 hx hZ hown (w_ hw 19 rfl) (w_ hw 20 rfl) (w_ hw 21 rfl) e0 (g := (mkF m 1 #[rv ad0, rv ad1, iv (0 : Int32), iv (0 : Int32), .val .null, .unset] [(.ref ad0)])) rfl (by rw [hml]; rfl) rfl (hb hby d16_1) (by decide) (W := 0) (by show 2 * 0 + _ ≤ _; exact Nat.le_of_eq rfl) (by decide)
  refine oH st1 ?_
  refine xiloadNH X1 hx (hb hby d16_4) rfl rfl ?_
  refine xifNoH X1 hx (hb hby d16_5) rfl ((if0 _ _).trans (teq (by decide : (0 : Int32) = (0 : Int32))).2) rfl ?_
  refine xaloadNH X1 hx (hb hby d16_8) rfl rfl rfl ?_
  obtain ⟨a2, T2, h2, kb2, b2, k2, X2, e2, E2, hS2, hk2, hZ2, hown2, Ea2, Fc2, Fv2, Ab2, -, -, C2, -, sf2, st2⟩ := ldcCH X1 hx hZ hown (w_ hw 22 rfl) (own_sa hw) e1 hS0 hk0 (own_ew hw) (List.mem_of_getElem? (i := 1) rfl) H0.1 (vs := []) (z := (0 : Int32)) (by decide) (by decide) (by decide) (g := (mkF m 9 #[rv ad0, rv ad1, iv (0 : Int32), iv (0 : Int32), .val .null, .unset] [(.ref ad0)])) rfl (hb hby d16_9) (n := 0) (by decide +kernel) (by decide) (by decide) (by decide)
  have H2 := H0.trans C2
  have G3 := CHr.safe C2 zad.lt Sf0
  obtain ⟨na2_ad0, nb2_ad0⟩ := sf2 _ G3
  have K2 : Keep h0 h2 [ad0] := KR.ext E2
  have Z2 : n0 ≤ h2.size := Nat.le_trans Z0 E2.1
  obtain ⟨G4, G5, G6⟩ := own_e2 E2 zad zal zak
  have G7 := (zcf.ext E2)
  have Ap2 : Arv Z h2 b2 k2 .byte (0 : Int32) [J0, J0, J0, J0] J0 := Ab2.pad (pad_rep [] J0 4)
  refine oH st2 ?_
  refine oGH X2 hx hZ2 hown2 (w_ hw 28 rfl) e2 Fv2 (hb hby d16_11) rfl rfl fun T8 X8 e8 => ?_
  obtain ⟨T9, h9, X9, e9, W9, st9⟩ := putF X8 hx hZ2 hown2 (host := "") (Or.inl (w_ hw 28 rfl)) Via.refl e8 G5 G4 (Or.inr ⟨(w_ hw 24 rfl), rfl, hnm⟩) (w_ hw 9 rfl) (ty := (.array .byte)) (by decide) rfl rfl (g := (mkF m 14 #[rv ad0, rv ad1, iv (0 : Int32), iv (0 : Int32), .val .null, .unset] [(.ref b2), (.ref ad0)])) rfl rfl (hb hby d16_14)
  have N9 := Fr.snoc X9 N0 zas
  have K9 : Keep h0 h9 [ad0] := K2.wr W9 (Or.inl (List.mem_of_getElem? (i := 0) rfl))
  have Z9 : n0 ≤ h9.size := Nat.le_trans Z2 (Keep.of_wr W9).1
  have hk9 := Nat.le_trans hk2 (Keep.of_wr W9).1
  have H10 := H2.trans (CHr.wr W9 G3 H2.1)
  have G11 := (Safe.wr W9 G3 H2.1 G3)
  obtain ⟨G12, G13, G14⟩ := own_o2 W9 (Ne.symm na2_ad0) Ea2 Fc2 Fv2
  have G15 := (G4.wr W9)
  have G16 := (G6.other W9 (Or.inr (sn0 hw)))
  have G17 := (G7.other W9 (Ne.symm (Exa.neArv G4 G7 (w_ hw 9 rfl))))
  have G18 := (Ap2.other W9 (Ne.symm nb2_ad0))
  have G19 := G5.same W9
  refine oH st9 ?_
  show oFH p e below s _ _ _ (T9.setTop (mkF m 17 #[rv ad0, rv ad1, iv (0 : Int32), iv (0 : Int32), .val .null, .unset] []))
  refine xaloadNH X9 hx (hb hby d16_17) rfl rfl rfl ?_
  obtain ⟨a20, T20, h20, kb20, b20, k20, X20, e20, E20, hS20, hk20, hZ20, hown20, Ea20, Fc20, Fv20, Ab20, -, -, C20, -, sf20, st20⟩ := ldcCH X9 hx hZ2 hown2 (w_ hw 22 rfl) (own_sa hw) e9 hS2 hk9 (own_ew hw) (List.mem_of_getElem? (i := 1) rfl) H10.1 (vs := []) (z := (0 : Int32)) (by decide) (by decide) (by decide) (g := (mkF m 18 #[rv ad0, rv ad1, iv (0 : Int32), iv (0 : Int32), .val .null, .unset] [(.ref ad0)])) rfl (hb hby d16_18) (n := 0) (by decide +kernel) (by decide) (by decide) (by decide)
  have H20 := H10.trans C20
  have G21 := CHr.safe C20 G15.lt G11
  obtain ⟨na20_ad0, nb20_ad0⟩ := sf20 _ G21
  have K20 : Keep h0 h20 [ad0] := K9.ext E20
  have Z20 : n0 ≤ h20.size := Nat.le_trans Z9 E20.1
  obtain ⟨G22, G23, G24⟩ := own_e2 E20 G12 G13 G14
  obtain ⟨G25, G26, G27⟩ := own_e2 E20 G15 G16 G19
  have G28 := (G17.ext E20)
  have G29 := (G18.ext E20)
  have Ap20 : Arv Z h20 b20 k20 .byte (0 : Int32) [J0, J0, J0, J0] J0 := Ab20.pad (pad_rep [] J0 4)
  refine oH st20 ?_
  refine oGH X20 hx hZ20 hown20 (w_ hw 29 rfl) e20 Fc20 (hb hby d16_20) rfl rfl fun T30 X30 e30 => ?_
  obtain ⟨T31, h31, X31, e31, W31, st31⟩ := putFN X30 hx hZ20 hown20 (w_ hw 29 rfl) Via.refl e30 G26 G25 (Or.inr ⟨(w_ hw 25 rfl), rfl, hnm⟩) (w_ hw 9 rfl) (ty := .byte) (v' := J0) (by decide) rfl (rfl) (g := (mkF m 23 #[rv ad0, rv ad1, iv (0 : Int32), iv (0 : Int32), .val .null, .unset] [J0, (.ref ad0)])) rfl rfl (hb hby d16_23)
  have N31 := Fr.snoc X31 N9 zas
  have K31 : Keep h0 h31 [ad0] := K20.wr W31 (Or.inl (List.mem_of_getElem? (i := 0) rfl))
  have Z31 : n0 ≤ h31.size := Nat.le_trans Z20 (Keep.of_wr W31).1
  have hk31 := Nat.le_trans hk20 (Keep.of_wr W31).1
  have H32 := H20.trans (CHr.wr W31 G21 H20.1)
  have G33 := (Safe.wr W31 G21 H20.1 G21)
  obtain ⟨G34, G35, G36⟩ := own_o2 W31 (Ne.symm na2_ad0) G22 G23 G24
  obtain ⟨G37, G38, G39⟩ := own_o2 W31 (Ne.symm na20_ad0) Ea20 Fc20 Fv20
  have G40 := (G25.wr W31)
  have G41 := (G27.other W31 (Or.inr (sn1 hw)))
  have G42 := (G28.other W31 (Ne.symm (Exa.neArv G25 G28 (w_ hw 9 rfl))))
  have G43 := (G29.other W31 (Ne.symm nb2_ad0))
  have G44 := (Ap20.other W31 (Ne.symm nb20_ad0))
  have G45 := G26.same W31
  refine oH st31 ?_
  exact own_retH X31 hlk hS20 e31 hk31 hZ20 (own_ew hw) H32 (v := none) (fun _ => rfl) (by decide) (by decide) (by rw [e31]; exact ⟨N31, K31, b2, k2, rfl, G40, G41, G45, G43⟩) (fun fs hr => X31.returnOut hx hret (hb hby d16_26) hr)

theorem own_pd11 : parseMethodDescriptor "([CIILjava/lang/Void;)V" = some ⟨[(.array .char), .int, .int, (.object "java/lang/Void")], none⟩ := by decide +kernel
abbrev b17_ : ByteArray := jdk_42_method_3_code
theorem d17_0 : decode b17_ 0 = .ok (.aload_n 0, 1) := by decide +kernel
theorem d17_1 : decode b17_ 1 = .ok (.aload_n 1, 1) := by decide +kernel
theorem d17_2 : decode b17_ 2 = .ok (.iconst 0, 1) := by decide +kernel
theorem d17_3 : decode b17_ 3 = .ok (.aload_n 1, 1) := by decide +kernel
theorem d17_4 : decode b17_ 4 = .ok (.arraylength, 1) := by decide +kernel
theorem d17_5 : decode b17_ 5 = .ok (.aconst_null, 1) := by decide +kernel
theorem d17_6 : decode b17_ 6 = .ok (.invokespecial 27, 3) := by decide +kernel
theorem d17_9 : decode b17_ 9 = .ok (.return_, 1) := by decide +kernel
abbrev own_y17 : MethodName := (⟨"java/lang/String", "<init>", "([C)V"⟩ : MethodName)
abbrev own_Q26 (Z : State) (ad0 : Addr) (zcq zcr : Int32) (h0 : Heap) (n0 : Nat) (v : Option Value) (h : Heap) (L : List Loc) : Prop := Fr n0 L ∧ Keep h0 h [ad0] ∧ ∃ o0 : Addr, n0 ≤ o0 ∧ h0.size ≤ o0 ∧ ∃ (ko0 : ClassId), v = none ∧ Exa Z h ad0 cN0 ∧ Fld Z h ad0 cN0 "coder" "B" J0 ∧ Fld Z h ad0 cN0 "value" "[B" (.ref o0) ∧ Arv Z h o0 ko0 .byte (2 : Int32) [(.int (nar .byte (zcq.toInt8.toInt32))), (.int (nar .byte (zcr.toInt8.toInt32))), J0, J0] J0
theorem own_rm26 {l : Launch} {Z : State} {a0 : Array Value} (hw : own_HW Z a0) (hs : own_HS Z a0) (ad0 ad1 : Addr) (zcj zce : Value) (zck : ClassId) (zcq zcr zaa : Int32) (h0 : Heap) (n0 : Nat) (Z0 : n0 ≤ h0.size) (zad : Exa Z h0 ad0 cN0) (zal : Fld Z h0 ad0 cN0 "value" "[B" zcj) (zak : Fld Z h0 ad0 cN0 "coder" "B" zce) (zcf : Arv Z h0 ad1 zck .char (2 : Int32) [(.int zcq), (.int zcr)] J0) (zac : Sta Z h0 cN0 "COMPACT_STRINGS" "Z" (.int zaa)) (hc30_6 : ¬ (zaa = (0 : Int32))) (hc20_9_36_6 : ¬ ((255 : Int32) < zcq)) (hc20'_9_36_6 : ¬ ((255 : Int32) < zcr)) (zas : n0 ≤ ad0) :
    own_Met l own_y17 jdk_42_method_3_code 2 none [] (oR 3 1 2 52) #[(.ref ad0), (.ref ad1)] Z h0 (own_Q26 Z ad0 zcq zcr h0 n0) := by
  refine own_body (plainFor_of_name own_pn0) (own := "java/lang/String") rfl (L0 := #[rv ad0, rv ad1]) fun p e s m below meth c s₁ hx hby hlk hml hown hnm X0 hZ e0 hh hret => ?_
  have N0 := Fr.nil n0
  have KR : Keep h0 h0 [ad0] := Keep.refl _ _
  refine xaloadN X0 hx (hb hby d17_0) rfl rfl rfl ?_
  refine xaloadN X0 hx (hb hby d17_1) rfl rfl rfl ?_
  refine xiconst X0 hx (hb hby d17_2) rfl ?_
  refine xaloadN X0 hx (hb hby d17_3) rfl rfl rfl ?_
  obtain ⟨cl1, Ar1, q1, Sz1, Ng1, Hs1, Gf1⟩ := id zcf
  refine oS (fun _ k => X0.arraylength hx (by rw [e0]; exact Ar1.1) (State.isArrayOf_alike hZ.alike Ar1.2.1) (g := (mkF m 4 #[rv ad0, rv ad1] [(.ref ad1), J0, (.ref ad1), (.ref ad0)])) rfl rfl (hb hby d17_4) _ k) ?_
  rw [len_of Sz1 Ng1]
  show oF p e below s _ _ _ (s₁.setTop (mkF m 5 #[rv ad0, rv ad1] [J2, J0, (.ref ad1), (.ref ad0)]))
  refine oS (fun _ k => XS.aconstNull X0.here hx rfl (hb hby d17_5) k) ?_
  refine oI X0 hx hZ hown hml (w_ hw 15 rfl) (w_ hw 16 rfl) (own_rm24 hw hs ad0 ad1 zcj zce zck zcq zcr zaa h0 n0 Z0 zad zal zak zcf zac hc30_6 hc20_9_36_6 hc20'_9_36_6 zas) (w_ hw 18 rfl) (w_ hw 10 rfl) e0 [(.ref ad1), J0, J2, .null] [] 0 (lenOf own_pd11 rfl) rfl (hb hby d17_6) rfl rfl rfl fun T2 L2 v2 X2 hQ2 => ?_
  obtain ⟨N2q, K2q, b2_o0, gg2_o0, sz2_o0, ko0_2, rfl, G3, G4, G5, G6⟩ := hQ2
  have N2 := Fr.app N0 N2q
  have ne2_o0_ad1 : ad1 ≠ b2_o0 := Nat.ne_of_lt (Nat.lt_of_lt_of_le zcf.lt sz2_o0)
  have K2 := KR.trans K2q (own_aW 0 rfl own_a0)
  have Z2 := Nat.le_trans Z0 K2q.1
  have sy2_o0 : h0.size ≤ b2_o0 := Nat.le_trans KR.1 sz2_o0
  have G7 := (zad.keep K2q)
  have G8 := (zcf.keep K2q (ninS (Ne.symm (Exa.neArv zad zcf (w_ hw 9 rfl))) nin0))
  have G9 := (own_sta_keep zac K2q (own_nS (own_nst_exa zad) own_n0))
  exact oRV X2 hx hlk hret (hb hby d17_9) ⟨N2, K2, b2_o0, gg2_o0, sy2_o0, ko0_2, rfl, G3, G4, G5, G6⟩

abbrev own_Q27 (Z : State) (ad0 : Addr) (h0 : Heap) (n0 : Nat) (v : Option Value) (h : Heap) (L : List Loc) : Prop := Fr n0 L ∧ Keep h0 h [ad0] ∧ ∃ (x0 : Addr) (ko0 : ClassId), v = none ∧ Exa Z h ad0 cN0 ∧ Fld Z h ad0 cN0 "value" "[B" (.ref x0) ∧ Fld Z h ad0 cN0 "coder" "B" J0 ∧ Arv Z h x0 ko0 .byte (0 : Int32) [J0, J0, J0, J0] J0
theorem own_rm27 {l : Launch} {Z : State} {a0 : Array Value} (hw : own_HW Z a0) (hs : own_HS Z a0) (ad0 ad1 : Addr) (zce : Value) (zck : ClassId) (h0 : Heap) (n0 : Nat) (Z0 : n0 ≤ h0.size) (zad : Exa Z h0 ad0 cN0) (zal : Fld Z h0 ad0 cN0 "value" "[B" .null) (zak : Fld Z h0 ad0 cN0 "coder" "B" zce) (zcf : Arv Z h0 ad1 zck .char (0 : Int32) [] J0) (zas : n0 ≤ ad0) :
    own_MetH l own_y17 jdk_42_method_3_code 2 none [] (oR 2 4 8 29) #[(.ref ad0), (.ref ad1)] Z h0 (own_Q27 Z ad0 h0 n0) := by
  refine own_bodyH (plainFor_of_name own_pn0) (own := "java/lang/String") rfl (L0 := #[rv ad0, rv ad1]) fun p e s m below meth c s₁ hx hby hlk hml hown hnm X0 hZ e0 hh hret H0 hS0 => ?_
  have N0 := Fr.nil n0
  have KR : Keep h0 h0 [ad0] := Keep.refl _ _
  have hk0 : h0.size ≤ h0.size := Nat.le_refl _
  refine xaloadNH X0 hx (hb hby d17_0) rfl rfl rfl ?_
  refine xaloadNH X0 hx (hb hby d17_1) rfl rfl rfl ?_
  refine xiconstH X0 hx (hb hby d17_2) rfl ?_
  refine xaloadNH X0 hx (hb hby d17_3) rfl rfl rfl ?_
  obtain ⟨cl1, Ar1, q1, Sz1, Ng1, Hs1, Gf1⟩ := id zcf
  refine oH (fun _ k => X0.arraylength hx (by rw [e0]; exact Ar1.1) (State.isArrayOf_alike hZ.alike Ar1.2.1) (g := (mkF m 4 #[rv ad0, rv ad1] [(.ref ad1), J0, (.ref ad1), (.ref ad0)])) rfl rfl (hb hby d17_4) _ k) ?_
  rw [len_of Sz1 Ng1]
  show oFH p e below s _ _ _ (s₁.setTop (mkF m 5 #[rv ad0, rv ad1] [J0, J0, (.ref ad1), (.ref ad0)]))
  refine oH (fun _ k => XS.aconstNull X0.here hx rfl (hb hby d17_5) k) ?_
  obtain ⟨_, _, ⟨T2, L2, k2, n2⟩, -, Y2, hT2, hg2, ⟨Lc2, hQ2, l2, y2, z2, hC2⟩, st2⟩ := X0.specialBackS hx (y := own_y16) rfl hown (mvT hZ (w_ hw 15 rfl)) (mvT hZ (w_ hw 16 rfl)) (mvT hZ (w_ hw 18 rfl)) (by decide) (backOfSH (W := 0) (own_rm25 hw hs ad0 ad1 zce zck h0 n0 Z0 zad zal zak zcf zas) hZ (w_ hw 18 rfl) (w_ hw 10 rfl) (by decide) (by decide) (own_ew hw) H0.1) (g := (mkF m 6 #[rv ad0, rv ad1] [.null, J0, J0, (.ref ad1), (.ref ad0)])) rfl (by rw [hml]; rfl) (Steps.refl _) (a := ad0) (argsL := [(.ref ad1), J0, J0, .null]) (rest := []) (lenOf own_pd11 rfl) rfl (by show 2 * 0 + _ ≤ _; exact Nat.le_of_eq rfl) (hb hby d17_6) (fun _ _ => ⟨rfl, e0, (by decide : 0 + 4 ≤ _), (by decide : 0 + 8 ≤ _)⟩)
  dsimp only [Pt.U, Pt.locs, Pt.cells, Pt.slots] at Y2 hT2 hg2 l2 y2 z2 st2 hQ2 hC2
  subst l2 y2 z2
  obtain ⟨X2, hS2, hZ2, hown2⟩ := rebS hS0 (by rw [e0]; exact hk0) Y2 hT2 hg2 hZ hown
  have H2 := H0.trans hC2
  obtain ⟨N2q, K2q, b2_x0, ko0_2, rfl, G3, G4, G5, G6⟩ := hQ2
  have N2 := Fr.app N0 N2q
  have K2 := KR.trans K2q (own_aW 0 rfl own_a0)
  have Z2 := Nat.le_trans Z0 K2q.1
  have hk2 := Nat.le_refl T2.heap.size
  have G7 := (zad.keep K2q)
  have G8 := (zcf.keep K2q (ninS (Ne.symm (Exa.neArv zad zcf (w_ hw 9 rfl))) nin0))
  refine oH (fun _ k => st2.trans k) ?_
  exact own_retH X2 hlk hS2 rfl hk2 hZ2 (own_ew hw) H2 (v := none) (fun _ => rfl) (by decide) (by decide) (by exact ⟨N2, K2, b2_x0, ko0_2, rfl, G3, G4, G5, G6⟩) (fun fs hr => X2.returnOut hx hret (hb hby d17_9) hr)

theorem own_pd12 : parseMethodDescriptor "(II)I" = some ⟨[.int, .int], some .int⟩ := by decide +kernel
theorem own_pd13 : parseMethodDescriptor "([C)V" = some ⟨[(.array .char)], none⟩ := by decide +kernel
theorem own_pd14 : parseMethodDescriptor "(C)Ljava/lang/String;" = some ⟨[.char], some (.object "java/lang/String")⟩ := by decide +kernel
abbrev b18_ : ByteArray := method_2_code
theorem d18_0 : decode b18_ 0 = .ok (.iload_n 0, 1) := by decide +kernel
theorem d18_1 : decode b18_ 1 = .ok (.bipush 16, 2) := by decide +kernel
theorem d18_3 : decode b18_ 3 = .ok (.iushr, 1) := by decide +kernel
theorem d18_4 : decode b18_ 4 = .ok (.iconst 3, 1) := by decide +kernel
theorem d18_5 : decode b18_ 5 = .ok (.iand, 1) := by decide +kernel
theorem d18_6 : decode b18_ 6 = .ok (.iconst 2, 1) := by decide +kernel
theorem d18_7 : decode b18_ 7 = .ok (.invokestatic 7, 3) := by decide +kernel
theorem d18_10 : decode b18_ 10 = .ok (.istore_n 1, 1) := by decide +kernel
theorem d18_11 : decode b18_ 11 = .ok (.iload_n 0, 1) := by decide +kernel
theorem d18_12 : decode b18_ 12 = .ok (.sipush 255, 3) := by decide +kernel
theorem d18_15 : decode b18_ 15 = .ok (.iand, 1) := by decide +kernel
theorem d18_16 : decode b18_ 16 = .ok (.i2c, 1) := by decide +kernel
theorem d18_17 : decode b18_ 17 = .ok (.istore_n 2, 1) := by decide +kernel
theorem d18_18 : decode b18_ 18 = .ok (.iload_n 0, 1) := by decide +kernel
theorem d18_19 : decode b18_ 19 = .ok (.bipush 8, 2) := by decide +kernel
theorem d18_21 : decode b18_ 21 = .ok (.iushr, 1) := by decide +kernel
theorem d18_22 : decode b18_ 22 = .ok (.sipush 255, 3) := by decide +kernel
theorem d18_25 : decode b18_ 25 = .ok (.iand, 1) := by decide +kernel
theorem d18_26 : decode b18_ 26 = .ok (.i2c, 1) := by decide +kernel
theorem d18_27 : decode b18_ 27 = .ok (.istore_n 3, 1) := by decide +kernel
theorem d18_28 : decode b18_ 28 = .ok (.iload_n 1, 1) := by decide +kernel
theorem d18_29 : decode b18_ 29 = .ok (.ifCond .ne 14, 3) := by decide +kernel
theorem d18_32 : decode b18_ 32 = .ok (.new 13, 3) := by decide +kernel
theorem d18_35 : decode b18_ 35 = .ok (.dup, 1) := by decide +kernel
theorem d18_36 : decode b18_ 36 = .ok (.iconst 0, 1) := by decide +kernel
theorem d18_37 : decode b18_ 37 = .ok (.newarray .char, 2) := by decide +kernel
theorem d18_39 : decode b18_ 39 = .ok (.invokespecial 15, 3) := by decide +kernel
theorem d18_42 : decode b18_ 42 = .ok (.areturn, 1) := by decide +kernel
theorem d18_43 : decode b18_ 43 = .ok (.iload_n 1, 1) := by decide +kernel
theorem d18_44 : decode b18_ 44 = .ok (.iconst 1, 1) := by decide +kernel
theorem d18_45 : decode b18_ 45 = .ok (.if_icmp .ne 8, 3) := by decide +kernel
theorem d18_48 : decode b18_ 48 = .ok (.iload_n 2, 1) := by decide +kernel
theorem d18_49 : decode b18_ 49 = .ok (.invokestatic 18, 3) := by decide +kernel
theorem d18_52 : decode b18_ 52 = .ok (.areturn, 1) := by decide +kernel
theorem d18_53 : decode b18_ 53 = .ok (.new 13, 3) := by decide +kernel
theorem d18_56 : decode b18_ 56 = .ok (.dup, 1) := by decide +kernel
theorem d18_57 : decode b18_ 57 = .ok (.iconst 2, 1) := by decide +kernel
theorem d18_58 : decode b18_ 58 = .ok (.newarray .char, 2) := by decide +kernel
theorem d18_60 : decode b18_ 60 = .ok (.dup, 1) := by decide +kernel
theorem d18_61 : decode b18_ 61 = .ok (.iconst 0, 1) := by decide +kernel
theorem d18_62 : decode b18_ 62 = .ok (.iload_n 2, 1) := by decide +kernel
theorem d18_63 : decode b18_ 63 = .ok (.castore, 1) := by decide +kernel
theorem d18_64 : decode b18_ 64 = .ok (.dup, 1) := by decide +kernel
theorem d18_65 : decode b18_ 65 = .ok (.iconst 1, 1) := by decide +kernel
theorem d18_66 : decode b18_ 66 = .ok (.iload_n 3, 1) := by decide +kernel
theorem d18_67 : decode b18_ 67 = .ok (.castore, 1) := by decide +kernel
theorem d18_68 : decode b18_ 68 = .ok (.invokespecial 15, 3) := by decide +kernel
theorem d18_71 : decode b18_ 71 = .ok (.areturn, 1) := by decide +kernel
theorem own_pn4 : plainName "com/example/nearfield/nearfield/JoinedTextClearPinLaw" = true := by first | (simp [plainName, overriddenIn]; done) | decide +kernel
abbrev own_y18 : MethodName := (⟨"com/example/nearfield/nearfield/JoinedTextClearPinLaw", "mk", "(I)Ljava/lang/String;"⟩ : MethodName)
abbrev own_Q28 (Z : State)  (h0 : Heap) (n0 : Nat) (v : Option Value) (h : Heap) (L : List Loc) : Prop := Fr n0 L ∧ Keep h0 h [] ∧ ∃ (x0 x1 : Addr) (ko0 : ClassId) (ln v0 v1 : Int32), v = some (.ref x0) ∧ Exa Z h x0 cN0 ∧ Fld Z h x0 cN0 "coder" "B" J0 ∧ Fld Z h x0 cN0 "value" "[B" (.ref x1) ∧ Arv Z h x1 ko0 .byte ln [(.int v0), (.int v1), J0, J0] J0 ∧ own_L ln
theorem own_rm28 {l : Launch} {Z : State} {a0 : Array Value} (hw : own_HW Z a0) (hs : own_HS Z a0) (p0 zaa : Int32) (h0 : Heap) (n0 : Nat) (Z0 : n0 ≤ h0.size) (zac : Sta Z h0 cN0 "COMPACT_STRINGS" "Z" (.int zaa)) (hc3_49 : ¬ (zaa = (0 : Int32))) :
    own_MetH l own_y18 method_2_code 4 (some (.object cN0)) [] (oR 4 6 12 66) #[(.int p0)] Z h0 (own_Q28 Z  h0 n0) := by
  refine own_bodyH (plainFor_of_name own_pn4) (own := "com/example/nearfield/nearfield/JoinedTextClearPinLaw") rfl (L0 := #[iv p0, .unset, .unset, .unset]) fun p e s m below meth c s₁ hx hby hlk hml hown hnm X0 hZ e0 hh hret H0 hS0 => ?_
  have N0 := Fr.nil n0
  have KR : Keep h0 h0 [] := Keep.refl _ _
  have hk0 : h0.size ≤ h0.size := Nat.le_refl _
  refine xiloadNH X0 hx (hb hby d18_0) rfl rfl ?_
  refine xbipushH X0 hx (hb hby d18_1) rfl ?_
  refine oH (fun _ k => XS.iushr X0.here hx rfl (hb hby d18_3) rfl k) ?_
  refine xiconstH X0 hx (hb hby d18_4) rfl ?_
  refine oH (fun _ k => XS.iand X0.here hx rfl (hb hby d18_5) rfl k) ?_
  refine xiconstH X0 hx (hb hby d18_6) rfl ?_
  refine oCH X0 hx hZ hown hml (w_ hw 4 rfl) (w_ hw 5 rfl) (own_rm1 hw hs ((((p0.toUInt32 >>> ((16 : Int32) &&& 31).toUInt32).toInt32) &&& (3 : Int32))) ((2 : Int32)) h0 n0 Z0 ) (w_ hw 7 rfl) (w_ hw 6 rfl) e0 [(.int (((p0.toUInt32 >>> ((16 : Int32) &&& 31).toUInt32).toInt32) &&& (3 : Int32))), J2] [] 0 (lenOf own_pd12 rfl) rfl (hb hby d18_7) rfl rfl rfl fun T1 L1 v1 X1 hQ1 => ?_
  obtain ⟨rfl, N1q, e1⟩ := hQ1
  have N1 := Fr.app N0 N1q
  refine xistoreNH X1 hx (hb hby d18_10) rfl (l' := #[iv p0, iv (own_r1 (((p0.toUInt32 >>> ((16 : Int32) &&& 31).toUInt32).toInt32) &&& (3 : Int32)) (2 : Int32)), .unset, .unset]) rfl rfl ?_
  refine xiloadNH X1 hx (hb hby d18_11) rfl rfl ?_
  refine oH (fun _ k => XS.sipush X1.here hx rfl (hb hby d18_12) k) ?_
  show oFH p e below s _ _ _ (T1.setTop (mkF m 15 #[iv p0, iv (own_r1 (((p0.toUInt32 >>> ((16 : Int32) &&& 31).toUInt32).toInt32) &&& (3 : Int32)) (2 : Int32)), .unset, .unset] [J255, (.int p0)]))
  refine oH (fun _ k => XS.iand X1.here hx rfl (hb hby d18_15) rfl k) ?_
  refine oH (fun _ k => XS.i2c X1.here hx rfl (hb hby d18_16) rfl k) ?_
  refine xistoreNH X1 hx (hb hby d18_17) rfl (l' := #[iv p0, iv (own_r1 (((p0.toUInt32 >>> ((16 : Int32) &&& 31).toUInt32).toInt32) &&& (3 : Int32)) (2 : Int32)), iv ((p0 &&& (255 : Int32)).toUInt32.toUInt16.toUInt32.toInt32), .unset]) rfl rfl ?_
  refine xiloadNH X1 hx (hb hby d18_18) rfl rfl ?_
  refine xbipushH X1 hx (hb hby d18_19) rfl ?_
  refine oH (fun _ k => XS.iushr X1.here hx rfl (hb hby d18_21) rfl k) ?_
  refine oH (fun _ k => XS.sipush X1.here hx rfl (hb hby d18_22) k) ?_
  refine oH (fun _ k => XS.iand X1.here hx rfl (hb hby d18_25) rfl k) ?_
  refine oH (fun _ k => XS.i2c X1.here hx rfl (hb hby d18_26) rfl k) ?_
  refine xistoreNH X1 hx (hb hby d18_27) rfl (l' := #[iv p0, iv (own_r1 (((p0.toUInt32 >>> ((16 : Int32) &&& 31).toUInt32).toInt32) &&& (3 : Int32)) (2 : Int32)), iv ((p0 &&& (255 : Int32)).toUInt32.toUInt16.toUInt32.toInt32), iv ((((p0.toUInt32 >>> ((8 : Int32) &&& 31).toUInt32).toInt32) &&& (255 : Int32)).toUInt32.toUInt16.toUInt32.toInt32)]) rfl rfl ?_
  refine xiloadNH X1 hx (hb hby d18_28) rfl rfl ?_
  show oFH p e below s _ _ _ (T1.setTop (mkF m 29 #[iv p0, iv (own_r1 (((p0.toUInt32 >>> ((16 : Int32) &&& 31).toUInt32).toInt32) &&& (3 : Int32)) (2 : Int32)), iv ((p0 &&& (255 : Int32)).toUInt32.toUInt16.toUInt32.toInt32), iv ((((p0.toUInt32 >>> ((8 : Int32) &&& 31).toUInt32).toInt32) &&& (255 : Int32)).toUInt32.toUInt16.toUInt32.toInt32)] [(.int (own_r1 (((p0.toUInt32 >>> ((16 : Int32) &&& 31).toUInt32).toInt32) &&& (3 : Int32)) (2 : Int32)))]))
  by_cases hc2 : (own_r1 (((p0.toUInt32 >>> ((16 : Int32) &&& 31).toUInt32).toInt32) &&& (3 : Int32)) (2 : Int32)) = (0 : Int32)
  · refine xifNoH X1 hx (hb hby d18_29) rfl ((if0 _ _).trans (teq hc2).2) rfl ?_
    obtain ⟨T3, h3, X3, e3, E3, A3, D3, -, st3⟩ := newO X1 hx hZ hown (w_ hw 8 rfl) (w_ hw 9 rfl) (w_ hw 10 rfl) e1 (g := (mkF m 32 #[iv p0, iv (own_r1 (((p0.toUInt32 >>> ((16 : Int32) &&& 31).toUInt32).toInt32) &&& (3 : Int32)) (2 : Int32)), iv ((p0 &&& (255 : Int32)).toUInt32.toUInt16.toUInt32.toInt32), iv ((((p0.toUInt32 >>> ((8 : Int32) &&& 31).toUInt32).toInt32) &&& (255 : Int32)).toUInt32.toUInt16.toUInt32.toInt32)] [])) rfl (hb hby d18_32) (by decide) (by decide)
    obtain ⟨b3, g3⟩ : ∃ z, z = h0.size := ⟨_, rfl⟩
    rw [← g3] at A3 D3 st3
    have gg3 : n0 ≤ b3 := Nat.le_trans Z0 (Nat.le_of_eq g3.symm)
    have sz3 : h0.size ≤ b3 := Nat.le_trans KR.1 (Nat.le_of_eq g3.symm)
    have K3 : Keep h0 h3 [] := KR.ext E3
    have Z3 : n0 ≤ h3.size := Nat.le_trans Z0 E3.1
    have hk3 := Nat.le_trans hk0 E3.1
    have H4 := H0.trans (CHr.ext E3 H0.1)
    have G5 := (zac.ext E3)
    have G6 : Fld Z h3 b3 cN0 "value" "[B" .null := D3 (Or.inr (w_ hw 24 rfl)) (ty := (.array .byte)) (by decide)
    have G7 : Fld Z h3 b3 cN0 "coder" "B" J0 := D3 (Or.inr (w_ hw 25 rfl)) (ty := .byte) (by decide)
    refine oH st3 ?_
    refine xdupH X3 hx (hb hby d18_35) rfl rfl rfl ?_
    refine xiconstH X3 hx (hb hby d18_36) rfl ?_
    obtain ⟨T8, h8, k8, X8, e8, E8, A8, st8⟩ := newP X3 hx hZ (w_ hw 11 rfl) e3 (g := (mkF m 37 #[iv p0, iv (own_r1 (((p0.toUInt32 >>> ((16 : Int32) &&& 31).toUInt32).toInt32) &&& (3 : Int32)) (2 : Int32)), iv ((p0 &&& (255 : Int32)).toUInt32.toUInt16.toUInt32.toInt32), iv ((((p0.toUInt32 >>> ((8 : Int32) &&& 31).toUInt32).toInt32) &&& (255 : Int32)).toUInt32.toUInt16.toUInt32.toInt32)] [J0, (.ref b3), (.ref b3)])) rfl (hb hby d18_37) rfl (by decide) (cap := 0) (by decide) (by decide) (by decide) (by decide)
    obtain ⟨b8, g8⟩ : ∃ z, z = h3.size := ⟨_, rfl⟩
    rw [← g8] at A8 st8
    have gg8 : n0 ≤ b8 := Nat.le_trans Z3 (Nat.le_of_eq g8.symm)
    have sz8 : h0.size ≤ b8 := Nat.le_trans K3.1 (Nat.le_of_eq g8.symm)
    have K8 : Keep h0 h8 [] := K3.ext E8
    have Z8 : n0 ≤ h8.size := Nat.le_trans Z3 E8.1
    have hk8 := Nat.le_trans hk3 E8.1
    have H9 := H4.trans (CHr.ext E8 H4.1)
    obtain ⟨G10, G11, G12⟩ := own_e2 E8 A3 G6 G7
    have G13 := (G5.ext E8)
    have G14 : Arv Z h8 b8 k8 .char (0 : Int32) [] J0 := Arv.new A8 (by decide)
    refine oH st8 ?_
    obtain ⟨_, _, ⟨T15, L15, k15, n15⟩, -, Y15, hT15, hg15, ⟨Lc15, hQ15, l15, y15, z15, hC15⟩, st15⟩ := X8.specialBackS hx (y := own_y17) rfl hown (mvT hZ (w_ hw 12 rfl)) (mvT hZ (w_ hw 13 rfl)) (mvT hZ (w_ hw 14 rfl)) (by decide) (backOfSH (W := 1) (own_rm27 hw hs b3 b8 (J0) k8 h8 n0 Z8 G10 G11 G12 G14 gg3) hZ (w_ hw 14 rfl) (w_ hw 10 rfl) (by decide) (by decide) (own_ew hw) H9.1) (g := (mkF m 39 #[iv p0, iv (own_r1 (((p0.toUInt32 >>> ((16 : Int32) &&& 31).toUInt32).toInt32) &&& (3 : Int32)) (2 : Int32)), iv ((p0 &&& (255 : Int32)).toUInt32.toUInt16.toUInt32.toInt32), iv ((((p0.toUInt32 >>> ((8 : Int32) &&& 31).toUInt32).toInt32) &&& (255 : Int32)).toUInt32.toUInt16.toUInt32.toInt32)] [(.ref b8), (.ref b3), (.ref b3)])) rfl (by rw [hml]; rfl) (Steps.refl _) (a := b3) (argsL := [(.ref b8)]) (rest := [(.ref b3)]) (lenOf own_pd13 rfl) rfl (by show 2 * 0 + _ ≤ _; exact Nat.le_of_eq rfl) (hb hby d18_39) (fun _ _ => ⟨rfl, e8, (by decide : 2 + 4 ≤ _), (by decide : 4 + 8 ≤ _)⟩)
    dsimp only [Pt.U, Pt.locs, Pt.cells, Pt.slots] at Y15 hT15 hg15 l15 y15 z15 st15 hQ15 hC15
    subst l15 y15 z15
    obtain ⟨X15, hS15, hZ15, hown15⟩ := rebS hS0 (by rw [e8]; exact hk8) Y15 hT15 hg15 hZ hown
    have H15 := H9.trans hC15
    obtain ⟨N15q, K15q, b15_x0, ko0_15, rfl, G16, G17, G18, G19⟩ := hQ15
    have N15 := Fr.app N1 N15q
    have K15 := K8.trans K15q (own_aB sz3 own_a0)
    have Z15 := Nat.le_trans Z8 K15q.1
    have hk15 := Nat.le_refl T15.heap.size
    have G20 := (G10.keep K15q)
    have G21 := (own_sta_keep G13 K15q (own_nS (own_nst_exa G10) own_n0))
    have G22 := (G14.keep K15q (ninS (Ne.symm (Exa.neArv G10 G14 (w_ hw 9 rfl))) nin0))
    refine oH (fun _ k => st15.trans k) ?_
    exact own_retH X15 hlk hS15 rfl hk15 hZ15 (own_ew hw) H15 (v := some (.ref b3)) (fun h => by rw [hret] at h; cases h) (by decide) (by decide) (by exact ⟨N15, K15, b3, b15_x0, ko0_15, (0 : Int32), (0 : Int32), (0 : Int32), rfl, G16, G18, G17, G19, (Or.inl rfl)⟩) (fun fs hr => retOut X15 hx hret rfl (Or.inr (Or.inr (Or.inr (Or.inr ⟨rfl, rfl, rfl⟩)))) (hb hby d18_42) hr)
  · refine xifYesH X1 hx 29 43 rfl (hb hby d18_29) rfl ((if0 _ _).trans (feq hc2).2) rfl ?_
    refine xiloadNH X1 hx (hb hby d18_43) rfl rfl ?_
    refine xiconstH X1 hx (hb hby d18_44) rfl ?_
    by_cases zds : (own_r1 (((p0.toUInt32 >>> ((16 : Int32) &&& 31).toUInt32).toInt32) &&& (3 : Int32)) (2 : Int32)) = (1 : Int32)
    · refine xicmpNoH X1 hx (hb hby d18_45) rfl (teq zds).2 rfl ?_
      refine xiloadNH X1 hx (hb hby d18_48) rfl rfl ?_
      refine oCH X1 hx hZ hown hml (w_ hw 175 rfl) (w_ hw 176 rfl) (own_rm20 hw hs (((p0 &&& (255 : Int32)).toUInt32.toUInt16.toUInt32.toInt32)) zaa h0 n0 Z0 zac hc3_49 (show ¬ ((255 : Int32) < ((p0 &&& (255 : Int32)).toUInt32.toUInt16.toUInt32.toInt32)) from own_c8 _)) (w_ hw 177 rfl) (w_ hw 10 rfl) e1 [(.int ((p0 &&& (255 : Int32)).toUInt32.toUInt16.toUInt32.toInt32))] [] 0 (lenOf own_pd14 rfl) rfl (hb hby d18_49) rfl rfl rfl fun T24 L24 v24 X24 hQ24 => ?_
      obtain ⟨N24q, K24q, b24_o0, gg24_o0, sz24_o0, b24_o1, gg24_o1, sz24_o1, ko0_24, rfl, G25, G26, G27, G28⟩ := hQ24
      have N24 := Fr.app N1 N24q
      have K24 := KR.trans K24q own_a0
      have Z24 := Nat.le_trans Z0 K24q.1
      have sy24_o0 : h0.size ≤ b24_o0 := Nat.le_trans KR.1 sz24_o0
      have sy24_o1 : h0.size ≤ b24_o1 := Nat.le_trans KR.1 sz24_o1
      have hk24 := Nat.le_trans hk0 K24q.1
      have H29 := H0.trans (CHr.keep K24q sf0 H0.1)
      have G30 := (own_sta_keep0 zac K24q)
      exact own_retH X24 hlk hS0 rfl hk24 hZ (own_ew hw) H29 (v := some (.ref b24_o0)) (fun h => by rw [hret] at h; cases h) (by decide) (by decide) (by exact ⟨N24, K24, b24_o0, b24_o1, ko0_24, (1 : Int32), (nar .byte (((p0 &&& (255 : Int32)).toUInt32.toUInt16.toUInt32.toInt32).toInt8.toInt32)), (0 : Int32), rfl, G25, G27, G26, G28, (Or.inr (Or.inl rfl))⟩) (fun fs hr => retOut X24 hx hret rfl (Or.inr (Or.inr (Or.inr (Or.inr ⟨rfl, rfl, rfl⟩)))) (hb hby d18_52) hr)
    · refine xicmpYesH X1 hx 45 53 rfl (hb hby d18_45) rfl (feq zds).2 rfl ?_
      obtain ⟨T31, h31, X31, e31, E31, A31, D31, -, st31⟩ := newO X1 hx hZ hown (w_ hw 8 rfl) (w_ hw 9 rfl) (w_ hw 10 rfl) e1 (g := (mkF m 53 #[iv p0, iv (own_r1 (((p0.toUInt32 >>> ((16 : Int32) &&& 31).toUInt32).toInt32) &&& (3 : Int32)) (2 : Int32)), iv ((p0 &&& (255 : Int32)).toUInt32.toUInt16.toUInt32.toInt32), iv ((((p0.toUInt32 >>> ((8 : Int32) &&& 31).toUInt32).toInt32) &&& (255 : Int32)).toUInt32.toUInt16.toUInt32.toInt32)] [])) rfl (hb hby d18_53) (by decide) (by decide)
      obtain ⟨b31, g31⟩ : ∃ z, z = h0.size := ⟨_, rfl⟩
      rw [← g31] at A31 D31 st31
      have gg31 : n0 ≤ b31 := Nat.le_trans Z0 (Nat.le_of_eq g31.symm)
      have sz31 : h0.size ≤ b31 := Nat.le_trans KR.1 (Nat.le_of_eq g31.symm)
      have K31 : Keep h0 h31 [] := KR.ext E31
      have Z31 : n0 ≤ h31.size := Nat.le_trans Z0 E31.1
      have hk31 := Nat.le_trans hk0 E31.1
      have H32 := H0.trans (CHr.ext E31 H0.1)
      have G33 := (zac.ext E31)
      have G34 : Fld Z h31 b31 cN0 "value" "[B" .null := D31 (Or.inr (w_ hw 24 rfl)) (ty := (.array .byte)) (by decide)
      have G35 : Fld Z h31 b31 cN0 "coder" "B" J0 := D31 (Or.inr (w_ hw 25 rfl)) (ty := .byte) (by decide)
      refine oH st31 ?_
      refine xdupH X31 hx (hb hby d18_56) rfl rfl rfl ?_
      refine xiconstH X31 hx (hb hby d18_57) rfl ?_
      obtain ⟨T36, h36, k36, X36, e36, E36, A36, st36⟩ := newP X31 hx hZ (w_ hw 11 rfl) e31 (g := (mkF m 58 #[iv p0, iv (own_r1 (((p0.toUInt32 >>> ((16 : Int32) &&& 31).toUInt32).toInt32) &&& (3 : Int32)) (2 : Int32)), iv ((p0 &&& (255 : Int32)).toUInt32.toUInt16.toUInt32.toInt32), iv ((((p0.toUInt32 >>> ((8 : Int32) &&& 31).toUInt32).toInt32) &&& (255 : Int32)).toUInt32.toUInt16.toUInt32.toInt32)] [J2, (.ref b31), (.ref b31)])) rfl (hb hby d18_58) rfl (by decide) (cap := 2) (by decide) (by decide) (by decide) (by decide)
      obtain ⟨b36, g36⟩ : ∃ z, z = h31.size := ⟨_, rfl⟩
      rw [← g36] at A36 st36
      have gg36 : n0 ≤ b36 := Nat.le_trans Z31 (Nat.le_of_eq g36.symm)
      have sz36 : h0.size ≤ b36 := Nat.le_trans K31.1 (Nat.le_of_eq g36.symm)
      have K36 : Keep h0 h36 [] := K31.ext E36
      have Z36 : n0 ≤ h36.size := Nat.le_trans Z31 E36.1
      have hk36 := Nat.le_trans hk31 E36.1
      have H37 := H32.trans (CHr.ext E36 H32.1)
      obtain ⟨G38, G39, G40⟩ := own_e2 E36 A31 G34 G35
      have G41 := (G33.ext E36)
      have G42 : Arv Z h36 b36 k36 .char (2 : Int32) [J0, J0] J0 := (Arv.new A36 (by decide)).pad (pad_rep [] J0 2)
      refine oH st36 ?_
      refine xdupH X36 hx (hb hby d18_60) rfl rfl rfl ?_
      show oFH p e below s _ _ _ (T36.setTop (mkF m 61 #[iv p0, iv (own_r1 (((p0.toUInt32 >>> ((16 : Int32) &&& 31).toUInt32).toInt32) &&& (3 : Int32)) (2 : Int32)), iv ((p0 &&& (255 : Int32)).toUInt32.toUInt16.toUInt32.toInt32), iv ((((p0.toUInt32 >>> ((8 : Int32) &&& 31).toUInt32).toInt32) &&& (255 : Int32)).toUInt32.toUInt16.toUInt32.toInt32)] [(.ref b36), (.ref b36), (.ref b31), (.ref b31)]))
      refine xiconstH X36 hx (hb hby d18_61) rfl ?_
      refine xiloadNH X36 hx (hb hby d18_62) rfl rfl ?_
      obtain ⟨cl43, Ar43, q43, Sz43, Ng43, Hs43, Gf43⟩ := id G42
      have hin43 : ¬ ((0 : Int32) < 0 ∨ cl43.slots.size ≤ ((0 : Int32)).toNatClampNeg) := inb_of Sz43 ⟨by decide, by decide⟩
      obtain ⟨T43, h43, X43, e43, W43, st43⟩ := stC X36 hx hZ e36 Ar43 (j := (0 : Int32)) hin43 (g := (mkF m 63 #[iv p0, iv (own_r1 (((p0.toUInt32 >>> ((16 : Int32) &&& 31).toUInt32).toInt32) &&& (3 : Int32)) (2 : Int32)), iv ((p0 &&& (255 : Int32)).toUInt32.toUInt16.toUInt32.toInt32), iv ((((p0.toUInt32 >>> ((8 : Int32) &&& 31).toUInt32).toInt32) &&& (255 : Int32)).toUInt32.toUInt16.toUInt32.toInt32)] [(.int ((p0 &&& (255 : Int32)).toUInt32.toUInt16.toUInt32.toInt32)), J0, (.ref b36), (.ref b36), (.ref b31), (.ref b31)])) rfl rfl (hb hby d18_63)
      have N43 := Fr.snoc X43 N1 gg36
      have K43 : Keep h0 h43 [] := K36.wr W43 (Or.inr sz36)
      have Z43 : n0 ≤ h43.size := Nat.le_trans Z36 (Keep.of_wr W43).1
      have hk43 := Nat.le_trans hk36 (Keep.of_wr W43).1
      have H44 := H37.trans (CHr.wr W43 (Safe.arv (EL := consts_1) hZ.alike G42 (by decide)) H37.1)
      obtain ⟨G45, G46, G47⟩ := own_o2 W43 (Exa.neArv G38 G42 (w_ hw 9 rfl)) G38 G39 G40
      have G48 := (G41.wr W43)
      have G49 : Arv Z h43 b36 k36 .char (2 : Int32) [(.int (nar .char ((p0 &&& (255 : Int32)).toUInt32.toUInt16.toUInt32.toInt32))), J0] J0 := Arv.set Ar43 q43 Sz43 Ng43 Hs43 Gf43 (fits_nar_char _) W43 0 rfl (Nat.le_of_ble_eq_true rfl)
      refine oH st43 ?_
      refine xdupH X43 hx (hb hby d18_64) rfl rfl rfl ?_
      refine xiconstH X43 hx (hb hby d18_65) rfl ?_
      refine xiloadNH X43 hx (hb hby d18_66) rfl rfl ?_
      obtain ⟨cl50, Ar50, q50, Sz50, Ng50, Hs50, Gf50⟩ := id G49
      have hin50 : ¬ ((1 : Int32) < 0 ∨ cl50.slots.size ≤ ((1 : Int32)).toNatClampNeg) := inb_of Sz50 ⟨by decide, by decide⟩
      obtain ⟨T50, h50, X50, e50, W50, st50⟩ := stC X43 hx hZ e43 Ar50 (j := (1 : Int32)) hin50 (g := (mkF m 67 #[iv p0, iv (own_r1 (((p0.toUInt32 >>> ((16 : Int32) &&& 31).toUInt32).toInt32) &&& (3 : Int32)) (2 : Int32)), iv ((p0 &&& (255 : Int32)).toUInt32.toUInt16.toUInt32.toInt32), iv ((((p0.toUInt32 >>> ((8 : Int32) &&& 31).toUInt32).toInt32) &&& (255 : Int32)).toUInt32.toUInt16.toUInt32.toInt32)] [(.int ((((p0.toUInt32 >>> ((8 : Int32) &&& 31).toUInt32).toInt32) &&& (255 : Int32)).toUInt32.toUInt16.toUInt32.toInt32)), J1, (.ref b36), (.ref b36), (.ref b31), (.ref b31)])) rfl rfl (hb hby d18_67)
      have N50 := Fr.snoc X50 N43 gg36
      have K50 : Keep h0 h50 [] := K43.wr W50 (Or.inr sz36)
      have Z50 : n0 ≤ h50.size := Nat.le_trans Z43 (Keep.of_wr W50).1
      have hk50 := Nat.le_trans hk43 (Keep.of_wr W50).1
      have H51 := H44.trans (CHr.wr W50 (Safe.arv (EL := consts_1) hZ.alike G49 (by decide)) H44.1)
      obtain ⟨G52, G53, G54⟩ := own_o2 W50 (Exa.neArv G45 G49 (w_ hw 9 rfl)) G45 G46 G47
      have G55 := (G48.wr W50)
      have G56 : Arv Z h50 b36 k36 .char (2 : Int32) [(.int (nar .char ((p0 &&& (255 : Int32)).toUInt32.toUInt16.toUInt32.toInt32))), (.int (nar .char ((((p0.toUInt32 >>> ((8 : Int32) &&& 31).toUInt32).toInt32) &&& (255 : Int32)).toUInt32.toUInt16.toUInt32.toInt32)))] J0 := Arv.set Ar50 q50 Sz50 Ng50 Hs50 Gf50 (fits_nar_char _) W50 1 rfl (Nat.le_of_ble_eq_true rfl)
      refine oH st50 ?_
      refine oIH X50 hx hZ hown hml (w_ hw 12 rfl) (w_ hw 13 rfl) (own_rm26 hw hs b31 b36 .null (J0) k36 ((nar .char ((p0 &&& (255 : Int32)).toUInt32.toUInt16.toUInt32.toInt32))) ((nar .char ((((p0.toUInt32 >>> ((8 : Int32) &&& 31).toUInt32).toInt32) &&& (255 : Int32)).toUInt32.toUInt16.toUInt32.toInt32))) zaa h50 n0 Z50 G52 G53 G54 G56 G55 hc3_49 (show ¬ ((255 : Int32) < (nar .char ((p0 &&& (255 : Int32)).toUInt32.toUInt16.toUInt32.toInt32))) from own_c8n _) (show ¬ ((255 : Int32) < (nar .char ((((p0.toUInt32 >>> ((8 : Int32) &&& 31).toUInt32).toInt32) &&& (255 : Int32)).toUInt32.toUInt16.toUInt32.toInt32))) from own_c8n _) gg31) (w_ hw 14 rfl) (w_ hw 10 rfl) e50 [(.ref b36)] [(.ref b31)] 1 (lenOf own_pd13 rfl) rfl (hb hby d18_68) rfl rfl rfl fun T57 L57 v57 X57 hQ57 => ?_
      obtain ⟨N57q, K57q, b57_o0, gg57_o0, sz57_o0, ko0_57, rfl, G58, G59, G60, G61⟩ := hQ57
      have N57 := Fr.app N50 N57q
      have ne57_o0_b36 : b36 ≠ b57_o0 := Nat.ne_of_lt (Nat.lt_of_lt_of_le G56.lt sz57_o0)
      have K57 := K50.trans K57q (own_aB sz31 own_a0)
      have Z57 := Nat.le_trans Z50 K57q.1
      have sy57_o0 : h0.size ≤ b57_o0 := Nat.le_trans K50.1 sz57_o0
      have hk57 := Nat.le_trans hk50 K57q.1
      have H62 := H51.trans (CHr.keep K57q (sfS (own_safe0 hZ.alike G52 G53) sf0) H51.1)
      have G63 := (G52.keep K57q)
      have G64 := (own_sta_keep G55 K57q (own_nS (own_nst_exa G52) own_n0))
      have G65 := (G56.keep K57q (ninS (Ne.symm (Exa.neArv G52 G56 (w_ hw 9 rfl))) nin0))
      show oFH p e below s _ _ _ (T57.setTop (mkF m 71 #[iv p0, iv (own_r1 (((p0.toUInt32 >>> ((16 : Int32) &&& 31).toUInt32).toInt32) &&& (3 : Int32)) (2 : Int32)), iv ((p0 &&& (255 : Int32)).toUInt32.toUInt16.toUInt32.toInt32), iv ((((p0.toUInt32 >>> ((8 : Int32) &&& 31).toUInt32).toInt32) &&& (255 : Int32)).toUInt32.toUInt16.toUInt32.toInt32)] [(.ref b31)]))
      exact own_retH X57 hlk hS0 rfl hk57 hZ (own_ew hw) H62 (v := some (.ref b31)) (fun h => by rw [hret] at h; cases h) (by decide) (by decide) (by exact ⟨N57, K57, b31, b57_o0, ko0_57, (2 : Int32), (nar .byte ((nar .char ((p0 &&& (255 : Int32)).toUInt32.toUInt16.toUInt32.toInt32)).toInt8.toInt32)), (nar .byte ((nar .char ((((p0.toUInt32 >>> ((8 : Int32) &&& 31).toUInt32).toInt32) &&& (255 : Int32)).toUInt32.toUInt16.toUInt32.toInt32)).toInt8.toInt32)), rfl, G58, G59, G60, G61, (Or.inr (Or.inr rfl))⟩) (fun fs hr => retOut X57 hx hret rfl (Or.inr (Or.inr (Or.inr (Or.inr ⟨rfl, rfl, rfl⟩)))) (hb hby d18_71) hr)

theorem sn2 {Z : State} {a0 : Array Value} (hw : ∀ d ∈ tables_1, d.before a0 Z = true) : Jvm.RoadKit.slotOf Z cN3 "joined" "Z" ≠ Jvm.RoadKit.slotOf Z cN3 "piece" "Ljava/lang/String;" := slot_ne (C := cN3) (Or.inl (w_ hw 46 rfl)) (Or.inl (w_ hw 39 rfl)) (by decide) (t := .boolean) (t' := (.object cN0)) (by decide) (by decide)
theorem sn3 {Z : State} {a0 : Array Value} (hw : ∀ d ∈ tables_1, d.before a0 Z = true) : Jvm.RoadKit.slotOf Z cN3 "pieces" "Ljava/lang/StringBuilder;" ≠ Jvm.RoadKit.slotOf Z cN3 "piece" "Ljava/lang/String;" := slot_ne (C := cN3) (Or.inl (w_ hw 62 rfl)) (Or.inl (w_ hw 39 rfl)) (by decide) (t := (.object cN1)) (t' := (.object cN0)) (by decide) (by decide)
abbrev b19_ : ByteArray := prog_12_method_1_code
theorem d19_0 : decode b19_ 0 = .ok (.aload_n 0, 1) := by decide +kernel
theorem d19_1 : decode b19_ 1 = .ok (.invokespecial 1, 3) := by decide +kernel
theorem d19_4 : decode b19_ 4 = .ok (.aload_n 0, 1) := by decide +kernel
theorem d19_5 : decode b19_ 5 = .ok (.ldc 7, 2) := by decide +kernel
theorem d19_7 : decode b19_ 7 = .ok (.putfield 9, 3) := by decide +kernel
theorem d19_10 : decode b19_ 10 = .ok (.return_, 1) := by decide +kernel
theorem own_pn5 : plainName "com/example/nearfield/nearfield/JoinedText" = true := by first | (simp [plainName, overriddenIn]; done) | decide +kernel
abbrev own_y19 : MethodName := (⟨"com/example/nearfield/nearfield/JoinedText", "<init>", "()V"⟩ : MethodName)
abbrev own_Q29 (Z : State) (ad0 : Addr) (zdl zci : Value) (h0 : Heap) (n0 : Nat) (v : Option Value) (h : Heap) (L : List Loc) : Prop := Fr n0 L ∧ Keep h0 h [ad0] ∧ ∃ (x0 : Addr) (x1 : Addr) (ko0 : ClassId), v = none ∧ Exa Z h ad0 cN3 ∧ Fld Z h ad0 cN3 "joined" "Z" zdl ∧ Fld Z h ad0 cN3 "pieces" "Ljava/lang/StringBuilder;" zci ∧ Fld Z h ad0 cN3 "piece" "Ljava/lang/String;" (.ref x0) ∧ Exa Z h x0 cN0 ∧ Fld Z h x0 cN0 "coder" "B" J0 ∧ Fld Z h x0 cN0 "value" "[B" (.ref x1) ∧ Arv Z h x1 ko0 .byte (0 : Int32) [J0, J0, J0, J0] J0
theorem own_rm29 {l : Launch} {Z : State} {a0 : Array Value} (hw : own_HW Z a0) (hs : own_HS Z a0) (ad0 : Addr) (zdn zdl zci : Value) (h0 : Heap) (n0 : Nat) (Z0 : n0 ≤ h0.size) (zad : Exa Z h0 ad0 cN3) (zbq : Fld Z h0 ad0 cN3 "piece" "Ljava/lang/String;" zdn) (zbj : Fld Z h0 ad0 cN3 "joined" "Z" zdl) (zbw : Fld Z h0 ad0 cN3 "pieces" "Ljava/lang/StringBuilder;" zci) (zas : n0 ≤ ad0) :
    own_MetH l own_y19 prog_12_method_1_code 1 none [] (oR 1 2 4 12) #[(.ref ad0)] Z h0 (own_Q29 Z ad0 zdl zci h0 n0) := by
  refine own_bodyH (plainFor_of_name own_pn5) (own := "com/example/nearfield/nearfield/JoinedText") rfl (L0 := #[rv ad0]) fun p e s m below meth c s₁ hx hby hlk hml hown hnm X0 hZ e0 hh hret H0 hS0 => ?_
  have N0 := Fr.nil n0
  have KR : Keep h0 h0 [ad0] := Keep.refl _ _
  have hk0 : h0.size ≤ h0.size := Nat.le_refl _
  refine xaloadNH X0 hx (hb hby d19_0) rfl rfl rfl ?_
  obtain ⟨T1, X1, e1, st1⟩ := initO X0 hx hZ hown (w_ hw 36 rfl) (w_ hw 20 rfl) (w_ hw 21 rfl) e0 (g := (mkF m 1 #[rv ad0] [(.ref ad0)])) rfl (by rw [hml]; rfl) rfl (hb hby d19_1) (by decide) (W := 0) (by show 2 * 0 + _ ≤ _; exact Nat.le_of_eq rfl) (by decide)
  refine oH st1 ?_
  refine xaloadNH X1 hx (hb hby d19_4) rfl rfl rfl ?_
  obtain ⟨a2, T2, h2, kb2, b2, k2, X2, e2, E2, hS2, hk2, hZ2, hown2, Ea2, Fc2, Fv2, Ab2, -, -, C2, -, sf2, st2⟩ := ldcCH X1 hx hZ hown (w_ hw 37 rfl) (own_sa hw) e1 hS0 hk0 (own_ew hw) (List.mem_of_getElem? (i := 0) rfl) H0.1 (vs := []) (z := (0 : Int32)) (by decide) (by decide) (by decide) (g := (mkF m 5 #[rv ad0] [(.ref ad0)])) rfl (hb hby d19_5) (n := 0) (by decide +kernel) (by decide) (by decide) (by decide)
  have H2 := H0.trans C2
  have K2 : Keep h0 h2 [ad0] := KR.ext E2
  have Z2 : n0 ≤ h2.size := Nat.le_trans Z0 E2.1
  obtain ⟨G3, G4, G5, G6⟩ := own_e3 E2 zad zbq zbj zbw
  have Ap2 : Arv Z h2 b2 k2 .byte (0 : Int32) [J0, J0, J0, J0] J0 := Ab2.pad (pad_rep [] J0 4)
  refine oH st2 ?_
  obtain ⟨T7, h7, X7, e7, W7, st7⟩ := putF X2 hx hZ2 hown2 (host := "") (Or.inl (w_ hw 38 rfl)) Via.refl e2 G4 G3 (Or.inl (w_ hw 39 rfl)) (w_ hw 31 rfl) (ty := (.object cN0)) (by decide) rfl rfl (g := (mkF m 7 #[rv ad0] [(.ref a2), (.ref ad0)])) rfl rfl (hb hby d19_7)
  have N7 := Fr.snoc X7 N0 zas
  have K7 : Keep h0 h7 [ad0] := K2.wr W7 (Or.inl (List.mem_of_getElem? (i := 0) rfl))
  have Z7 : n0 ≤ h7.size := Nat.le_trans Z2 (Keep.of_wr W7).1
  have hk7 := Nat.le_trans hk2 (Keep.of_wr W7).1
  have H8 := H2.trans (CHr.wr W7 (Safe.exa (EL := consts_1) hZ2.alike G3 (by decide) (by decide)) H2.1)
  obtain ⟨G9, G10, G11⟩ := own_o2 W7 (Exa.ne Ea2 G3 (by decide)) Ea2 Fc2 Fv2
  have G12 := (G3.wr W7)
  have G13 := (G5.other W7 (Or.inr (sn2 hw)))
  have G14 := (G6.other W7 (Or.inr (sn3 hw)))
  have G15 := (Ap2.other W7 (Ne.symm (Exa.neArv G3 Ap2 (w_ hw 31 rfl))))
  have G16 := G4.same W7
  refine oH st7 ?_
  exact own_retH X7 hlk hS2 e7 hk7 hZ2 (own_ew hw) H8 (v := none) (fun _ => rfl) (by decide) (by decide) (by rw [e7]; exact ⟨N7, K7, a2, b2, k2, rfl, G12, G13, G14, G16, G9, G10, G11, G15⟩) (fun fs hr => X7.returnOut hx hret (hb hby d19_10) hr)

theorem sn4 {Z : State} {a0 : Array Value} (hw : ∀ d ∈ tables_1, d.before a0 Z = true) : Jvm.RoadKit.slotOf Z cN3 "pieces" "Ljava/lang/StringBuilder;" ≠ Jvm.RoadKit.slotOf Z cN3 "joined" "Z" := slot_ne (C := cN3) (Or.inl (w_ hw 62 rfl)) (Or.inl (w_ hw 46 rfl)) (by decide) (t := (.object cN1)) (t' := .boolean) (by decide) (by decide)
theorem sn5 {Z : State} {a0 : Array Value} (hw : ∀ d ∈ tables_1, d.before a0 Z = true) : Jvm.RoadKit.slotOf Z cN3 "piece" "Ljava/lang/String;" ≠ Jvm.RoadKit.slotOf Z cN3 "joined" "Z" := slot_ne (C := cN3) (Or.inl (w_ hw 39 rfl)) (Or.inl (w_ hw 46 rfl)) (by decide) (t := (.object cN0)) (t' := .boolean) (by decide) (by decide)
abbrev b20_ : ByteArray := prog_12_method_5_code
theorem d20_0 : decode b20_ 0 = .ok (.aload_n 0, 1) := by decide +kernel
theorem d20_1 : decode b20_ 1 = .ok (.ldc 7, 2) := by decide +kernel
theorem d20_3 : decode b20_ 3 = .ok (.putfield 9, 3) := by decide +kernel
theorem d20_6 : decode b20_ 6 = .ok (.aload_n 0, 1) := by decide +kernel
theorem d20_7 : decode b20_ 7 = .ok (.iconst 0, 1) := by decide +kernel
theorem d20_8 : decode b20_ 8 = .ok (.putfield 15, 3) := by decide +kernel
theorem d20_11 : decode b20_ 11 = .ok (.return_, 1) := by decide +kernel
abbrev own_y20 : MethodName := (⟨"com/example/nearfield/nearfield/JoinedText", "clear", "()V"⟩ : MethodName)
abbrev own_Q30 (Z : State) (ad0 : Addr) (zci : Value) (h0 : Heap) (n0 : Nat) (v : Option Value) (h : Heap) (L : List Loc) : Prop := Fr n0 L ∧ Keep h0 h [ad0] ∧ ∃ (x0 : Addr) (x1 : Addr) (ko0 : ClassId), v = none ∧ Exa Z h ad0 cN3 ∧ Fld Z h ad0 cN3 "pieces" "Ljava/lang/StringBuilder;" zci ∧ Fld Z h ad0 cN3 "piece" "Ljava/lang/String;" (.ref x0) ∧ Fld Z h ad0 cN3 "joined" "Z" J0 ∧ Exa Z h x0 cN0 ∧ Fld Z h x0 cN0 "coder" "B" J0 ∧ Fld Z h x0 cN0 "value" "[B" (.ref x1) ∧ Arv Z h x1 ko0 .byte (0 : Int32) [J0, J0, J0, J0] J0
theorem own_rm30 {l : Launch} {Z : State} {a0 : Array Value} (hw : own_HW Z a0) (hs : own_HS Z a0) (ad0 : Addr) (zdn zdl zci : Value) (h0 : Heap) (n0 : Nat) (Z0 : n0 ≤ h0.size) (zad : Exa Z h0 ad0 cN3) (zbq : Fld Z h0 ad0 cN3 "piece" "Ljava/lang/String;" zdn) (zbj : Fld Z h0 ad0 cN3 "joined" "Z" zdl) (zbw : Fld Z h0 ad0 cN3 "pieces" "Ljava/lang/StringBuilder;" zci) (zas : n0 ≤ ad0) :
    own_MetH l own_y20 prog_12_method_5_code 1 none [] (oR 0 2 4 0) #[(.ref ad0)] Z h0 (own_Q30 Z ad0 zci h0 n0) := by
  refine own_bodyH (plainFor_of_name own_pn5) (own := "com/example/nearfield/nearfield/JoinedText") rfl (L0 := #[rv ad0]) fun p e s m below meth c s₁ hx hby hlk hml hown hnm X0 hZ e0 hh hret H0 hS0 => ?_
  have N0 := Fr.nil n0
  have KR : Keep h0 h0 [ad0] := Keep.refl _ _
  have hk0 : h0.size ≤ h0.size := Nat.le_refl _
  refine xaloadNH X0 hx (hb hby d20_0) rfl rfl rfl ?_
  obtain ⟨a1, T1, h1, kb1, b1, k1, X1, e1, E1, hS1, hk1, hZ1, hown1, Ea1, Fc1, Fv1, Ab1, -, -, C1, -, sf1, st1⟩ := ldcCH X0 hx hZ hown (w_ hw 37 rfl) (own_sa hw) e0 hS0 hk0 (own_ew hw) (List.mem_of_getElem? (i := 0) rfl) H0.1 (vs := []) (z := (0 : Int32)) (by decide) (by decide) (by decide) (g := (mkF m 1 #[rv ad0] [(.ref ad0)])) rfl (hb hby d20_1) (n := 0) (by decide +kernel) (by decide) (by decide) (by decide)
  have H1 := H0.trans C1
  have K1 : Keep h0 h1 [ad0] := KR.ext E1
  have Z1 : n0 ≤ h1.size := Nat.le_trans Z0 E1.1
  obtain ⟨G2, G3, G4, G5⟩ := own_e3 E1 zad zbq zbj zbw
  have Ap1 : Arv Z h1 b1 k1 .byte (0 : Int32) [J0, J0, J0, J0] J0 := Ab1.pad (pad_rep [] J0 4)
  refine oH st1 ?_
  obtain ⟨T6, h6, X6, e6, W6, st6⟩ := putF X1 hx hZ1 hown1 (host := "") (Or.inl (w_ hw 38 rfl)) Via.refl e1 G3 G2 (Or.inl (w_ hw 39 rfl)) (w_ hw 31 rfl) (ty := (.object cN0)) (by decide) rfl rfl (g := (mkF m 3 #[rv ad0] [(.ref a1), (.ref ad0)])) rfl rfl (hb hby d20_3)
  have N6 := Fr.snoc X6 N0 zas
  have K6 : Keep h0 h6 [ad0] := K1.wr W6 (Or.inl (List.mem_of_getElem? (i := 0) rfl))
  have Z6 : n0 ≤ h6.size := Nat.le_trans Z1 (Keep.of_wr W6).1
  have hk6 := Nat.le_trans hk1 (Keep.of_wr W6).1
  have H7 := H1.trans (CHr.wr W6 (Safe.exa (EL := consts_1) hZ1.alike G2 (by decide) (by decide)) H1.1)
  obtain ⟨G8, G9, G10⟩ := own_o2 W6 (Exa.ne Ea1 G2 (by decide)) Ea1 Fc1 Fv1
  have G11 := (G2.wr W6)
  have G12 := (G4.other W6 (Or.inr (sn2 hw)))
  have G13 := (G5.other W6 (Or.inr (sn3 hw)))
  have G14 := (Ap1.other W6 (Ne.symm (Exa.neArv G2 Ap1 (w_ hw 31 rfl))))
  have G15 := G3.same W6
  refine oH st6 ?_
  refine xaloadNH X6 hx (hb hby d20_6) rfl rfl rfl ?_
  refine xiconstH X6 hx (hb hby d20_7) rfl ?_
  obtain ⟨T16, h16, X16, e16, W16, st16⟩ := putFN X6 hx hZ1 hown1 (w_ hw 45 rfl) Via.refl e6 G12 G11 (Or.inl (w_ hw 46 rfl)) (w_ hw 31 rfl) (ty := .boolean) (v' := J0) (by decide) rfl (rfl) (g := (mkF m 8 #[rv ad0] [J0, (.ref ad0)])) rfl rfl (hb hby d20_8)
  have N16 := Fr.snoc X16 N6 zas
  have K16 : Keep h0 h16 [ad0] := K6.wr W16 (Or.inl (List.mem_of_getElem? (i := 0) rfl))
  have Z16 : n0 ≤ h16.size := Nat.le_trans Z6 (Keep.of_wr W16).1
  have hk16 := Nat.le_trans hk6 (Keep.of_wr W16).1
  have H17 := H7.trans (CHr.wr W16 (Safe.exa (EL := consts_1) hZ1.alike G11 (by decide) (by decide)) H7.1)
  obtain ⟨G18, G19, G20⟩ := own_o2 W16 (Exa.ne G8 G11 (by decide)) G8 G9 G10
  have G21 := (G11.wr W16)
  have G22 := (G13.other W16 (Or.inr (sn4 hw)))
  have G23 := (G14.other W16 (Ne.symm (Exa.neArv G11 G14 (w_ hw 31 rfl))))
  have G24 := (G15.other W16 (Or.inr (sn5 hw)))
  have G25 := G12.same W16
  refine oH st16 ?_
  exact own_retH X16 hlk hS1 e16 hk16 hZ1 (own_ew hw) H17 (v := none) (fun _ => rfl) (by decide) (by decide) (by rw [e16]; exact ⟨N16, K16, a1, b1, k1, rfl, G21, G22, G24, G25, G18, G19, G20, G23⟩) (fun fs hr => X16.returnOut hx hret (hb hby d20_11) hr)

theorem own_min16 {x : Int32} (h : x < (16 : Int32)) : own_r1 (16 : Int32) x = x := if_pos h
theorem sn6 {Z : State} {a0 : Array Value} (hw : ∀ d ∈ tables_1, d.before a0 Z = true) : Jvm.RoadKit.slotOf Z cN2 "coder" "B" ≠ Jvm.RoadKit.slotOf Z cN2 "value" "[B" := slot_ne (C := cN1) (Or.inl (w_ hw 80 rfl)) (Or.inl (w_ hw 78 rfl)) (by decide) (t := .byte) (t' := (.array .byte)) (by decide) (by decide)
theorem sn7 {Z : State} {a0 : Array Value} (hw : ∀ d ∈ tables_1, d.before a0 Z = true) : Jvm.RoadKit.slotOf Z cN2 "count" "I" ≠ Jvm.RoadKit.slotOf Z cN2 "value" "[B" := slot_ne (C := cN1) (Or.inl (w_ hw 97 rfl)) (Or.inl (w_ hw 78 rfl)) (by decide) (t := .int) (t' := (.array .byte)) (by decide) (by decide)
theorem sn8 {Z : State} {a0 : Array Value} (hw : ∀ d ∈ tables_1, d.before a0 Z = true) : Jvm.RoadKit.slotOf Z cN2 "maybeLatin1" "Z" ≠ Jvm.RoadKit.slotOf Z cN2 "value" "[B" := slot_ne (C := cN1) (Or.inl (w_ hw 174 rfl)) (Or.inl (w_ hw 78 rfl)) (by decide) (t := .boolean) (t' := (.array .byte)) (by decide) (by decide)
theorem sn9 {Z : State} {a0 : Array Value} (hw : ∀ d ∈ tables_1, d.before a0 Z = true) : Jvm.RoadKit.slotOf Z cN2 "count" "I" ≠ Jvm.RoadKit.slotOf Z cN2 "coder" "B" := slot_ne (C := cN1) (Or.inl (w_ hw 97 rfl)) (Or.inl (w_ hw 80 rfl)) (by decide) (t := .int) (t' := .byte) (by decide) (by decide)
theorem sn10 {Z : State} {a0 : Array Value} (hw : ∀ d ∈ tables_1, d.before a0 Z = true) : Jvm.RoadKit.slotOf Z cN2 "maybeLatin1" "Z" ≠ Jvm.RoadKit.slotOf Z cN2 "coder" "B" := slot_ne (C := cN1) (Or.inl (w_ hw 174 rfl)) (Or.inl (w_ hw 80 rfl)) (by decide) (t := .boolean) (t' := .byte) (by decide) (by decide)
theorem sn11 {Z : State} {a0 : Array Value} (hw : ∀ d ∈ tables_1, d.before a0 Z = true) : Jvm.RoadKit.slotOf Z cN2 "value" "[B" ≠ Jvm.RoadKit.slotOf Z cN2 "coder" "B" := slot_ne (C := cN1) (Or.inl (w_ hw 78 rfl)) (Or.inl (w_ hw 80 rfl)) (by decide) (t := (.array .byte)) (t' := .byte) (by decide) (by decide)
abbrev b21_ : ByteArray := jdk_68_method_2_code
theorem d21_0 : decode b21_ 0 = .ok (.aload_n 0, 1) := by decide +kernel
theorem d21_1 : decode b21_ 1 = .ok (.invokespecial 3, 3) := by decide +kernel
theorem d21_4 : decode b21_ 4 = .ok (.getstatic 18, 3) := by decide +kernel
theorem d21_7 : decode b21_ 7 = .ok (.ifCond .eq 18, 3) := by decide +kernel
theorem d21_10 : decode b21_ 10 = .ok (.aload_n 0, 1) := by decide +kernel
theorem d21_11 : decode b21_ 11 = .ok (.iload_n 1, 1) := by decide +kernel
theorem d21_12 : decode b21_ 12 = .ok (.newarray .byte, 2) := by decide +kernel
theorem d21_14 : decode b21_ 14 = .ok (.putfield 15, 3) := by decide +kernel
theorem d21_17 : decode b21_ 17 = .ok (.aload_n 0, 1) := by decide +kernel
theorem d21_18 : decode b21_ 18 = .ok (.iconst 0, 1) := by decide +kernel
theorem d21_19 : decode b21_ 19 = .ok (.putfield 22, 3) := by decide +kernel
theorem d21_22 : decode b21_ 22 = .ok (.goto 16, 3) := by decide +kernel
theorem d21_38 : decode b21_ 38 = .ok (.return_, 1) := by decide +kernel
theorem own_pn6 : plainName "java/lang/AbstractStringBuilder" = true := by first | (simp [plainName, overriddenIn]; done) | decide +kernel
abbrev own_y21 : MethodName := (⟨"java/lang/AbstractStringBuilder", "<init>", "(I)V"⟩ : MethodName)
abbrev own_Q31 (Z : State) (ad0 : Addr) (zcx zav : Value) (h0 : Heap) (n0 : Nat) (v : Option Value) (h : Heap) (L : List Loc) : Prop := Fr n0 L ∧ Keep h0 h [ad0] ∧ ∃ o0 : Addr, n0 ≤ o0 ∧ h0.size ≤ o0 ∧ ∃ (ko0 : ClassId), v = none ∧ Exa Z h ad0 cN1 ∧ Fld Z h ad0 cN2 "count" "I" zcx ∧ Fld Z h ad0 cN2 "maybeLatin1" "Z" zav ∧ Fld Z h ad0 cN2 "value" "[B" (.ref o0) ∧ Fld Z h ad0 cN2 "coder" "B" J0 ∧ Arv Z h o0 ko0 .byte (16 : Int32) [J0, J0, J0, J0] J0
theorem own_rm31 {l : Launch} {Z : State} {a0 : Array Value} (hw : own_HW Z a0) (hs : own_HS Z a0) (ad0 : Addr) (zcj zce zcx zav : Value) (zaa : Int32) (h0 : Heap) (n0 : Nat) (Z0 : n0 ≤ h0.size) (zad : Exa Z h0 ad0 cN1) (zal : Fld Z h0 ad0 cN2 "value" "[B" zcj) (zak : Fld Z h0 ad0 cN2 "coder" "B" zce) (zbg : Fld Z h0 ad0 cN2 "count" "I" zcx) (zby : Fld Z h0 ad0 cN2 "maybeLatin1" "Z" zav) (zac : Sta Z h0 cN0 "COMPACT_STRINGS" "Z" (.int zaa)) (hc7 : ¬ (zaa = (0 : Int32))) (zas : n0 ≤ ad0) :
    own_Met l own_y21 jdk_68_method_2_code 2 none [] (oR 1 1 16 12) #[(.ref ad0), J16] Z h0 (own_Q31 Z ad0 zcx zav h0 n0) := by
  refine own_body (plainFor_of_name own_pn6) (own := "java/lang/AbstractStringBuilder") rfl (L0 := #[rv ad0, iv (16 : Int32)]) fun p e s m below meth c s₁ hx hby hlk hml hown hnm X0 hZ e0 hh hret => ?_
  have N0 := Fr.nil n0
  have KR : Keep h0 h0 [ad0] := Keep.refl _ _
  refine xaloadN X0 hx (hb hby d21_0) rfl rfl rfl ?_
  obtain ⟨T1, X1, e1, st1⟩ := initO X0 hx hZ hown (w_ hw 75 rfl) (w_ hw 20 rfl) (w_ hw 21 rfl) e0 (g := (mkF m 1 #[rv ad0, iv (16 : Int32)] [(.ref ad0)])) rfl (by rw [hml]; rfl) rfl (hb hby d21_1) (by decide) (W := 0) (by show 2 * 0 + _ ≤ _; exact Nat.le_of_eq rfl) (by decide)
  refine oS st1 ?_
  obtain ⟨T2, X2, e2, st2⟩ := getS2 X1 hx hZ hown (host := "") (Or.inl (w_ hw 76 rfl)) Via.refl e1 zac (g := (mkF m 4 #[rv ad0, iv (16 : Int32)] [])) rfl (hb hby d21_4)
  refine oS st2 ?_
  refine xifNo X2 hx (hb hby d21_7) rfl ((if0 _ _).trans (feq hc7).1) rfl ?_
  refine xaloadN X2 hx (hb hby d21_10) rfl rfl rfl ?_
  refine xiloadN X2 hx (hb hby d21_11) rfl rfl ?_
  obtain ⟨T3, h3, k3, X3, e3, E3, A3, st3⟩ := newP X2 hx hZ (w_ hw 23 rfl) e2 (g := (mkF m 12 #[rv ad0, iv (16 : Int32)] [J16, (.ref ad0)])) rfl (hb hby d21_12) rfl (by decide) (cap := 16) (by decide) (by decide) (by decide) (by decide)
  obtain ⟨b3, g3⟩ : ∃ z, z = h0.size := ⟨_, rfl⟩
  rw [← g3] at A3 st3
  have gg3 : n0 ≤ b3 := Nat.le_trans Z0 (Nat.le_of_eq g3.symm)
  have sz3 : h0.size ≤ b3 := Nat.le_trans KR.1 (Nat.le_of_eq g3.symm)
  have K3 : Keep h0 h3 [ad0] := KR.ext E3
  have Z3 : n0 ≤ h3.size := Nat.le_trans Z0 E3.1
  obtain ⟨G4, G5, G6, G7, G8⟩ := own_e4 E3 zad zal zak zbg zby
  have G9 := (zac.ext E3)
  have G10 : Arv Z h3 b3 k3 .byte (16 : Int32) [J0, J0, J0, J0] J0 := (Arv.new A3 (by decide)).pad (pad_rep [] J0 4)
  refine oS st3 ?_
  obtain ⟨T11, h11, X11, e11, W11, st11⟩ := putF X3 hx hZ hown (host := "") (Or.inl (w_ hw 77 rfl)) Via.refl e3 G5 G4 (Or.inl (w_ hw 78 rfl)) (w_ hw 64 rfl) (ty := (.array .byte)) (by decide) rfl rfl (g := (mkF m 14 #[rv ad0, iv (16 : Int32)] [(.ref b3), (.ref ad0)])) rfl rfl (hb hby d21_14)
  have N11 := Fr.snoc X11 N0 zas
  have K11 : Keep h0 h11 [ad0] := K3.wr W11 (Or.inl (List.mem_of_getElem? (i := 0) rfl))
  have Z11 : n0 ≤ h11.size := Nat.le_trans Z3 (Keep.of_wr W11).1
  have G12 := (G4.wr W11)
  have G13 := (G6.other W11 (Or.inr (sn6 hw)))
  have G14 := (G7.other W11 (Or.inr (sn7 hw)))
  have G15 := (G8.other W11 (Or.inr (sn8 hw)))
  have G16 := (G9.wr W11)
  have G17 := (G10.other W11 (Ne.symm (Exa.neArv G4 G10 (w_ hw 64 rfl))))
  have G18 := G5.same W11
  refine oS st11 ?_
  show oF p e below s _ _ _ (T11.setTop (mkF m 17 #[rv ad0, iv (16 : Int32)] []))
  refine xaloadN X11 hx (hb hby d21_17) rfl rfl rfl ?_
  refine xiconst X11 hx (hb hby d21_18) rfl ?_
  obtain ⟨T19, h19, X19, e19, W19, st19⟩ := putFN X11 hx hZ hown (w_ hw 79 rfl) Via.refl e11 G13 G12 (Or.inl (w_ hw 80 rfl)) (w_ hw 64 rfl) (ty := .byte) (v' := J0) (by decide) rfl (rfl) (g := (mkF m 19 #[rv ad0, iv (16 : Int32)] [J0, (.ref ad0)])) rfl rfl (hb hby d21_19)
  have N19 := Fr.snoc X19 N11 zas
  have K19 : Keep h0 h19 [ad0] := K11.wr W19 (Or.inl (List.mem_of_getElem? (i := 0) rfl))
  have Z19 : n0 ≤ h19.size := Nat.le_trans Z11 (Keep.of_wr W19).1
  have G20 := (G12.wr W19)
  have G21 := (G14.other W19 (Or.inr (sn9 hw)))
  have G22 := (G15.other W19 (Or.inr (sn10 hw)))
  have G23 := (G16.wr W19)
  have G24 := (G17.other W19 (Ne.symm (Exa.neArv G12 G17 (w_ hw 64 rfl))))
  have G25 := (G18.other W19 (Or.inr (sn11 hw)))
  have G26 := G13.same W19
  refine oS st19 ?_
  refine xgoto X19 hx 22 38 rfl (hb hby d21_22) rfl ?_
  exact oRV X19 hx hlk hret (hb hby d21_38) (by rw [e19]; exact ⟨N19, K19, b3, gg3, sz3, k3, rfl, G20, G21, G22, G25, G26, G24⟩)

theorem own_pd15 : parseMethodDescriptor "(I)V" = some ⟨[.int], none⟩ := by decide +kernel
abbrev b22_ : ByteArray := jdk_67_method_1_code
theorem d22_0 : decode b22_ 0 = .ok (.aload_n 0, 1) := by decide +kernel
theorem d22_1 : decode b22_ 1 = .ok (.bipush 16, 2) := by decide +kernel
theorem d22_3 : decode b22_ 3 = .ok (.invokespecial 1, 3) := by decide +kernel
theorem d22_6 : decode b22_ 6 = .ok (.return_, 1) := by decide +kernel
theorem own_pn7 : plainName "java/lang/StringBuilder" = true := by first | (simp [plainName, overriddenIn]; done) | decide +kernel
abbrev own_y22 : MethodName := (⟨"java/lang/StringBuilder", "<init>", "()V"⟩ : MethodName)
abbrev own_Q32 (Z : State) (ad0 : Addr) (zcx zav : Value) (h0 : Heap) (n0 : Nat) (v : Option Value) (h : Heap) (L : List Loc) : Prop := Fr n0 L ∧ Keep h0 h [ad0] ∧ ∃ o0 : Addr, n0 ≤ o0 ∧ h0.size ≤ o0 ∧ ∃ (ko0 : ClassId), v = none ∧ Exa Z h ad0 cN1 ∧ Fld Z h ad0 cN2 "count" "I" zcx ∧ Fld Z h ad0 cN2 "maybeLatin1" "Z" zav ∧ Fld Z h ad0 cN2 "value" "[B" (.ref o0) ∧ Fld Z h ad0 cN2 "coder" "B" J0 ∧ Arv Z h o0 ko0 .byte (16 : Int32) [J0, J0, J0, J0] J0
theorem own_rm32 {l : Launch} {Z : State} {a0 : Array Value} (hw : own_HW Z a0) (hs : own_HS Z a0) (ad0 : Addr) (zcj zce zcx zav : Value) (zaa : Int32) (h0 : Heap) (n0 : Nat) (Z0 : n0 ≤ h0.size) (zad : Exa Z h0 ad0 cN1) (zal : Fld Z h0 ad0 cN2 "value" "[B" zcj) (zak : Fld Z h0 ad0 cN2 "coder" "B" zce) (zbg : Fld Z h0 ad0 cN2 "count" "I" zcx) (zby : Fld Z h0 ad0 cN2 "maybeLatin1" "Z" zav) (zac : Sta Z h0 cN0 "COMPACT_STRINGS" "Z" (.int zaa)) (hc7_3 : ¬ (zaa = (0 : Int32))) (zas : n0 ≤ ad0) :
    own_Met l own_y22 jdk_67_method_1_code 1 none [] (oR 2 1 16 25) #[(.ref ad0)] Z h0 (own_Q32 Z ad0 zcx zav h0 n0) := by
  refine own_body (plainFor_of_name own_pn7) (own := "java/lang/StringBuilder") rfl (L0 := #[rv ad0]) fun p e s m below meth c s₁ hx hby hlk hml hown hnm X0 hZ e0 hh hret => ?_
  have N0 := Fr.nil n0
  have KR : Keep h0 h0 [ad0] := Keep.refl _ _
  refine xaloadN X0 hx (hb hby d22_0) rfl rfl rfl ?_
  refine xbipush X0 hx (hb hby d22_1) rfl ?_
  refine oI X0 hx hZ hown hml (w_ hw 69 rfl) (w_ hw 70 rfl) (own_rm31 hw hs ad0 zcj zce zcx zav zaa h0 n0 Z0 zad zal zak zbg zby zac hc7_3 zas) (w_ hw 74 rfl) (w_ hw 73 rfl) e0 [J16] [] 0 (lenOf own_pd15 rfl) rfl (hb hby d22_3) rfl rfl rfl fun T1 L1 v1 X1 hQ1 => ?_
  obtain ⟨N1q, K1q, b1_o0, gg1_o0, sz1_o0, ko0_1, rfl, G2, G3, G4, G5, G6, G7⟩ := hQ1
  have N1 := Fr.app N0 N1q
  have K1 := KR.trans K1q (own_aW 0 rfl own_a0)
  have Z1 := Nat.le_trans Z0 K1q.1
  have sy1_o0 : h0.size ≤ b1_o0 := Nat.le_trans KR.1 sz1_o0
  have G8 := (zad.keep K1q)
  have G9 := (own_sta_keep zac K1q (own_nS (own_nst_exa zad) own_n0))
  exact oRV X1 hx hlk hret (hb hby d22_6) ⟨N1, K1, b1_o0, gg1_o0, sy1_o0, ko0_1, rfl, G2, G3, G4, G5, G6, G7⟩

abbrev b23_ : ByteArray := jdk_68_method_9_code
theorem d23_0 : decode b23_ 0 = .ok (.aload_n 0, 1) := by decide +kernel
theorem d23_1 : decode b23_ 1 = .ok (.getfield 15, 3) := by decide +kernel
theorem d23_4 : decode b23_ 4 = .ok (.arraylength, 1) := by decide +kernel
theorem d23_5 : decode b23_ 5 = .ok (.aload_n 0, 1) := by decide +kernel
theorem d23_6 : decode b23_ 6 = .ok (.getfield 22, 3) := by decide +kernel
theorem d23_9 : decode b23_ 9 = .ok (.ishr, 1) := by decide +kernel
theorem d23_10 : decode b23_ 10 = .ok (.istore_n 2, 1) := by decide +kernel
theorem d23_11 : decode b23_ 11 = .ok (.iload_n 1, 1) := by decide +kernel
theorem d23_12 : decode b23_ 12 = .ok (.iload_n 2, 1) := by decide +kernel
theorem d23_13 : decode b23_ 13 = .ok (.isub, 1) := by decide +kernel
theorem d23_14 : decode b23_ 14 = .ok (.ifCond .le 24, 3) := by decide +kernel
theorem d23_38 : decode b23_ 38 = .ok (.return_, 1) := by decide +kernel
abbrev own_y23 : MethodName := (⟨"java/lang/AbstractStringBuilder", "ensureCapacityInternal", "(I)V"⟩ : MethodName)
theorem own_rm33 {l : Launch} {Z : State} {a0 : Array Value} (hw : own_HW Z a0) (hs : own_HS Z a0) (ad0 : Addr) (p1 : Int32) (zae : Addr) (zah : Int32) (zav : Value) (zaj : ClassId) (zao : List Value) (h0 : Heap) (n0 : Nat) (Z0 : n0 ≤ h0.size) (hB0 : own_U Z h0 ad0 zae zaj (.int zah) zav zao) (hc14 : ¬ ((0 : Int32) < (p1 - (16 : Int32)))) :
    own_Met l own_y23 jdk_68_method_9_code 3 none [] (oR 0 0 0 0) #[(.ref ad0), (.int p1)] Z h0 (oQ (none) h0 n0) := by
  refine own_body (plainFor_of_name own_pn6) (own := "java/lang/AbstractStringBuilder") rfl (L0 := #[rv ad0, iv p1, .unset]) fun p e s m below meth c s₁ hx hby hlk hml hown hnm X0 hZ e0 hh hret => ?_
  obtain ⟨zad, zal, zak, zbg, zby, zam⟩ := hB0
  have N0 := Fr.nil n0
  refine xaloadN X0 hx (hb hby d23_0) rfl rfl rfl ?_
  refine oG X0 hx hZ hown (w_ hw 77 rfl) e0 zal (hb hby d23_1) rfl rfl fun T1 X1 e1 => ?_
  obtain ⟨cl2, Ar2, q2, Sz2, Ng2, Hs2, Gf2⟩ := id zam
  refine oS (fun _ k => X1.arraylength hx (by rw [e1]; exact Ar2.1) (State.isArrayOf_alike hZ.alike Ar2.2.1) (g := (mkF m 4 #[rv ad0, iv p1, .unset] [(.ref zae)])) rfl rfl (hb hby d23_4) _ k) ?_
  rw [len_of Sz2 Ng2]
  show oF p e below s _ _ _ (T1.setTop (mkF m 5 #[rv ad0, iv p1, .unset] [J16]))
  refine xaloadN X1 hx (hb hby d23_5) rfl rfl rfl ?_
  refine oG X1 hx hZ hown (w_ hw 79 rfl) e1 zak (hb hby d23_6) rfl rfl fun T3 X3 e3 => ?_
  refine oS (fun _ k => XS.ishr X3.here hx rfl (hb hby d23_9) rfl k) ?_
  show oF p e below s _ _ _ (T3.setTop (mkF m 10 #[rv ad0, iv p1, .unset] [(.int ((16 : Int32) >>> ((0 : Int32) &&& 31)))]))
  rw [show ((16 : Int32) >>> ((0 : Int32) &&& 31)) = (16 : Int32) from by decide]
  show oF p e below s _ _ _ (T3.setTop (mkF m 10 #[rv ad0, iv p1, .unset] [J16]))
  refine xistoreN X3 hx (hb hby d23_10) rfl (l' := #[rv ad0, iv p1, iv (16 : Int32)]) rfl rfl ?_
  refine xiloadN X3 hx (hb hby d23_11) rfl rfl ?_
  refine xiloadN X3 hx (hb hby d23_12) rfl rfl ?_
  refine oS (fun _ k => XS.isub X3.here hx rfl (hb hby d23_13) rfl k) ?_
  refine xifYes X3 hx 14 38 rfl (hb hby d23_14) rfl ((if0 _ _).trans (flt hc14).2.2.2) rfl ?_
  exact oRV X3 hx hlk hret (hb hby d23_38) (by rw [e3]; exact ⟨rfl, N0, rfl⟩)

theorem sn12 {Z : State} {a0 : Array Value} (hw : ∀ d ∈ tables_1, d.before a0 Z = true) : Jvm.RoadKit.slotOf Z cN2 "value" "[B" ≠ Jvm.RoadKit.slotOf Z cN2 "maybeLatin1" "Z" := slot_ne (C := cN1) (Or.inl (w_ hw 78 rfl)) (Or.inl (w_ hw 174 rfl)) (by decide) (t := (.array .byte)) (t' := .boolean) (by decide) (by decide)
theorem sn13 {Z : State} {a0 : Array Value} (hw : ∀ d ∈ tables_1, d.before a0 Z = true) : Jvm.RoadKit.slotOf Z cN2 "coder" "B" ≠ Jvm.RoadKit.slotOf Z cN2 "maybeLatin1" "Z" := slot_ne (C := cN1) (Or.inl (w_ hw 80 rfl)) (Or.inl (w_ hw 174 rfl)) (by decide) (t := .byte) (t' := .boolean) (by decide) (by decide)
theorem sn14 {Z : State} {a0 : Array Value} (hw : ∀ d ∈ tables_1, d.before a0 Z = true) : Jvm.RoadKit.slotOf Z cN2 "count" "I" ≠ Jvm.RoadKit.slotOf Z cN2 "maybeLatin1" "Z" := slot_ne (C := cN1) (Or.inl (w_ hw 97 rfl)) (Or.inl (w_ hw 174 rfl)) (by decide) (t := .int) (t' := .boolean) (by decide) (by decide)
theorem sn15 {Z : State} {a0 : Array Value} (hw : ∀ d ∈ tables_1, d.before a0 Z = true) : Jvm.RoadKit.slotOf Z cN2 "value" "[B" ≠ Jvm.RoadKit.slotOf Z cN2 "count" "I" := slot_ne (C := cN1) (Or.inl (w_ hw 78 rfl)) (Or.inl (w_ hw 97 rfl)) (by decide) (t := (.array .byte)) (t' := .int) (by decide) (by decide)
theorem sn16 {Z : State} {a0 : Array Value} (hw : ∀ d ∈ tables_1, d.before a0 Z = true) : Jvm.RoadKit.slotOf Z cN2 "coder" "B" ≠ Jvm.RoadKit.slotOf Z cN2 "count" "I" := slot_ne (C := cN1) (Or.inl (w_ hw 80 rfl)) (Or.inl (w_ hw 97 rfl)) (by decide) (t := .byte) (t' := .int) (by decide) (by decide)
theorem sn17 {Z : State} {a0 : Array Value} (hw : ∀ d ∈ tables_1, d.before a0 Z = true) : Jvm.RoadKit.slotOf Z cN2 "maybeLatin1" "Z" ≠ Jvm.RoadKit.slotOf Z cN2 "count" "I" := slot_ne (C := cN1) (Or.inl (w_ hw 174 rfl)) (Or.inl (w_ hw 97 rfl)) (by decide) (t := .boolean) (t' := .int) (by decide) (by decide)
abbrev b24_ : ByteArray := jdk_68_method_13_code
theorem d24_0 : decode b24_ 0 = .ok (.iload_n 1, 1) := by decide +kernel
theorem d24_1 : decode b24_ 1 = .ok (.ifCond .ge 12, 3) := by decide +kernel
theorem d24_13 : decode b24_ 13 = .ok (.aload_n 0, 1) := by decide +kernel
theorem d24_14 : decode b24_ 14 = .ok (.iload_n 1, 1) := by decide +kernel
theorem d24_15 : decode b24_ 15 = .ok (.invokevirtual 100, 3) := by decide +kernel
theorem d24_18 : decode b24_ 18 = .ok (.aload_n 0, 1) := by decide +kernel
theorem d24_19 : decode b24_ 19 = .ok (.getfield 79, 3) := by decide +kernel
theorem d24_22 : decode b24_ 22 = .ok (.iload_n 1, 1) := by decide +kernel
theorem d24_23 : decode b24_ 23 = .ok (.if_icmp .ge 40, 3) := by decide +kernel
theorem d24_63 : decode b24_ 63 = .ok (.aload_n 0, 1) := by decide +kernel
theorem d24_64 : decode b24_ 64 = .ok (.getfield 79, 3) := by decide +kernel
theorem d24_67 : decode b24_ 67 = .ok (.iload_n 1, 1) := by decide +kernel
theorem d24_68 : decode b24_ 68 = .ok (.if_icmp .le 8, 3) := by decide +kernel
theorem d24_71 : decode b24_ 71 = .ok (.aload_n 0, 1) := by decide +kernel
theorem d24_72 : decode b24_ 72 = .ok (.iconst 1, 1) := by decide +kernel
theorem d24_73 : decode b24_ 73 = .ok (.putfield 73, 3) := by decide +kernel
theorem d24_76 : decode b24_ 76 = .ok (.aload_n 0, 1) := by decide +kernel
theorem d24_77 : decode b24_ 77 = .ok (.iload_n 1, 1) := by decide +kernel
theorem d24_78 : decode b24_ 78 = .ok (.putfield 79, 3) := by decide +kernel
theorem d24_81 : decode b24_ 81 = .ok (.return_, 1) := by decide +kernel
abbrev own_y24 : MethodName := (⟨"java/lang/AbstractStringBuilder", "setLength", "(I)V"⟩ : MethodName)
abbrev own_Q34 (Z : State) (ad0 zae : Addr) (h0 : Heap) (n0 : Nat) (v : Option Value) (h : Heap) (L : List Loc) : Prop := Fr n0 L ∧ Keep h0 h [ad0] ∧ ∃ (uo0 : Value), v = none ∧ Exa Z h ad0 cN1 ∧ Fld Z h ad0 cN2 "value" "[B" (.ref zae) ∧ Fld Z h ad0 cN2 "coder" "B" J0 ∧ Fld Z h ad0 cN2 "maybeLatin1" "Z" uo0 ∧ Fld Z h ad0 cN2 "count" "I" J0
theorem own_rm34 {l : Launch} {Z : State} {a0 : Array Value} (hw : own_HW Z a0) (hs : own_HS Z a0) (ad0 zae : Addr) (zah : Int32) (zav : Value) (zaj : ClassId) (zao : List Value) (h0 : Heap) (n0 : Nat) (Z0 : n0 ≤ h0.size) (hB0 : own_U Z h0 ad0 zae zaj (.int zah) zav zao) (zds : ¬ (zah < (0 : Int32))) (zas : n0 ≤ ad0) :
    own_Met l own_y24 jdk_68_method_13_code 2 none [] (oR 1 0 0 14) #[(.ref ad0), J0] Z h0 (own_Q34 Z ad0 zae h0 n0) := by
  refine own_body (plainFor_of_name own_pn6) (own := "java/lang/AbstractStringBuilder") rfl (L0 := #[rv ad0, iv (0 : Int32)]) fun p e s m below meth c s₁ hx hby hlk hml hown hnm X0 hZ e0 hh hret => ?_
  obtain ⟨zad, zal, zak, zbg, zby, zam⟩ := hB0
  have N0 := Fr.nil n0
  have KR : Keep h0 h0 [ad0] := Keep.refl _ _
  refine xiloadN X0 hx (hb hby d24_0) rfl rfl ?_
  refine xifYes X0 hx 1 13 rfl (hb hby d24_1) rfl ((if0 _ _).trans (flt (by decide : ¬ ((0 : Int32) < (0 : Int32)))).2.1) rfl ?_
  refine xaloadN X0 hx (hb hby d24_13) rfl rfl rfl ?_
  refine xiloadN X0 hx (hb hby d24_14) rfl rfl ?_
  refine oV X0 hx hZ hown hml (w_ hw 91 rfl) (own_decl (w_ hw 92 rfl) (w_ hw 95 rfl)) (w_ hw 94 rfl) (w_ hw 92 rfl) (own_rm33 hw hs ad0 ((0 : Int32)) zae zah zav zaj zao h0 n0 Z0 ⟨zad, zal, zak, zbg, zby, zam⟩ (show ¬ ((0 : Int32) < ((0 : Int32) - (16 : Int32))) from (by first | decide | assumption | exact Nat.le_of_ble_eq_true rfl))) (w_ hw 95 rfl) (w_ hw 73 rfl) e0 zad [J0] [] 0 (lenOf own_pd15 rfl) rfl (hb hby d24_15) rfl rfl rfl fun T1 L1 v1 X1 hQ1 => ?_
  obtain ⟨rfl, N1q, e1⟩ := hQ1
  have N1 := Fr.app N0 N1q
  refine xaloadN X1 hx (hb hby d24_18) rfl rfl rfl ?_
  refine oG X1 hx hZ hown (w_ hw 96 rfl) e1 zbg (hb hby d24_19) rfl rfl fun T2 X2 e2 => ?_
  refine xiloadN X2 hx (hb hby d24_22) rfl rfl ?_
  refine xicmpYes X2 hx 23 63 rfl (hb hby d24_23) rfl (flt zds).2.1 rfl ?_
  show oF p e below s _ _ _ (T2.setTop (mkF m 63 #[rv ad0, iv (0 : Int32)] []))
  refine xaloadN X2 hx (hb hby d24_63) rfl rfl rfl ?_
  refine oG X2 hx hZ hown (w_ hw 96 rfl) e2 zbg (hb hby d24_64) rfl rfl fun T3 X3 e3 => ?_
  refine xiloadN X3 hx (hb hby d24_67) rfl rfl ?_
  by_cases hc4 : (0 : Int32) < zah
  · refine xicmpNo X3 hx (hb hby d24_68) rfl (tlt hc4).2.2.2 rfl ?_
    refine xaloadN X3 hx (hb hby d24_71) rfl rfl rfl ?_
    refine xiconst X3 hx (hb hby d24_72) rfl ?_
    obtain ⟨T5, h5, X5, e5, W5, st5⟩ := putFN X3 hx hZ hown (w_ hw 173 rfl) Via.refl e3 zby zad (Or.inl (w_ hw 174 rfl)) (w_ hw 64 rfl) (ty := .boolean) (v' := J1) (by decide) rfl (rfl) (g := (mkF m 73 #[rv ad0, iv (0 : Int32)] [J1, (.ref ad0)])) rfl rfl (hb hby d24_73)
    have N5 := Fr.snoc X5 N1 zas
    have K5 : Keep h0 h5 [ad0] := KR.wr W5 (Or.inl (List.mem_of_getElem? (i := 0) rfl))
    have Z5 : n0 ≤ h5.size := Nat.le_trans Z0 (Keep.of_wr W5).1
    have G6 := (zad.wr W5)
    have G7 := (zal.other W5 (Or.inr (sn12 hw)))
    have G8 := (zak.other W5 (Or.inr (sn13 hw)))
    have G9 := (zbg.other W5 (Or.inr (sn14 hw)))
    have G10 := (zam.other W5 (Ne.symm (Exa.neArv zad zam (w_ hw 64 rfl))))
    have G11 := zby.same W5
    refine oS st5 ?_
    refine xaloadN X5 hx (hb hby d24_76) rfl rfl rfl ?_
    refine xiloadN X5 hx (hb hby d24_77) rfl rfl ?_
    show oF p e below s _ _ _ (T5.setTop (mkF m 78 #[rv ad0, iv (0 : Int32)] [J0, (.ref ad0)]))
    obtain ⟨T12, h12, X12, e12, W12, st12⟩ := putF X5 hx hZ hown (host := "") (Or.inl (w_ hw 96 rfl)) Via.refl e5 G9 G6 (Or.inl (w_ hw 97 rfl)) (w_ hw 64 rfl) (ty := .int) (by decide) rfl rfl (g := (mkF m 78 #[rv ad0, iv (0 : Int32)] [J0, (.ref ad0)])) rfl rfl (hb hby d24_78)
    have N12 := Fr.snoc X12 N5 zas
    have K12 : Keep h0 h12 [ad0] := K5.wr W12 (Or.inl (List.mem_of_getElem? (i := 0) rfl))
    have Z12 : n0 ≤ h12.size := Nat.le_trans Z5 (Keep.of_wr W12).1
    have G13 := (G6.wr W12)
    have G14 := (G7.other W12 (Or.inr (sn15 hw)))
    have G15 := (G8.other W12 (Or.inr (sn16 hw)))
    have G16 := (G10.other W12 (Ne.symm (Exa.neArv G6 G10 (w_ hw 64 rfl))))
    have G17 := (G11.other W12 (Or.inr (sn17 hw)))
    have G18 := G9.same W12
    refine oS st12 ?_
    exact oRV X12 hx hlk hret (hb hby d24_81) (by rw [e12]; exact ⟨N12, K12, J1, rfl, G13, G14, G15, G17, G18⟩)
  · refine xicmpYes X3 hx 68 76 rfl (hb hby d24_68) rfl (flt hc4).2.2.2 rfl ?_
    refine xaloadN X3 hx (hb hby d24_76) rfl rfl rfl ?_
    refine xiloadN X3 hx (hb hby d24_77) rfl rfl ?_
    obtain ⟨T19, h19, X19, e19, W19, st19⟩ := putF X3 hx hZ hown (host := "") (Or.inl (w_ hw 96 rfl)) Via.refl e3 zbg zad (Or.inl (w_ hw 97 rfl)) (w_ hw 64 rfl) (ty := .int) (by decide) rfl rfl (g := (mkF m 78 #[rv ad0, iv (0 : Int32)] [J0, (.ref ad0)])) rfl rfl (hb hby d24_78)
    have N19 := Fr.snoc X19 N1 zas
    have K19 : Keep h0 h19 [ad0] := KR.wr W19 (Or.inl (List.mem_of_getElem? (i := 0) rfl))
    have Z19 : n0 ≤ h19.size := Nat.le_trans Z0 (Keep.of_wr W19).1
    have G20 := (zad.wr W19)
    have G21 := (zal.other W19 (Or.inr (sn15 hw)))
    have G22 := (zak.other W19 (Or.inr (sn16 hw)))
    have G23 := (zby.other W19 (Or.inr (sn17 hw)))
    have G24 := (zam.other W19 (Ne.symm (Exa.neArv zad zam (w_ hw 64 rfl))))
    have G25 := zbg.same W19
    refine oS st19 ?_
    exact oRV X19 hx hlk hret (hb hby d24_81) (by rw [e19]; exact ⟨N19, K19, zav, rfl, G20, G21, G22, G23, G25⟩)

abbrev b25_ : ByteArray := jdk_67_method_89_code
theorem d25_0 : decode b25_ 0 = .ok (.aload_n 0, 1) := by decide +kernel
theorem d25_1 : decode b25_ 1 = .ok (.iload_n 1, 1) := by decide +kernel
theorem d25_2 : decode b25_ 2 = .ok (.invokespecial 333, 3) := by decide +kernel
theorem d25_5 : decode b25_ 5 = .ok (.return_, 1) := by decide +kernel
abbrev own_y25 : MethodName := (⟨"java/lang/StringBuilder", "setLength", "(I)V"⟩ : MethodName)
abbrev own_Q35 (Z : State) (ad0 zae : Addr) (h0 : Heap) (n0 : Nat) (v : Option Value) (h : Heap) (L : List Loc) : Prop := Fr n0 L ∧ Keep h0 h [ad0] ∧ ∃ (uo0 : Value), v = none ∧ Exa Z h ad0 cN1 ∧ Fld Z h ad0 cN2 "value" "[B" (.ref zae) ∧ Fld Z h ad0 cN2 "coder" "B" J0 ∧ Fld Z h ad0 cN2 "maybeLatin1" "Z" uo0 ∧ Fld Z h ad0 cN2 "count" "I" J0
theorem own_rm35 {l : Launch} {Z : State} {a0 : Array Value} (hw : own_HW Z a0) (hs : own_HS Z a0) (ad0 zae : Addr) (zah : Int32) (zav : Value) (zaj : ClassId) (zao : List Value) (h0 : Heap) (n0 : Nat) (Z0 : n0 ≤ h0.size) (hB0 : own_U Z h0 ad0 zae zaj (.int zah) zav zao) (hc23_2 : ¬ (zah < (0 : Int32))) (zas : n0 ≤ ad0) :
    own_Met l own_y25 jdk_67_method_89_code 2 none [] (oR 2 0 0 27) #[(.ref ad0), J0] Z h0 (own_Q35 Z ad0 zae h0 n0) := by
  refine own_body (plainFor_of_name own_pn7) (own := "java/lang/StringBuilder") rfl (L0 := #[rv ad0, iv (0 : Int32)]) fun p e s m below meth c s₁ hx hby hlk hml hown hnm X0 hZ e0 hh hret => ?_
  obtain ⟨zad, zal, zak, zbg, zby, zam⟩ := hB0
  have N0 := Fr.nil n0
  have KR : Keep h0 h0 [ad0] := Keep.refl _ _
  refine xaloadN X0 hx (hb hby d25_0) rfl rfl rfl ?_
  refine xiloadN X0 hx (hb hby d25_1) rfl rfl ?_
  refine oU X0 hx hZ hown hml (w_ hw 86 rfl) (w_ hw 87 rfl) (w_ hw 94 rfl) (w_ hw 88 rfl) (own_rm34 hw hs ad0 zae zah zav zaj zao h0 n0 Z0 ⟨zad, zal, zak, zbg, zby, zam⟩ hc23_2 zas) (w_ hw 90 rfl) (w_ hw 73 rfl) e0 zad [J0] [] 0 (lenOf own_pd15 rfl) rfl (hb hby d25_2) rfl rfl rfl fun T1 L1 v1 X1 hQ1 => ?_
  obtain ⟨N1q, K1q, uo0_1, rfl, G2, G3, G4, G5, G6⟩ := hQ1
  have N1 := Fr.app N0 N1q
  have K1 := KR.trans K1q (own_aW 0 rfl own_a0)
  have Z1 := Nat.le_trans Z0 K1q.1
  have G7 := (zad.keep K1q)
  have G8 := (zam.keep K1q (ninS (Ne.symm (Exa.neArv zad zam (w_ hw 64 rfl))) nin0))
  exact oRV X1 hx hlk hret (hb hby d25_5) ⟨N1, K1, uo0_1, rfl, G2, G3, G4, G5, G6⟩

abbrev b26_ : ByteArray := jdk_68_method_71_code
theorem d26_0 : decode b26_ 0 = .ok (.getstatic 18, 3) := by decide +kernel
theorem d26_3 : decode b26_ 3 = .ok (.ifCond .eq 18, 3) := by decide +kernel
theorem d26_6 : decode b26_ 6 = .ok (.aload_n 0, 1) := by decide +kernel
theorem d26_7 : decode b26_ 7 = .ok (.getfield 22, 3) := by decide +kernel
theorem d26_10 : decode b26_ 10 = .ok (.aload_n 1, 1) := by decide +kernel
theorem d26_11 : decode b26_ 11 = .ok (.invokevirtual 40, 3) := by decide +kernel
theorem d26_14 : decode b26_ 14 = .ok (.if_icmp .eq 7, 3) := by decide +kernel
theorem d26_21 : decode b26_ 21 = .ok (.return_, 1) := by decide +kernel
abbrev own_y26 : MethodName := (⟨"java/lang/AbstractStringBuilder", "inflateIfNeededFor", "(Ljava/lang/String;)V"⟩ : MethodName)
theorem own_rm36 {l : Launch} {Z : State} {a0 : Array Value} (hw : own_HW Z a0) (hs : own_HS Z a0) (ad0 ad1 : Addr) (zaa : Int32) (h0 : Heap) (n0 : Nat) (Z0 : n0 ≤ h0.size) (zbe : Exa Z h0 ad1 cN0) (zac : Sta Z h0 cN0 "COMPACT_STRINGS" "Z" (.int zaa)) (hc3 : ¬ (zaa = (0 : Int32))) (zak : Fld Z h0 ad0 cN2 "coder" "B" J0) (zcd : Fld Z h0 ad1 cN0 "coder" "B" J0) :
    own_Met l own_y26 jdk_68_method_71_code 2 none [] (oR 1 0 0 13) #[(.ref ad0), (.ref ad1)] Z h0 (oQ (none) h0 n0) := by
  refine own_body (plainFor_of_name own_pn6) (own := "java/lang/AbstractStringBuilder") rfl (L0 := #[rv ad0, rv ad1]) fun p e s m below meth c s₁ hx hby hlk hml hown hnm X0 hZ e0 hh hret => ?_
  have N0 := Fr.nil n0
  obtain ⟨T1, X1, e1, st1⟩ := getS2 X0 hx hZ hown (host := "") (Or.inl (w_ hw 76 rfl)) Via.refl e0 zac (g := (mkF m 0 #[rv ad0, rv ad1] [])) rfl (hb hby d26_0)
  refine oS st1 ?_
  refine xifNo X1 hx (hb hby d26_3) rfl ((if0 _ _).trans (feq hc3).1) rfl ?_
  refine xaloadN X1 hx (hb hby d26_6) rfl rfl rfl ?_
  refine oG X1 hx hZ hown (w_ hw 79 rfl) e1 zak (hb hby d26_7) rfl rfl fun T2 X2 e2 => ?_
  refine xaloadN X2 hx (hb hby d26_10) rfl rfl rfl ?_
  refine oV X2 hx hZ hown hml (w_ hw 128 rfl) (w_ hw 113 rfl) (w_ hw 115 rfl) (w_ hw 114 rfl) (own_rm2 hw hs ad1 zaa h0 n0 Z0 zac hc3 zcd) (w_ hw 116 rfl) (w_ hw 10 rfl) e2 zbe [] [J0] 1 (lenOf own_pd0 rfl) rfl (hb hby d26_11) rfl rfl rfl fun T3 L3 v3 X3 hQ3 => ?_
  obtain ⟨rfl, N3q, e3⟩ := hQ3
  have N3 := Fr.app N0 N3q
  refine xicmpYes X3 hx 14 21 rfl (hb hby d26_14) rfl (teq (by decide : (0 : Int32) = (0 : Int32))).1 rfl ?_
  exact oRV X3 hx hlk hret (hb hby d26_21) (by rw [e3]; exact ⟨rfl, N3, rfl⟩)

abbrev b27_ : ByteArray := jdk_42_method_147_code
theorem d27_0 : decode b27_ 0 = .ok (.aload_n 0, 1) := by decide +kernel
theorem d27_1 : decode b27_ 1 = .ok (.invokevirtual 335, 3) := by decide +kernel
theorem d27_4 : decode b27_ 4 = .ok (.iload_n 3, 1) := by decide +kernel
theorem d27_5 : decode b27_ 5 = .ok (.if_icmp .ne 23, 3) := by decide +kernel
theorem d27_8 : decode b27_ 8 = .ok (.aload_n 0, 1) := by decide +kernel
theorem d27_9 : decode b27_ 9 = .ok (.getfield 9, 3) := by decide +kernel
theorem d27_12 : decode b27_ 12 = .ok (.iconst 0, 1) := by decide +kernel
theorem d27_13 : decode b27_ 13 = .ok (.aload_n 1, 1) := by decide +kernel
theorem d27_14 : decode b27_ 14 = .ok (.iload_n 2, 1) := by decide +kernel
theorem d27_15 : decode b27_ 15 = .ok (.iload_n 3, 1) := by decide +kernel
theorem d27_16 : decode b27_ 16 = .ok (.ishl, 1) := by decide +kernel
theorem d27_17 : decode b27_ 17 = .ok (.aload_n 0, 1) := by decide +kernel
theorem d27_18 : decode b27_ 18 = .ok (.getfield 9, 3) := by decide +kernel
theorem d27_21 : decode b27_ 21 = .ok (.arraylength, 1) := by decide +kernel
theorem d27_22 : decode b27_ 22 = .ok (.invokestatic 212, 3) := by decide +kernel
theorem d27_25 : decode b27_ 25 = .ok (.goto 18, 3) := by decide +kernel
theorem d27_43 : decode b27_ 43 = .ok (.return_, 1) := by decide +kernel
abbrev own_y27 : MethodName := (⟨"java/lang/String", "getBytes", "([BIB)V"⟩ : MethodName)
abbrev own_Q37 (Z : State) (ad1 : Addr) (p2 : Int32) (zck : ClassId) (zdm zao : List Value) (zai : Int32) (h0 : Heap) (n0 : Nat) (v : Option Value) (h : Heap) (L : List Loc) : Prop := Fr n0 L ∧ Keep h0 h [ad1] ∧ v = none ∧ Arv Z h ad1 zck .byte (16 : Int32) (own_cat zdm zao p2 zai) J0
theorem own_rm37 {l : Launch} {Z : State} {a0 : Array Value} (hw : own_HW Z a0) (hs : own_HS Z a0) (ad0 ad1 : Addr) (p2 : Int32) (zck : ClassId) (zdm : List Value) (zae : Addr) (zaj : ClassId) (zao : List Value) (zai zaa : Int32) (h0 : Heap) (n0 : Nat) (Z0 : n0 ≤ h0.size) (zcf : Arv Z h0 ad1 zck .byte (16 : Int32) zdm J0) (hB1 : own_T Z h0 ad0 zae zaj zai  zao) (zac : Sta Z h0 cN0 "COMPACT_STRINGS" "Z" (.int zaa)) (zda : ¬ (zaa = (0 : Int32))) (g_ad1 : n0 ≤ ad1) (hdp_22 : ¬ (p2 < (0 : Int32))) (hnn_22 : ¬ (zai < (0 : Int32))) (hds_22 : p2.toNatClampNeg + zai.toNatClampNeg ≤ (16 : Int32).toNatClampNeg) (hle_22 : p2.toNatClampNeg + zai.toNatClampNeg ≤ zdm.length) (ne_wvalue_ad0_ad1 : zae ≠ ad1) :
    own_Met l own_y27 jdk_42_method_147_code 4 none [] (oR 1 0 0 18) #[(.ref ad0), (.ref ad1), (.int p2), J0] Z h0 (own_Q37 Z ad1 p2 zck zdm zao zai h0 n0) := by
  refine own_body (plainFor_of_name own_pn0) (own := "java/lang/String") rfl (L0 := #[rv ad0, rv ad1, iv p2, iv (0 : Int32)]) fun p e s m below meth c s₁ hx hby hlk hml hown hnm X0 hZ e0 hh hret => ?_
  obtain ⟨zad, zal, zak, zam⟩ := hB1
  have N0 := Fr.nil n0
  have KR : Keep h0 h0 [ad1] := Keep.refl _ _
  refine xaloadN X0 hx (hb hby d27_0) rfl rfl rfl ?_
  refine oV X0 hx hZ hown hml (w_ hw 112 rfl) (w_ hw 113 rfl) (w_ hw 115 rfl) (w_ hw 114 rfl) (own_rm2 hw hs ad0 zaa h0 n0 Z0 zac zda zak) (w_ hw 116 rfl) (w_ hw 10 rfl) e0 zad [] [] 0 (lenOf own_pd0 rfl) rfl (hb hby d27_1) rfl rfl rfl fun T1 L1 v1 X1 hQ1 => ?_
  obtain ⟨rfl, N1q, e1⟩ := hQ1
  have N1 := Fr.app N0 N1q
  refine xiloadN X1 hx (hb hby d27_4) rfl rfl ?_
  refine xicmpNo X1 hx (hb hby d27_5) rfl (teq (by decide : (0 : Int32) = (0 : Int32))).2 rfl ?_
  refine xaloadN X1 hx (hb hby d27_8) rfl rfl rfl ?_
  refine oG X1 hx hZ hown (w_ hw 28 rfl) e1 zal (hb hby d27_9) rfl rfl fun T2 X2 e2 => ?_
  refine xiconst X2 hx (hb hby d27_12) rfl ?_
  refine xaloadN X2 hx (hb hby d27_13) rfl rfl rfl ?_
  refine xiloadN X2 hx (hb hby d27_14) rfl rfl ?_
  show oF p e below s _ _ _ (T2.setTop (mkF m 15 #[rv ad0, rv ad1, iv p2, iv (0 : Int32)] [(.int p2), (.ref ad1), J0, (.ref zae)]))
  refine xiloadN X2 hx (hb hby d27_15) rfl rfl ?_
  refine oS (fun _ k => XS.ishl X2.here hx rfl (hb hby d27_16) rfl k) ?_
  show oF p e below s _ _ _ (T2.setTop (mkF m 17 #[rv ad0, rv ad1, iv p2, iv (0 : Int32)] [(.int (p2 <<< ((0 : Int32) &&& 31))), (.ref ad1), J0, (.ref zae)]))
  rw [show (p2 <<< ((0 : Int32) &&& 31)) = p2 from own_shl0 _]
  show oF p e below s _ _ _ (T2.setTop (mkF m 17 #[rv ad0, rv ad1, iv p2, iv (0 : Int32)] [(.int p2), (.ref ad1), J0, (.ref zae)]))
  refine xaloadN X2 hx (hb hby d27_17) rfl rfl rfl ?_
  refine oG X2 hx hZ hown (w_ hw 28 rfl) e2 zal (hb hby d27_18) rfl rfl fun T3 X3 e3 => ?_
  obtain ⟨cl4, Ar4, q4, Sz4, Ng4, Hs4, Gf4⟩ := id zam
  refine oS (fun _ k => X3.arraylength hx (by rw [e3]; exact Ar4.1) (State.isArrayOf_alike hZ.alike Ar4.2.1) (g := (mkF m 21 #[rv ad0, rv ad1, iv p2, iv (0 : Int32)] [(.ref zae), (.int p2), (.ref ad1), J0, (.ref zae)])) rfl rfl (hb hby d27_21) _ k) ?_
  rw [len_of Sz4 Ng4]
  show oF p e below s _ _ _ (T3.setTop (mkF m 22 #[rv ad0, rv ad1, iv p2, iv (0 : Int32)] [(.int zai), (.int p2), (.ref ad1), J0, (.ref zae)]))
  obtain ⟨T5, h5, L5, X5, e5, N5, Kc5, A5, st5⟩ := cpA X3 hx hZ hown (w_ hw 134 rfl) (w_ hw 137 rfl) (w_ hw 135 rfl) (w_ hw 136 rfl) e3 zam zcf (Or.inl ⟨rfl, rfl⟩) (by decide) hdp_22 hnn_22 (Nat.le_of_eq (Nat.zero_add _)) hds_22 rfl hle_22 N1 g_ad1 (g := (mkF m 22 #[rv ad0, rv ad1, iv p2, iv (0 : Int32)] [(.int zai), (.int p2), (.ref ad1), J0, (.ref zae)])) rfl (by rw [hml]; rfl) (rest := []) rfl (hb hby d27_22) (by decide) (W := 0) (by show 2 * 0 + _ ≤ _; exact Nat.le_of_eq rfl) (by decide)
  have K5 := KR.trans Kc5 (own_aW 0 rfl own_a0)
  have Z5 := Nat.le_trans Z0 Kc5.1
  obtain ⟨G6, G7, G8⟩ := own_k2 Kc5 (ninS (Exa.neArv zad zcf (w_ hw 9 rfl)) nin0) zad zal zak
  have G9 := (zam.keep Kc5 (ninS ne_wvalue_ad0_ad1 nin0))
  have G10 := (own_sta_keep zac Kc5 (own_nS (own_nst_arv zcf) own_n0))
  have G11 : Arv Z h5 ad1 zck .byte (16 : Int32) (own_cat zdm zao p2 zai) J0 := A5
  refine oS st5 ?_
  refine xgoto X5 hx 25 43 rfl (hb hby d27_25) rfl ?_
  exact oRV X5 hx hlk hret (hb hby d27_43) (by rw [e5]; exact ⟨N5, K5, rfl, G11⟩)

theorem own_pd16 : parseMethodDescriptor "(Ljava/lang/String;)V" = some ⟨[(.object "java/lang/String")], none⟩ := by decide +kernel
theorem own_pd17 : parseMethodDescriptor "([BIB)V" = some ⟨[(.array .byte), .int, .byte], none⟩ := by decide +kernel
abbrev b28_ : ByteArray := jdk_68_method_73_code
theorem d28_0 : decode b28_ 0 = .ok (.aload_n 0, 1) := by decide +kernel
theorem d28_1 : decode b28_ 1 = .ok (.aload_n 2, 1) := by decide +kernel
theorem d28_2 : decode b28_ 2 = .ok (.invokevirtual 397, 3) := by decide +kernel
theorem d28_5 : decode b28_ 5 = .ok (.aload_n 2, 1) := by decide +kernel
theorem d28_6 : decode b28_ 6 = .ok (.aload_n 0, 1) := by decide +kernel
theorem d28_7 : decode b28_ 7 = .ok (.getfield 15, 3) := by decide +kernel
theorem d28_10 : decode b28_ 10 = .ok (.iload_n 1, 1) := by decide +kernel
theorem d28_11 : decode b28_ 11 = .ok (.aload_n 0, 1) := by decide +kernel
theorem d28_12 : decode b28_ 12 = .ok (.getfield 22, 3) := by decide +kernel
theorem d28_15 : decode b28_ 15 = .ok (.invokevirtual 399, 3) := by decide +kernel
theorem d28_18 : decode b28_ 18 = .ok (.return_, 1) := by decide +kernel
abbrev own_y28 : MethodName := (⟨"java/lang/AbstractStringBuilder", "putStringAt", "(ILjava/lang/String;)V"⟩ : MethodName)
abbrev own_Q38 (Z : State) (p1 : Int32) (zae : Addr) (zaj : ClassId) (zao zdo : List Value) (zdc : Int32) (h0 : Heap) (n0 : Nat) (v : Option Value) (h : Heap) (L : List Loc) : Prop := Fr n0 L ∧ Keep h0 h [zae] ∧ v = none ∧ Arv Z h zae zaj .byte (16 : Int32) (own_cat zao zdo p1 zdc) J0
theorem own_rm38 {l : Launch} {Z : State} {a0 : Array Value} (hw : own_HW Z a0) (hs : own_HS Z a0) (ad0 : Addr) (p1 : Int32) (ad2 zae : Addr) (zah : Int32) (zav : Value) (zaj : ClassId) (zao : List Value) (zba : Addr) (zbb : ClassId) (zdo : List Value) (zdc zaa : Int32) (h0 : Heap) (n0 : Nat) (Z0 : n0 ≤ h0.size) (hB0 : own_U Z h0 ad0 zae zaj (.int zah) zav zao) (hB6 : own_T Z h0 ad2 zba zbb zdc  zdo) (zac : Sta Z h0 cN0 "COMPACT_STRINGS" "Z" (.int zaa)) (hc3_2 : ¬ (zaa = (0 : Int32))) (zdb : n0 ≤ zae) (hdp_22_15 : ¬ (p1 < (0 : Int32))) (hnn_22_15 : ¬ (zdc < (0 : Int32))) (hds_22_15 : p1.toNatClampNeg + zdc.toNatClampNeg ≤ (16 : Int32).toNatClampNeg) (hle_22_15 : p1.toNatClampNeg + zdc.toNatClampNeg ≤ zao.length) (ne_wvalue_ad2_wvalue_ad0 : zba ≠ zae) :
    own_Met l own_y28 jdk_68_method_73_code 3 none [] (oR 2 0 0 33) #[(.ref ad0), (.int p1), (.ref ad2)] Z h0 (own_Q38 Z p1 zae zaj zao zdo zdc h0 n0) := by
  refine own_body (plainFor_of_name own_pn6) (own := "java/lang/AbstractStringBuilder") rfl (L0 := #[rv ad0, iv p1, rv ad2]) fun p e s m below meth c s₁ hx hby hlk hml hown hnm X0 hZ e0 hh hret => ?_
  obtain ⟨zad, zal, zak, zbg, zby, zam⟩ := hB0
  obtain ⟨zar, zbl, zbk, zbm⟩ := hB6
  have N0 := Fr.nil n0
  have KR : Keep h0 h0 [zae] := Keep.refl _ _
  refine xaloadN X0 hx (hb hby d28_0) rfl rfl rfl ?_
  refine xaloadN X0 hx (hb hby d28_1) rfl rfl rfl ?_
  refine oV X0 hx hZ hown hml (w_ hw 123 rfl) (own_decl (w_ hw 124 rfl) (w_ hw 127 rfl)) (w_ hw 126 rfl) (w_ hw 124 rfl) (own_rm36 hw hs ad0 ad2 zaa h0 n0 Z0 zar zac hc3_2 zak zbk) (w_ hw 127 rfl) (w_ hw 73 rfl) e0 zad [(.ref ad2)] [] 0 (lenOf own_pd16 rfl) rfl (hb hby d28_2) rfl rfl rfl fun T1 L1 v1 X1 hQ1 => ?_
  obtain ⟨rfl, N1q, e1⟩ := hQ1
  have N1 := Fr.app N0 N1q
  refine xaloadN X1 hx (hb hby d28_5) rfl rfl rfl ?_
  refine xaloadN X1 hx (hb hby d28_6) rfl rfl rfl ?_
  refine oG X1 hx hZ hown (w_ hw 77 rfl) e1 zal (hb hby d28_7) rfl rfl fun T2 X2 e2 => ?_
  refine xiloadN X2 hx (hb hby d28_10) rfl rfl ?_
  refine xaloadN X2 hx (hb hby d28_11) rfl rfl rfl ?_
  refine oG X2 hx hZ hown (w_ hw 79 rfl) e2 zak (hb hby d28_12) rfl rfl fun T3 X3 e3 => ?_
  show oF p e below s _ _ _ (T3.setTop (mkF m 15 #[rv ad0, iv p1, rv ad2] [J0, (.int p1), (.ref zae), (.ref ad2)]))
  refine oV X3 hx hZ hown hml (w_ hw 129 rfl) (w_ hw 130 rfl) (w_ hw 132 rfl) (w_ hw 131 rfl) (own_rm37 hw hs ad2 zae p1 zaj zao zba zbb zdo zdc zaa h0 n0 Z0 zam ⟨zar, zbl, zbk, zbm⟩ zac hc3_2 zdb hdp_22_15 hnn_22_15 hds_22_15 hle_22_15 ne_wvalue_ad2_wvalue_ad0) (w_ hw 133 rfl) (w_ hw 10 rfl) e3 zar [(.ref zae), (.int p1), J0] [] 0 (lenOf own_pd17 rfl) rfl (hb hby d28_15) rfl rfl rfl fun T4 L4 v4 X4 hQ4 => ?_
  obtain ⟨N4q, K4q, rfl, G5⟩ := hQ4
  have N4 := Fr.app N1 N4q
  have K4 := KR.trans K4q (own_aW 0 rfl own_a0)
  have Z4 := Nat.le_trans Z0 K4q.1
  obtain ⟨G6, G7, G8, G9, G10⟩ := own_k4 K4q (ninS (Exa.neArv zad zam (w_ hw 64 rfl)) nin0) zad zal zak zbg zby
  obtain ⟨G11, G12, G13⟩ := own_k2 K4q (ninS (Exa.neArv zar zam (w_ hw 9 rfl)) nin0) zar zbl zbk
  have G14 := (zbm.keep K4q (ninS ne_wvalue_ad2_wvalue_ad0 nin0))
  have G15 := (own_sta_keep zac K4q (own_nS (own_nst_arv zam) own_n0))
  exact oRV X4 hx hlk hret (hb hby d28_18) ⟨N4, K4, rfl, G5⟩

theorem own_pd18 : parseMethodDescriptor "()I" = some ⟨[], some .int⟩ := by decide +kernel
theorem own_pd19 : parseMethodDescriptor "(ILjava/lang/String;)V" = some ⟨[.int, (.object "java/lang/String")], none⟩ := by decide +kernel
abbrev b29_ : ByteArray := jdk_68_method_22_code
theorem d29_0 : decode b29_ 0 = .ok (.aload_n 1, 1) := by decide +kernel
theorem d29_1 : decode b29_ 1 = .ok (.ifnonnull 8, 3) := by decide +kernel
theorem d29_9 : decode b29_ 9 = .ok (.aload_n 1, 1) := by decide +kernel
theorem d29_10 : decode b29_ 10 = .ok (.invokevirtual 32, 3) := by decide +kernel
theorem d29_13 : decode b29_ 13 = .ok (.istore_n 2, 1) := by decide +kernel
theorem d29_14 : decode b29_ 14 = .ok (.aload_n 0, 1) := by decide +kernel
theorem d29_15 : decode b29_ 15 = .ok (.aload_n 0, 1) := by decide +kernel
theorem d29_16 : decode b29_ 16 = .ok (.getfield 79, 3) := by decide +kernel
theorem d29_19 : decode b29_ 19 = .ok (.iload_n 2, 1) := by decide +kernel
theorem d29_20 : decode b29_ 20 = .ok (.iadd, 1) := by decide +kernel
theorem d29_21 : decode b29_ 21 = .ok (.invokevirtual 100, 3) := by decide +kernel
theorem d29_24 : decode b29_ 24 = .ok (.aload_n 0, 1) := by decide +kernel
theorem d29_25 : decode b29_ 25 = .ok (.aload_n 0, 1) := by decide +kernel
theorem d29_26 : decode b29_ 26 = .ok (.getfield 79, 3) := by decide +kernel
theorem d29_29 : decode b29_ 29 = .ok (.aload_n 1, 1) := by decide +kernel
theorem d29_30 : decode b29_ 30 = .ok (.invokevirtual 208, 3) := by decide +kernel
theorem d29_33 : decode b29_ 33 = .ok (.aload_n 0, 1) := by decide +kernel
theorem d29_34 : decode b29_ 34 = .ok (.dup, 1) := by decide +kernel
theorem d29_35 : decode b29_ 35 = .ok (.getfield 79, 3) := by decide +kernel
theorem d29_38 : decode b29_ 38 = .ok (.iload_n 2, 1) := by decide +kernel
theorem d29_39 : decode b29_ 39 = .ok (.iadd, 1) := by decide +kernel
theorem d29_40 : decode b29_ 40 = .ok (.putfield 79, 3) := by decide +kernel
theorem d29_43 : decode b29_ 43 = .ok (.aload_n 0, 1) := by decide +kernel
theorem d29_44 : decode b29_ 44 = .ok (.areturn, 1) := by decide +kernel
abbrev own_y29 : MethodName := (⟨"java/lang/AbstractStringBuilder", "append", "(Ljava/lang/String;)Ljava/lang/AbstractStringBuilder;"⟩ : MethodName)
abbrev own_Q39 (Z : State) (ad0 zae : Addr) (zah : Int32) (zav : Value) (zaj : ClassId) (zao zbf : List Value) (zat : Int32) (h0 : Heap) (n0 : Nat) (v : Option Value) (h : Heap) (L : List Loc) : Prop := Fr n0 L ∧ Keep h0 h [zae, ad0] ∧ v = some (.ref ad0) ∧ Arv Z h zae zaj .byte (16 : Int32) (own_cat zao zbf zah zat) J0 ∧ Exa Z h ad0 cN1 ∧ Fld Z h ad0 cN2 "value" "[B" (.ref zae) ∧ Fld Z h ad0 cN2 "coder" "B" J0 ∧ Fld Z h ad0 cN2 "maybeLatin1" "Z" zav ∧ Fld Z h ad0 cN2 "count" "I" (.int (zah + zat))
theorem own_rm39 {l : Launch} {Z : State} {a0 : Array Value} (hw : own_HW Z a0) (hs : own_HS Z a0) (ad0 ad1 zae : Addr) (zah : Int32) (zav : Value) (zaj : ClassId) (zao : List Value) (zbc : Addr) (zcb : ClassId) (zbf : List Value) (zat zaa : Int32) (h0 : Heap) (n0 : Nat) (Z0 : n0 ≤ h0.size) (hB0 : own_U Z h0 ad0 zae zaj (.int zah) zav zao) (hB6 : own_T Z h0 ad1 zbc zcb zat  zbf) (zac : Sta Z h0 cN0 "COMPACT_STRINGS" "Z" (.int zaa)) (hc3_6_10 : ¬ (zaa = (0 : Int32))) (hc14_21 : ¬ ((0 : Int32) < ((zah + zat) - (16 : Int32)))) (zdb : n0 ≤ zae) (hdp_22_15_30 : ¬ (zah < (0 : Int32))) (hnn_22_15_30 : ¬ (zat < (0 : Int32))) (hds_22_15_30 : zah.toNatClampNeg + zat.toNatClampNeg ≤ (16 : Int32).toNatClampNeg) (hle_22_15_30 : zah.toNatClampNeg + zat.toNatClampNeg ≤ zao.length) (zdp : zbc ≠ zae) (zas : n0 ≤ ad0) :
    own_Met l own_y29 jdk_68_method_22_code 3 (some (.object cN2)) [] (oR 3 0 0 47) #[(.ref ad0), (.ref ad1)] Z h0 (own_Q39 Z ad0 zae zah zav zaj zao zbf zat h0 n0) := by
  refine own_body (plainFor_of_name own_pn6) (own := "java/lang/AbstractStringBuilder") rfl (L0 := #[rv ad0, rv ad1, .unset]) fun p e s m below meth c s₁ hx hby hlk hml hown hnm X0 hZ e0 hh hret => ?_
  obtain ⟨zad, zal, zak, zbg, zby, zam⟩ := hB0
  obtain ⟨zbe, zcg, zcd, zbx⟩ := hB6
  have N0 := Fr.nil n0
  have KR : Keep h0 h0 [zae, ad0] := Keep.refl _ _
  refine xaloadN X0 hx (hb hby d29_0) rfl rfl rfl ?_
  refine oS (fun _ k => XS.ifnonnullYes X0.here hx rfl (pc0 := 1) (pc' := 9) rfl (hb hby d29_1) rfl (by decide) (by decide) k) ?_
  refine xaloadN X0 hx (hb hby d29_9) rfl rfl rfl ?_
  refine oV X0 hx hZ hown hml (w_ hw 107 rfl) (w_ hw 108 rfl) (w_ hw 110 rfl) (w_ hw 109 rfl) (own_rm4 hw hs ad1 zbc zcb zbf zat zaa h0 n0 Z0 ⟨zbe, zcg, zcd, zbx⟩ zac hc3_6_10) (w_ hw 111 rfl) (w_ hw 10 rfl) e0 zbe [] [] 0 (lenOf own_pd18 rfl) rfl (hb hby d29_10) rfl rfl rfl fun T1 L1 v1 X1 hQ1 => ?_
  obtain ⟨rfl, N1q, e1⟩ := hQ1
  have N1 := Fr.app N0 N1q
  refine xistoreN X1 hx (hb hby d29_13) rfl (l' := #[rv ad0, rv ad1, iv zat]) rfl rfl ?_
  refine xaloadN X1 hx (hb hby d29_14) rfl rfl rfl ?_
  refine xaloadN X1 hx (hb hby d29_15) rfl rfl rfl ?_
  refine oG X1 hx hZ hown (w_ hw 96 rfl) e1 zbg (hb hby d29_16) rfl rfl fun T2 X2 e2 => ?_
  refine xiloadN X2 hx (hb hby d29_19) rfl rfl ?_
  show oF p e below s _ _ _ (T2.setTop (mkF m 20 #[rv ad0, rv ad1, iv zat] [(.int zat), (.int zah), (.ref ad0)]))
  refine xiadd X2 hx (hb hby d29_20) rfl rfl ?_
  refine oV X2 hx hZ hown hml (w_ hw 91 rfl) (own_decl (w_ hw 92 rfl) (w_ hw 95 rfl)) (w_ hw 94 rfl) (w_ hw 92 rfl) (own_rm33 hw hs ad0 ((zah + zat)) zae zah zav zaj zao h0 n0 Z0 ⟨zad, zal, zak, zbg, zby, zam⟩ hc14_21) (w_ hw 95 rfl) (w_ hw 73 rfl) e2 zad [(.int (zah + zat))] [] 0 (lenOf own_pd15 rfl) rfl (hb hby d29_21) rfl rfl rfl fun T3 L3 v3 X3 hQ3 => ?_
  obtain ⟨rfl, N3q, e3⟩ := hQ3
  have N3 := Fr.app N1 N3q
  refine xaloadN X3 hx (hb hby d29_24) rfl rfl rfl ?_
  refine xaloadN X3 hx (hb hby d29_25) rfl rfl rfl ?_
  refine oG X3 hx hZ hown (w_ hw 96 rfl) e3 zbg (hb hby d29_26) rfl rfl fun T4 X4 e4 => ?_
  refine xaloadN X4 hx (hb hby d29_29) rfl rfl rfl ?_
  refine oV X4 hx hZ hown hml (w_ hw 118 rfl) (own_decl (w_ hw 119 rfl) (w_ hw 122 rfl)) (w_ hw 121 rfl) (w_ hw 119 rfl) (own_rm38 hw hs ad0 zah ad1 zae zah zav zaj zao zbc zcb zbf zat zaa h0 n0 Z0 ⟨zad, zal, zak, zbg, zby, zam⟩ ⟨zbe, zcg, zcd, zbx⟩ zac hc3_6_10 zdb hdp_22_15_30 hnn_22_15_30 hds_22_15_30 hle_22_15_30 zdp) (w_ hw 122 rfl) (w_ hw 73 rfl) e4 zad [(.int zah), (.ref ad1)] [] 0 (lenOf own_pd19 rfl) rfl (hb hby d29_30) rfl rfl rfl fun T5 L5 v5 X5 hQ5 => ?_
  obtain ⟨N5q, K5q, rfl, G6⟩ := hQ5
  have N5 := Fr.app N3 N5q
  have K5 := KR.trans K5q (own_aW 0 rfl own_a0)
  have Z5 := Nat.le_trans Z0 K5q.1
  obtain ⟨G7, G8, G9, G10, G11⟩ := own_k4 K5q (ninS (Exa.neArv zad zam (w_ hw 64 rfl)) nin0) zad zal zak zbg zby
  obtain ⟨G12, G13, G14⟩ := own_k2 K5q (ninS (Exa.neArv zbe zam (w_ hw 9 rfl)) nin0) zbe zcg zcd
  have G15 := (zbx.keep K5q (ninS zdp nin0))
  have G16 := (own_sta_keep zac K5q (own_nS (own_nst_arv zam) own_n0))
  refine xaloadN X5 hx (hb hby d29_33) rfl rfl rfl ?_
  show oF p e below s _ _ _ (T5.setTop (mkF m 34 #[rv ad0, rv ad1, iv zat] [(.ref ad0)]))
  refine xdup X5 hx (hb hby d29_34) rfl rfl rfl ?_
  refine oG X5 hx hZ hown (w_ hw 96 rfl) rfl G10 (hb hby d29_35) rfl rfl fun T17 X17 e17 => ?_
  refine xiloadN X17 hx (hb hby d29_38) rfl rfl ?_
  refine xiadd X17 hx (hb hby d29_39) rfl rfl ?_
  obtain ⟨T18, h18, X18, e18, W18, st18⟩ := putF X17 hx hZ hown (host := "") (Or.inl (w_ hw 96 rfl)) Via.refl e17 G10 G7 (Or.inl (w_ hw 97 rfl)) (w_ hw 64 rfl) (ty := .int) (by decide) rfl rfl (g := (mkF m 40 #[rv ad0, rv ad1, iv zat] [(.int (zah + zat)), (.ref ad0)])) rfl rfl (hb hby d29_40)
  have N18 := Fr.snoc X18 N5 zas
  have K18 : Keep h0 h18 [zae, ad0] := K5.wr W18 (Or.inl (List.mem_of_getElem? (i := 1) rfl))
  have Z18 : n0 ≤ h18.size := Nat.le_trans Z5 (Keep.of_wr W18).1
  obtain ⟨G19, G20, G21⟩ := own_o2 W18 (Exa.ne G12 G7 (by decide)) G12 G13 G14
  have G22 := (G7.wr W18)
  have G23 := (G8.other W18 (Or.inr (sn15 hw)))
  have G24 := (G9.other W18 (Or.inr (sn16 hw)))
  have G25 := (G11.other W18 (Or.inr (sn17 hw)))
  have G26 := (G15.other W18 (Ne.symm (Exa.neArv G7 G15 (w_ hw 64 rfl))))
  have G27 := (G16.wr W18)
  have G28 := (G6.other W18 (Ne.symm (Exa.neArv G7 G6 (w_ hw 64 rfl))))
  have G29 := G10.same W18
  refine oS st18 ?_
  refine xaloadN X18 hx (hb hby d29_43) rfl rfl rfl ?_
  exact oRA X18 hx hlk hret rfl rfl rfl (hb hby d29_44) (by rw [e18]; exact ⟨N18, K18, rfl, G28, G22, G23, G24, G25, G29⟩)

theorem own_pd20 : parseMethodDescriptor "(Ljava/lang/String;)Ljava/lang/AbstractStringBuilder;" = some ⟨[(.object "java/lang/String")], some (.object "java/lang/AbstractStringBuilder")⟩ := by decide +kernel
abbrev b30_ : ByteArray := jdk_67_method_7_code
theorem d30_0 : decode b30_ 0 = .ok (.aload_n 0, 1) := by decide +kernel
theorem d30_1 : decode b30_ 1 = .ok (.aload_n 1, 1) := by decide +kernel
theorem d30_2 : decode b30_ 2 = .ok (.invokespecial 29, 3) := by decide +kernel
theorem d30_5 : decode b30_ 5 = .ok (.pop, 1) := by decide +kernel
theorem d30_6 : decode b30_ 6 = .ok (.aload_n 0, 1) := by decide +kernel
theorem d30_7 : decode b30_ 7 = .ok (.areturn, 1) := by decide +kernel
abbrev own_y30 : MethodName := (⟨"java/lang/StringBuilder", "append", "(Ljava/lang/String;)Ljava/lang/StringBuilder;"⟩ : MethodName)
abbrev own_Q40 (Z : State) (ad0 zae : Addr) (zah : Int32) (zav : Value) (zaj : ClassId) (zao zbf : List Value) (zat : Int32) (h0 : Heap) (n0 : Nat) (v : Option Value) (h : Heap) (L : List Loc) : Prop := Fr n0 L ∧ Keep h0 h [ad0, zae] ∧ v = some (.ref ad0) ∧ Exa Z h ad0 cN1 ∧ Fld Z h ad0 cN2 "value" "[B" (.ref zae) ∧ Fld Z h ad0 cN2 "coder" "B" J0 ∧ Fld Z h ad0 cN2 "maybeLatin1" "Z" zav ∧ Fld Z h ad0 cN2 "count" "I" (.int (zah + zat)) ∧ Arv Z h zae zaj .byte (16 : Int32) (own_cat zao zbf zah zat) J0
theorem own_rm40 {l : Launch} {Z : State} {a0 : Array Value} (hw : own_HW Z a0) (hs : own_HS Z a0) (ad0 ad1 zae : Addr) (zah : Int32) (zav : Value) (zaj : ClassId) (zao : List Value) (zbc : Addr) (zcb : ClassId) (zbf : List Value) (zat zaa : Int32) (h0 : Heap) (n0 : Nat) (Z0 : n0 ≤ h0.size) (hB0 : own_U Z h0 ad0 zae zaj (.int zah) zav zao) (hB6 : own_T Z h0 ad1 zbc zcb zat  zbf) (zac : Sta Z h0 cN0 "COMPACT_STRINGS" "Z" (.int zaa)) (hc3_6_10_2 : ¬ (zaa = (0 : Int32))) (hc14_21_2 : ¬ ((0 : Int32) < ((zah + zat) - (16 : Int32)))) (zdb : n0 ≤ zae) (hdp_22_15_30_2 : ¬ (zah < (0 : Int32))) (hnn_22_15_30_2 : ¬ (zat < (0 : Int32))) (hds_22_15_30_2 : zah.toNatClampNeg + zat.toNatClampNeg ≤ (16 : Int32).toNatClampNeg) (hle_22_15_30_2 : zah.toNatClampNeg + zat.toNatClampNeg ≤ zao.length) (zdp : zbc ≠ zae) (zas : n0 ≤ ad0) :
    own_Met l own_y30 jdk_67_method_7_code 2 (some (.object cN1)) [] (oR 4 0 0 61) #[(.ref ad0), (.ref ad1)] Z h0 (own_Q40 Z ad0 zae zah zav zaj zao zbf zat h0 n0) := by
  refine own_body (plainFor_of_name own_pn7) (own := "java/lang/StringBuilder") rfl (L0 := #[rv ad0, rv ad1]) fun p e s m below meth c s₁ hx hby hlk hml hown hnm X0 hZ e0 hh hret => ?_
  obtain ⟨zad, zal, zak, zbg, zby, zam⟩ := hB0
  obtain ⟨zbe, zcg, zcd, zbx⟩ := hB6
  have N0 := Fr.nil n0
  have KR : Keep h0 h0 [ad0, zae] := Keep.refl _ _
  refine xaloadN X0 hx (hb hby d30_0) rfl rfl rfl ?_
  refine xaloadN X0 hx (hb hby d30_1) rfl rfl rfl ?_
  refine oU X0 hx hZ hown hml (w_ hw 103 rfl) (w_ hw 104 rfl) (w_ hw 94 rfl) (w_ hw 88 rfl) (own_rm39 hw hs ad0 ad1 zae zah zav zaj zao zbc zcb zbf zat zaa h0 n0 Z0 ⟨zad, zal, zak, zbg, zby, zam⟩ ⟨zbe, zcg, zcd, zbx⟩ zac hc3_6_10_2 hc14_21_2 zdb hdp_22_15_30_2 hnn_22_15_30_2 hds_22_15_30_2 hle_22_15_30_2 zdp zas) (w_ hw 106 rfl) (w_ hw 73 rfl) e0 zad [(.ref ad1)] [] 0 (lenOf own_pd20 rfl) rfl (hb hby d30_2) rfl rfl rfl fun T1 L1 v1 X1 hQ1 => ?_
  obtain ⟨N1q, K1q, rfl, G2, G3, G4, G5, G6, G7⟩ := hQ1
  have N1 := Fr.app N0 N1q
  have K1 := KR.trans K1q (own_aW 1 rfl (own_aW 0 rfl own_a0))
  have Z1 := Nat.le_trans Z0 K1q.1
  obtain ⟨G8, G9, G10⟩ := own_k2 K1q (ninS (Exa.neArv zbe zam (w_ hw 9 rfl)) (ninS (Exa.ne zbe zad (by decide)) nin0)) zbe zcg zcd
  have G11 := (zad.keep K1q)
  have G12 := (zbx.keep K1q (ninS zdp (ninS (Ne.symm (Exa.neArv zad zbx (w_ hw 64 rfl))) nin0)))
  have G13 := (own_sta_keep zac K1q (own_nS (own_nst_arv zam) (own_nS (own_nst_exa zad) own_n0)))
  refine oS (fun _ k => XS.pop X1.here hx rfl (hb hby d30_5) rfl rfl k) ?_
  refine xaloadN X1 hx (hb hby d30_6) rfl rfl rfl ?_
  exact oRA X1 hx hlk hret rfl rfl rfl (hb hby d30_7) ⟨N1, K1, rfl, G3, G4, G5, G6, G7, G2⟩

abbrev b31_ : ByteArray := jdk_68_method_68_code
theorem d31_0 : decode b31_ 0 = .ok (.getstatic 18, 3) := by decide +kernel
theorem d31_3 : decode b31_ 3 = .ok (.ifCond .eq 14, 3) := by decide +kernel
theorem d31_6 : decode b31_ 6 = .ok (.aload_n 0, 1) := by decide +kernel
theorem d31_7 : decode b31_ 7 = .ok (.getfield 22, 3) := by decide +kernel
theorem d31_10 : decode b31_ 10 = .ok (.ifCond .ne 7, 3) := by decide +kernel
theorem d31_13 : decode b31_ 13 = .ok (.iconst 1, 1) := by decide +kernel
theorem d31_14 : decode b31_ 14 = .ok (.goto 4, 3) := by decide +kernel
theorem d31_18 : decode b31_ 18 = .ok (.ireturn, 1) := by decide +kernel
abbrev own_y31 : MethodName := (⟨"java/lang/AbstractStringBuilder", "isLatin1", "()Z"⟩ : MethodName)
theorem own_rm41 {l : Launch} {Z : State} {a0 : Array Value} (hw : own_HW Z a0) (hs : own_HS Z a0) (ad0 : Addr) (zaa : Int32) (h0 : Heap) (n0 : Nat) (Z0 : n0 ≤ h0.size) (zac : Sta Z h0 cN0 "COMPACT_STRINGS" "Z" (.int zaa)) (hc3 : ¬ (zaa = (0 : Int32))) (zak : Fld Z h0 ad0 cN2 "coder" "B" J0) :
    own_Met l own_y31 jdk_68_method_68_code 1 (some .boolean) [] (oR 0 0 0 0) #[(.ref ad0)] Z h0 (oQ (some J1) h0 n0) := by
  refine own_body (plainFor_of_name own_pn6) (own := "java/lang/AbstractStringBuilder") rfl (L0 := #[rv ad0]) fun p e s m below meth c s₁ hx hby hlk hml hown hnm X0 hZ e0 hh hret => ?_
  have N0 := Fr.nil n0
  obtain ⟨T1, X1, e1, st1⟩ := getS2 X0 hx hZ hown (host := "") (Or.inl (w_ hw 76 rfl)) Via.refl e0 zac (g := (mkF m 0 #[rv ad0] [])) rfl (hb hby d31_0)
  refine oS st1 ?_
  refine xifNo X1 hx (hb hby d31_3) rfl ((if0 _ _).trans (feq hc3).1) rfl ?_
  refine xaloadN X1 hx (hb hby d31_6) rfl rfl rfl ?_
  refine oG X1 hx hZ hown (w_ hw 79 rfl) e1 zak (hb hby d31_7) rfl rfl fun T2 X2 e2 => ?_
  refine xifNo X2 hx (hb hby d31_10) rfl ((if0 _ _).trans (teq (by decide : (0 : Int32) = (0 : Int32))).2) rfl ?_
  refine xiconst X2 hx (hb hby d31_13) rfl ?_
  refine xgoto X2 hx 14 18 rfl (hb hby d31_14) rfl ?_
  exact own_ret X2 hlk (v := some J1) (fun h => by rw [hret] at h; cases h) (by decide) (by decide) (by rw [e2]; exact ⟨rfl, N0, rfl⟩) (fun fs hr => retN X2 hx (t := .boolean) hret (by simp) (hb hby d31_18) hr)

abbrev b32_ : ByteArray := jdk_68_method_31_code
theorem d32_0 : decode b32_ 0 = .ok (.aload_n 0, 1) := by decide +kernel
theorem d32_1 : decode b32_ 1 = .ok (.aload_n 0, 1) := by decide +kernel
theorem d32_2 : decode b32_ 2 = .ok (.getfield 79, 3) := by decide +kernel
theorem d32_5 : decode b32_ 5 = .ok (.iconst 1, 1) := by decide +kernel
theorem d32_6 : decode b32_ 6 = .ok (.iadd, 1) := by decide +kernel
theorem d32_7 : decode b32_ 7 = .ok (.invokevirtual 100, 3) := by decide +kernel
theorem d32_10 : decode b32_ 10 = .ok (.aload_n 0, 1) := by decide +kernel
theorem d32_11 : decode b32_ 11 = .ok (.invokevirtual 83, 3) := by decide +kernel
theorem d32_14 : decode b32_ 14 = .ok (.ifCond .eq 31, 3) := by decide +kernel
theorem d32_17 : decode b32_ 17 = .ok (.iload_n 1, 1) := by decide +kernel
theorem d32_18 : decode b32_ 18 = .ok (.invokestatic 191, 3) := by decide +kernel
theorem d32_21 : decode b32_ 21 = .ok (.ifCond .eq 24, 3) := by decide +kernel
theorem d32_24 : decode b32_ 24 = .ok (.aload_n 0, 1) := by decide +kernel
theorem d32_25 : decode b32_ 25 = .ok (.getfield 15, 3) := by decide +kernel
theorem d32_28 : decode b32_ 28 = .ok (.aload_n 0, 1) := by decide +kernel
theorem d32_29 : decode b32_ 29 = .ok (.dup, 1) := by decide +kernel
theorem d32_30 : decode b32_ 30 = .ok (.getfield 79, 3) := by decide +kernel
theorem d32_33 : decode b32_ 33 = .ok (.dup_x1, 1) := by decide +kernel
theorem d32_34 : decode b32_ 34 = .ok (.iconst 1, 1) := by decide +kernel
theorem d32_35 : decode b32_ 35 = .ok (.iadd, 1) := by decide +kernel
theorem d32_36 : decode b32_ 36 = .ok (.putfield 79, 3) := by decide +kernel
theorem d32_39 : decode b32_ 39 = .ok (.iload_n 1, 1) := by decide +kernel
theorem d32_40 : decode b32_ 40 = .ok (.i2b, 1) := by decide +kernel
theorem d32_41 : decode b32_ 41 = .ok (.bastore, 1) := by decide +kernel
theorem d32_42 : decode b32_ 42 = .ok (.goto 33, 3) := by decide +kernel
theorem d32_75 : decode b32_ 75 = .ok (.aload_n 0, 1) := by decide +kernel
theorem d32_76 : decode b32_ 76 = .ok (.areturn, 1) := by decide +kernel
abbrev own_y32 : MethodName := (⟨"java/lang/AbstractStringBuilder", "append", "(C)Ljava/lang/AbstractStringBuilder;"⟩ : MethodName)
abbrev own_Q42 (Z : State) (ad0 : Addr) (p1 : Int32) (zae : Addr) (zah : Int32) (zav : Value) (zaj : ClassId) (zao : List Value) (h0 : Heap) (n0 : Nat) (v : Option Value) (h : Heap) (L : List Loc) : Prop := Fr n0 L ∧ Keep h0 h [ad0, zae] ∧ v = some (.ref ad0) ∧ Exa Z h ad0 cN1 ∧ Fld Z h ad0 cN2 "value" "[B" (.ref zae) ∧ Fld Z h ad0 cN2 "coder" "B" J0 ∧ Fld Z h ad0 cN2 "maybeLatin1" "Z" zav ∧ Fld Z h ad0 cN2 "count" "I" (.int (zah + (1 : Int32))) ∧ Arv Z h zae zaj .byte (16 : Int32) (List.set zao (zah.toNatClampNeg) (.int (nar .byte (p1.toInt8.toInt32)))) J0
theorem own_rm42 {l : Launch} {Z : State} {a0 : Array Value} (hw : own_HW Z a0) (hs : own_HS Z a0) (ad0 : Addr) (p1 : Int32) (zae : Addr) (zah : Int32) (zav : Value) (zaj : ClassId) (zao : List Value) (zaa : Int32) (h0 : Heap) (n0 : Nat) (Z0 : n0 ≤ h0.size) (hB0 : own_U Z h0 ad0 zae zaj (.int zah) zav zao) (zac : Sta Z h0 cN0 "COMPACT_STRINGS" "Z" (.int zaa)) (hc14_7 : ¬ ((0 : Int32) < ((zah + (1 : Int32)) - (16 : Int32)))) (hc3_11 : ¬ (zaa = (0 : Int32))) (hc4_18 : ¬ ((255 : Int32) < p1)) (zas : n0 ≤ ad0) (hi0_41 : ¬ (zah < (0 : Int32))) (hi1_41 : zah < (16 : Int32)) (zdb : n0 ≤ zae) (hix_41 : zah.toNatClampNeg < zao.length) :
    own_Met l own_y32 jdk_68_method_31_code 2 (some (.object cN2)) [] (oR 1 0 0 14) #[(.ref ad0), (.int p1)] Z h0 (own_Q42 Z ad0 p1 zae zah zav zaj zao h0 n0) := by
  refine own_body (plainFor_of_name own_pn6) (own := "java/lang/AbstractStringBuilder") rfl (L0 := #[rv ad0, iv p1]) fun p e s m below meth c s₁ hx hby hlk hml hown hnm X0 hZ e0 hh hret => ?_
  obtain ⟨zad, zal, zak, zbg, zby, zam⟩ := hB0
  have N0 := Fr.nil n0
  have KR : Keep h0 h0 [ad0, zae] := Keep.refl _ _
  refine xaloadN X0 hx (hb hby d32_0) rfl rfl rfl ?_
  refine xaloadN X0 hx (hb hby d32_1) rfl rfl rfl ?_
  refine oG X0 hx hZ hown (w_ hw 96 rfl) e0 zbg (hb hby d32_2) rfl rfl fun T1 X1 e1 => ?_
  refine xiconst X1 hx (hb hby d32_5) rfl ?_
  refine xiadd X1 hx (hb hby d32_6) rfl rfl ?_
  refine oV X1 hx hZ hown hml (w_ hw 91 rfl) (own_decl (w_ hw 92 rfl) (w_ hw 95 rfl)) (w_ hw 94 rfl) (w_ hw 92 rfl) (own_rm33 hw hs ad0 ((zah + (1 : Int32))) zae zah zav zaj zao h0 n0 Z0 ⟨zad, zal, zak, zbg, zby, zam⟩ hc14_7) (w_ hw 95 rfl) (w_ hw 73 rfl) e1 zad [(.int (zah + (1 : Int32)))] [] 0 (lenOf own_pd15 rfl) rfl (hb hby d32_7) rfl rfl rfl fun T2 L2 v2 X2 hQ2 => ?_
  obtain ⟨rfl, N2q, e2⟩ := hQ2
  have N2 := Fr.app N0 N2q
  refine xaloadN X2 hx (hb hby d32_10) rfl rfl rfl ?_
  refine oV X2 hx hZ hown hml (w_ hw 147 rfl) (w_ hw 148 rfl) (w_ hw 150 rfl) (w_ hw 149 rfl) (own_rm41 hw hs ad0 zaa h0 n0 Z0 zac hc3_11 zak) (w_ hw 151 rfl) (w_ hw 73 rfl) e2 zad [] [] 0 (lenOf own_pd3 rfl) rfl (hb hby d32_11) rfl rfl rfl fun T3 L3 v3 X3 hQ3 => ?_
  obtain ⟨rfl, N3q, e3⟩ := hQ3
  have N3 := Fr.app N2 N3q
  show oF p e below s _ _ _ (T3.setTop (mkF m 14 #[rv ad0, iv p1] [J1]))
  refine xifNo X3 hx (hb hby d32_14) rfl ((if0 _ _).trans (feq (by decide : ¬ ((1 : Int32) = (0 : Int32)))).1) rfl ?_
  refine xiloadN X3 hx (hb hby d32_17) rfl rfl ?_
  refine oC X3 hx hZ hown hml (w_ hw 152 rfl) (w_ hw 153 rfl) (own_rm17 hw hs p1 h0 n0 Z0 hc4_18) (w_ hw 155 rfl) (w_ hw 154 rfl) e3 [(.int p1)] [] 0 (lenOf own_pd5 rfl) rfl (hb hby d32_18) rfl rfl rfl fun T4 L4 v4 X4 hQ4 => ?_
  obtain ⟨rfl, N4q, e4⟩ := hQ4
  have N4 := Fr.app N3 N4q
  refine xifNo X4 hx (hb hby d32_21) rfl ((if0 _ _).trans (feq (by decide : ¬ ((1 : Int32) = (0 : Int32)))).1) rfl ?_
  refine xaloadN X4 hx (hb hby d32_24) rfl rfl rfl ?_
  refine oG X4 hx hZ hown (w_ hw 77 rfl) e4 zal (hb hby d32_25) rfl rfl fun T5 X5 e5 => ?_
  refine xaloadN X5 hx (hb hby d32_28) rfl rfl rfl ?_
  refine xdup X5 hx (hb hby d32_29) rfl rfl rfl ?_
  refine oG X5 hx hZ hown (w_ hw 96 rfl) e5 zbg (hb hby d32_30) rfl rfl fun T6 X6 e6 => ?_
  show oF p e below s _ _ _ (T6.setTop (mkF m 33 #[rv ad0, iv p1] [(.int zah), (.ref ad0), (.ref zae)]))
  refine oS (fun _ k => XS.dupX1 X6.here hx rfl (hb hby d32_33) rfl rfl rfl k) ?_
  refine xiconst X6 hx (hb hby d32_34) rfl ?_
  refine xiadd X6 hx (hb hby d32_35) rfl rfl ?_
  obtain ⟨T7, h7, X7, e7, W7, st7⟩ := putF X6 hx hZ hown (host := "") (Or.inl (w_ hw 96 rfl)) Via.refl e6 zbg zad (Or.inl (w_ hw 97 rfl)) (w_ hw 64 rfl) (ty := .int) (by decide) rfl rfl (g := (mkF m 36 #[rv ad0, iv p1] [(.int (zah + (1 : Int32))), (.ref ad0), (.int zah), (.ref zae)])) rfl rfl (hb hby d32_36)
  have N7 := Fr.snoc X7 N4 zas
  have K7 : Keep h0 h7 [ad0, zae] := KR.wr W7 (Or.inl (List.mem_of_getElem? (i := 0) rfl))
  have Z7 : n0 ≤ h7.size := Nat.le_trans Z0 (Keep.of_wr W7).1
  have G8 := (zad.wr W7)
  have G9 := (zal.other W7 (Or.inr (sn15 hw)))
  have G10 := (zak.other W7 (Or.inr (sn16 hw)))
  have G11 := (zby.other W7 (Or.inr (sn17 hw)))
  have G12 := (zam.other W7 (Ne.symm (Exa.neArv zad zam (w_ hw 64 rfl))))
  have G13 := (zac.wr W7)
  have G14 := zbg.same W7
  refine oS st7 ?_
  refine xiloadN X7 hx (hb hby d32_39) rfl rfl ?_
  refine oS (fun _ k => XS.i2b X7.here hx rfl (hb hby d32_40) rfl k) ?_
  obtain ⟨cl15, Ar15, q15, Sz15, Ng15, Hs15, Gf15⟩ := id G12
  have hin15 : ¬ (zah < 0 ∨ cl15.slots.size ≤ (zah).toNatClampNeg) := inb_of Sz15 ⟨hi0_41, hi1_41⟩
  obtain ⟨T15, h15, X15, e15, W15, st15⟩ := stB X7 hx hZ e7 Ar15 (j := zah) hin15 (g := (mkF m 41 #[rv ad0, iv p1] [(.int (p1.toInt8.toInt32)), (.int zah), (.ref zae)])) rfl rfl (hb hby d32_41)
  have N15 := Fr.snoc X15 N7 zdb
  have K15 : Keep h0 h15 [ad0, zae] := K7.wr W15 (Or.inl (List.mem_of_getElem? (i := 1) rfl))
  have Z15 : n0 ≤ h15.size := Nat.le_trans Z7 (Keep.of_wr W15).1
  obtain ⟨G16, G17, G18, G19, G20⟩ := own_o4 W15 (Exa.neArv G8 G12 (w_ hw 64 rfl)) G8 G9 G10 G11 G14
  have G21 := (G13.wr W15)
  have G22 : Arv Z h15 zae zaj .byte (16 : Int32) (List.set zao (zah.toNatClampNeg) (.int (nar .byte (p1.toInt8.toInt32)))) J0 := Arv.set Ar15 q15 Sz15 Ng15 Hs15 Gf15 (fits_nar_byte _) W15 (zah.toNatClampNeg) rfl hix_41
  refine oS st15 ?_
  refine xgoto X15 hx 42 75 rfl (hb hby d32_42) rfl ?_
  refine xaloadN X15 hx (hb hby d32_75) rfl rfl rfl ?_
  show oF p e below s _ _ _ (T15.setTop (mkF m 76 #[rv ad0, iv p1] [(.ref ad0)]))
  exact oRA X15 hx hlk hret rfl rfl rfl (hb hby d32_76) (by rw [e15]; exact ⟨N15, K15, rfl, G16, G17, G18, G19, G20, G22⟩)

theorem own_pd21 : parseMethodDescriptor "(C)Ljava/lang/AbstractStringBuilder;" = some ⟨[.char], some (.object "java/lang/AbstractStringBuilder")⟩ := by decide +kernel
abbrev b33_ : ByteArray := jdk_67_method_14_code
theorem d33_0 : decode b33_ 0 = .ok (.aload_n 0, 1) := by decide +kernel
theorem d33_1 : decode b33_ 1 = .ok (.iload_n 1, 1) := by decide +kernel
theorem d33_2 : decode b33_ 2 = .ok (.invokespecial 50, 3) := by decide +kernel
theorem d33_5 : decode b33_ 5 = .ok (.pop, 1) := by decide +kernel
theorem d33_6 : decode b33_ 6 = .ok (.aload_n 0, 1) := by decide +kernel
theorem d33_7 : decode b33_ 7 = .ok (.areturn, 1) := by decide +kernel
abbrev own_y33 : MethodName := (⟨"java/lang/StringBuilder", "append", "(C)Ljava/lang/StringBuilder;"⟩ : MethodName)
abbrev own_Q43 (Z : State) (ad0 : Addr) (p1 : Int32) (zae : Addr) (zah : Int32) (zav : Value) (zaj : ClassId) (zao : List Value) (h0 : Heap) (n0 : Nat) (v : Option Value) (h : Heap) (L : List Loc) : Prop := Fr n0 L ∧ Keep h0 h [zae, ad0] ∧ v = some (.ref ad0) ∧ Arv Z h zae zaj .byte (16 : Int32) (List.set zao (zah.toNatClampNeg) (.int (nar .byte (p1.toInt8.toInt32)))) J0 ∧ Exa Z h ad0 cN1 ∧ Fld Z h ad0 cN2 "value" "[B" (.ref zae) ∧ Fld Z h ad0 cN2 "coder" "B" J0 ∧ Fld Z h ad0 cN2 "maybeLatin1" "Z" zav ∧ Fld Z h ad0 cN2 "count" "I" (.int (zah + (1 : Int32)))
theorem own_rm43 {l : Launch} {Z : State} {a0 : Array Value} (hw : own_HW Z a0) (hs : own_HS Z a0) (ad0 : Addr) (p1 : Int32) (zae : Addr) (zah : Int32) (zav : Value) (zaj : ClassId) (zao : List Value) (zaa : Int32) (h0 : Heap) (n0 : Nat) (Z0 : n0 ≤ h0.size) (hB0 : own_U Z h0 ad0 zae zaj (.int zah) zav zao) (zac : Sta Z h0 cN0 "COMPACT_STRINGS" "Z" (.int zaa)) (hc14_7_2 : ¬ ((0 : Int32) < ((zah + (1 : Int32)) - (16 : Int32)))) (hc3_11_2 : ¬ (zaa = (0 : Int32))) (hc4_18_2 : ¬ ((255 : Int32) < p1)) (zas : n0 ≤ ad0) (hi0_41_2 : ¬ (zah < (0 : Int32))) (hi1_41_2 : zah < (16 : Int32)) (zdb : n0 ≤ zae) (hix_41_2 : zah.toNatClampNeg < zao.length) :
    own_Met l own_y33 jdk_67_method_14_code 2 (some (.object cN1)) [] (oR 2 0 0 27) #[(.ref ad0), (.int p1)] Z h0 (own_Q43 Z ad0 p1 zae zah zav zaj zao h0 n0) := by
  refine own_body (plainFor_of_name own_pn7) (own := "java/lang/StringBuilder") rfl (L0 := #[rv ad0, iv p1]) fun p e s m below meth c s₁ hx hby hlk hml hown hnm X0 hZ e0 hh hret => ?_
  obtain ⟨zad, zal, zak, zbg, zby, zam⟩ := hB0
  have N0 := Fr.nil n0
  have KR : Keep h0 h0 [zae, ad0] := Keep.refl _ _
  refine xaloadN X0 hx (hb hby d33_0) rfl rfl rfl ?_
  refine xiloadN X0 hx (hb hby d33_1) rfl rfl ?_
  refine oU X0 hx hZ hown hml (w_ hw 143 rfl) (w_ hw 144 rfl) (w_ hw 94 rfl) (w_ hw 88 rfl) (own_rm42 hw hs ad0 p1 zae zah zav zaj zao zaa h0 n0 Z0 ⟨zad, zal, zak, zbg, zby, zam⟩ zac hc14_7_2 hc3_11_2 hc4_18_2 zas hi0_41_2 hi1_41_2 zdb hix_41_2) (w_ hw 146 rfl) (w_ hw 73 rfl) e0 zad [(.int p1)] [] 0 (lenOf own_pd21 rfl) rfl (hb hby d33_2) rfl rfl rfl fun T1 L1 v1 X1 hQ1 => ?_
  obtain ⟨N1q, K1q, rfl, G2, G3, G4, G5, G6, G7⟩ := hQ1
  have N1 := Fr.app N0 N1q
  have K1 := KR.trans K1q (own_aW 1 rfl (own_aW 0 rfl own_a0))
  have Z1 := Nat.le_trans Z0 K1q.1
  have G8 := (zad.keep K1q)
  have G9 := (own_sta_keep zac K1q (own_nS (own_nst_exa zad) (own_nS (own_nst_arv zam) own_n0)))
  refine oS (fun _ k => XS.pop X1.here hx rfl (hb hby d33_5) rfl rfl k) ?_
  refine xaloadN X1 hx (hb hby d33_6) rfl rfl rfl ?_
  exact oRA X1 hx hlk hret rfl rfl rfl (hb hby d33_7) ⟨N1, K1, rfl, G7, G2, G3, G4, G5, G6⟩

abbrev b34_ : ByteArray := jdk_68_method_6_code
theorem d34_0 : decode b34_ 0 = .ok (.aload_n 0, 1) := by decide +kernel
theorem d34_1 : decode b34_ 1 = .ok (.getfield 79, 3) := by decide +kernel
theorem d34_4 : decode b34_ 4 = .ok (.ireturn, 1) := by decide +kernel
abbrev own_y34 : MethodName := (⟨"java/lang/AbstractStringBuilder", "length", "()I"⟩ : MethodName)
theorem own_rm44 {l : Launch} {Z : State} {a0 : Array Value} (hw : own_HW Z a0) (hs : own_HS Z a0) (ad0 : Addr) (zah : Int32) (h0 : Heap) (n0 : Nat) (Z0 : n0 ≤ h0.size) (zbg : Fld Z h0 ad0 cN2 "count" "I" (.int zah)) :
    own_Met l own_y34 jdk_68_method_6_code 1 (some .int) [] (oR 0 0 0 0) #[(.ref ad0)] Z h0 (oQ (some (.int zah)) h0 n0) := by
  refine own_body (plainFor_of_name own_pn6) (own := "java/lang/AbstractStringBuilder") rfl (L0 := #[rv ad0]) fun p e s m below meth c s₁ hx hby hlk hml hown hnm X0 hZ e0 hh hret => ?_
  have N0 := Fr.nil n0
  refine xaloadN X0 hx (hb hby d34_0) rfl rfl rfl ?_
  refine oG X0 hx hZ hown (w_ hw 96 rfl) e0 zbg (hb hby d34_1) rfl rfl fun T1 X1 e1 => ?_
  exact oRI X1 hx hlk hret (hb hby d34_4) (by rw [e1]; exact ⟨rfl, N0, rfl⟩)

abbrev b35_ : ByteArray := jdk_67_method_93_code
theorem d35_0 : decode b35_ 0 = .ok (.aload_n 0, 1) := by decide +kernel
theorem d35_1 : decode b35_ 1 = .ok (.invokespecial 343, 3) := by decide +kernel
theorem d35_4 : decode b35_ 4 = .ok (.ireturn, 1) := by decide +kernel
abbrev own_y35 : MethodName := (⟨"java/lang/StringBuilder", "length", "()I"⟩ : MethodName)
theorem own_rm45 {l : Launch} {Z : State} {a0 : Array Value} (hw : own_HW Z a0) (hs : own_HS Z a0) (ad0 : Addr) (zah : Int32) (h0 : Heap) (n0 : Nat) (Z0 : n0 ≤ h0.size) (zad : Exa Z h0 ad0 cN1) (zbg : Fld Z h0 ad0 cN2 "count" "I" (.int zah)) :
    own_Met l own_y35 jdk_67_method_93_code 1 (some .int) [] (oR 1 0 0 12) #[(.ref ad0)] Z h0 (oQ (some (.int zah)) h0 n0) := by
  refine own_body (plainFor_of_name own_pn7) (own := "java/lang/StringBuilder") rfl (L0 := #[rv ad0]) fun p e s m below meth c s₁ hx hby hlk hml hown hnm X0 hZ e0 hh hret => ?_
  have N0 := Fr.nil n0
  refine xaloadN X0 hx (hb hby d35_0) rfl rfl rfl ?_
  refine oU X0 hx hZ hown hml (w_ hw 209 rfl) (w_ hw 205 rfl) (w_ hw 94 rfl) (w_ hw 88 rfl) (own_rm44 hw hs ad0 zah h0 n0 Z0 zbg) (w_ hw 210 rfl) (w_ hw 73 rfl) e0 zad [] [] 0 (lenOf own_pd18 rfl) rfl (hb hby d35_1) rfl rfl rfl fun T1 L1 v1 X1 hQ1 => ?_
  obtain ⟨rfl, N1q, e1⟩ := hQ1
  have N1 := Fr.app N0 N1q
  exact oRI X1 hx hlk hret (hb hby d35_4) (by rw [e1]; exact ⟨rfl, N1, rfl⟩)

abbrev b36_ : ByteArray := jdk_68_method_64_code
theorem d36_0 : decode b36_ 0 = .ok (.aload_n 0, 1) := by decide +kernel
theorem d36_1 : decode b36_ 1 = .ok (.getfield 15, 3) := by decide +kernel
theorem d36_4 : decode b36_ 4 = .ok (.areturn, 1) := by decide +kernel
abbrev own_y36 : MethodName := (⟨"java/lang/AbstractStringBuilder", "getValue", "()[B"⟩ : MethodName)
theorem own_rm46 {l : Launch} {Z : State} {a0 : Array Value} (hw : own_HW Z a0) (hs : own_HS Z a0) (ad0 zae : Addr) (h0 : Heap) (n0 : Nat) (Z0 : n0 ≤ h0.size) (zal : Fld Z h0 ad0 cN2 "value" "[B" (.ref zae)) :
    own_Met l own_y36 jdk_68_method_64_code 1 (some (.array .byte)) [] (oR 0 0 0 0) #[(.ref ad0)] Z h0 (oQ (some (.ref zae)) h0 n0) := by
  refine own_body (plainFor_of_name own_pn6) (own := "java/lang/AbstractStringBuilder") rfl (L0 := #[rv ad0]) fun p e s m below meth c s₁ hx hby hlk hml hown hnm X0 hZ e0 hh hret => ?_
  have N0 := Fr.nil n0
  refine xaloadN X0 hx (hb hby d36_0) rfl rfl rfl ?_
  refine oG X0 hx hZ hown (w_ hw 77 rfl) e0 zal (hb hby d36_1) rfl rfl fun T1 X1 e1 => ?_
  exact oRA X1 hx hlk hret rfl rfl rfl (hb hby d36_4) (by rw [e1]; exact ⟨rfl, N0, rfl⟩)

abbrev b37_ : ByteArray := jdk_65_method_131_code
theorem d37_0 : decode b37_ 0 = .ok (.iload_n 1, 1) := by decide +kernel
theorem d37_1 : decode b37_ 1 = .ok (.iload_n 0, 1) := by decide +kernel
theorem d37_2 : decode b37_ 2 = .ok (.if_icmp .ge 35, 3) := by decide +kernel
theorem d37_37 : decode b37_ 37 = .ok (.return_, 1) := by decide +kernel
theorem own_pn8 : plainName "java/util/Arrays" = true := by first | (simp [plainName, overriddenIn]; done) | decide +kernel
abbrev own_y37 : MethodName := (⟨"java/util/Arrays", "checkLength", "(II)V"⟩ : MethodName)
theorem own_rm47 {l : Launch} {Z : State} {a0 : Array Value} (hw : own_HW Z a0) (hs : own_HS Z a0) (p0 p1 : Int32) (h0 : Heap) (n0 : Nat) (Z0 : n0 ≤ h0.size) (hc2 : ¬ (p1 < p0)) :
    own_Met l own_y37 jdk_65_method_131_code 2 none [] (oR 0 0 0 0) #[(.int p0), (.int p1)] Z h0 (oQ (none) h0 n0) := by
  refine own_body (plainFor_of_name own_pn8) (own := "java/util/Arrays") rfl (L0 := #[iv p0, iv p1]) fun p e s m below meth c s₁ hx hby hlk hml hown hnm X0 hZ e0 hh hret => ?_
  have N0 := Fr.nil n0
  refine xiloadN X0 hx (hb hby d37_0) rfl rfl ?_
  refine xiloadN X0 hx (hb hby d37_1) rfl rfl ?_
  refine xicmpYes X0 hx 2 37 rfl (hb hby d37_2) rfl (flt hc2).2.1 rfl ?_
  exact oRV X0 hx hlk hret (hb hby d37_37) (by rw [e0]; exact ⟨rfl, N0, rfl⟩)

abbrev b38_ : ByteArray := jdk_65_method_133_code
theorem d38_0 : decode b38_ 0 = .ok (.iload_n 1, 1) := by decide +kernel
theorem d38_1 : decode b38_ 1 = .ok (.iload_n 2, 1) := by decide +kernel
theorem d38_2 : decode b38_ 2 = .ok (.invokestatic 343, 3) := by decide +kernel
theorem d38_5 : decode b38_ 5 = .ok (.iload_n 2, 1) := by decide +kernel
theorem d38_6 : decode b38_ 6 = .ok (.iload_n 1, 1) := by decide +kernel
theorem d38_7 : decode b38_ 7 = .ok (.isub, 1) := by decide +kernel
theorem d38_8 : decode b38_ 8 = .ok (.istore_n 3, 1) := by decide +kernel
theorem d38_9 : decode b38_ 9 = .ok (.iload_n 3, 1) := by decide +kernel
theorem d38_10 : decode b38_ 10 = .ok (.newarray .byte, 2) := by decide +kernel
theorem d38_12 : decode b38_ 12 = .ok (.astore 4, 2) := by decide +kernel
theorem d38_14 : decode b38_ 14 = .ok (.aload_n 0, 1) := by decide +kernel
theorem d38_15 : decode b38_ 15 = .ok (.iload_n 1, 1) := by decide +kernel
theorem d38_16 : decode b38_ 16 = .ok (.aload 4, 2) := by decide +kernel
theorem d38_18 : decode b38_ 18 = .ok (.iconst 0, 1) := by decide +kernel
theorem d38_19 : decode b38_ 19 = .ok (.aload_n 0, 1) := by decide +kernel
theorem d38_20 : decode b38_ 20 = .ok (.arraylength, 1) := by decide +kernel
theorem d38_21 : decode b38_ 21 = .ok (.iload_n 1, 1) := by decide +kernel
theorem d38_22 : decode b38_ 22 = .ok (.isub, 1) := by decide +kernel
theorem d38_23 : decode b38_ 23 = .ok (.iload_n 3, 1) := by decide +kernel
theorem d38_24 : decode b38_ 24 = .ok (.invokestatic 304, 3) := by decide +kernel
theorem d38_27 : decode b38_ 27 = .ok (.invokestatic 150, 3) := by decide +kernel
theorem d38_30 : decode b38_ 30 = .ok (.aload 4, 2) := by decide +kernel
theorem d38_32 : decode b38_ 32 = .ok (.areturn, 1) := by decide +kernel
abbrev own_y38 : MethodName := (⟨"java/util/Arrays", "copyOfRangeByte", "([BII)[B"⟩ : MethodName)
abbrev own_Q48 (Z : State) (p2 : Int32) (zcv : List Value) (h0 : Heap) (n0 : Nat) (v : Option Value) (h : Heap) (L : List Loc) : Prop := Fr n0 L ∧ Keep h0 h [] ∧ ∃ o0 : Addr, n0 ≤ o0 ∧ h0.size ≤ o0 ∧ ∃ (ko0 : ClassId), v = some (.ref o0) ∧ Arv Z h o0 ko0 .byte p2 (own_cat [J0, J0, J0, J0] zcv (0 : Int32) p2) J0
theorem own_rm48 {l : Launch} {Z : State} {a0 : Array Value} (hw : own_HW Z a0) (hs : own_HS Z a0) (ad0 : Addr) (p2 : Int32) (zch : ClassId) (zcv : List Value) (h0 : Heap) (n0 : Nat) (Z0 : n0 ≤ h0.size) (zbv : Arv Z h0 ad0 zch .byte (16 : Int32) zcv J0) (zdt : ¬ (p2 < (0 : Int32))) (hcp_10 : p2.toNatClampNeg ≤ 4) (h16_24 : p2 < (16 : Int32)) (hsp_27 : (0 : Int32).toNatClampNeg + p2.toNatClampNeg ≤ (16 : Int32).toNatClampNeg) (hle_27 : (0 : Int32).toNatClampNeg + p2.toNatClampNeg ≤ [J0, J0, J0, J0].length) :
    own_Met l own_y38 jdk_65_method_133_code 5 (some (.array .byte)) [] (oR 1 1 4 18) #[(.ref ad0), J0, (.int p2)] Z h0 (own_Q48 Z p2 zcv h0 n0) := by
  refine own_body (plainFor_of_name own_pn8) (own := "java/util/Arrays") rfl (L0 := #[rv ad0, iv (0 : Int32), iv p2, .unset, .unset]) fun p e s m below meth c s₁ hx hby hlk hml hown hnm X0 hZ e0 hh hret => ?_
  have N0 := Fr.nil n0
  have KR : Keep h0 h0 [] := Keep.refl _ _
  refine xiloadN X0 hx (hb hby d38_0) rfl rfl ?_
  refine xiloadN X0 hx (hb hby d38_1) rfl rfl ?_
  refine oC X0 hx hZ hown hml (w_ hw 219 rfl) (w_ hw 220 rfl) (own_rm47 hw hs ((0 : Int32)) p2 h0 n0 Z0 zdt) (w_ hw 221 rfl) (w_ hw 214 rfl) e0 [J0, (.int p2)] [] 0 (lenOf own_pd2 rfl) rfl (hb hby d38_2) rfl rfl rfl fun T1 L1 v1 X1 hQ1 => ?_
  obtain ⟨rfl, N1q, e1⟩ := hQ1
  have N1 := Fr.app N0 N1q
  refine xiloadN X1 hx (hb hby d38_5) rfl rfl ?_
  refine xiloadN X1 hx (hb hby d38_6) rfl rfl ?_
  refine oS (fun _ k => XS.isub X1.here hx rfl (hb hby d38_7) rfl k) ?_
  show oF p e below s _ _ _ (T1.setTop (mkF m 8 #[rv ad0, iv (0 : Int32), iv p2, .unset, .unset] [(.int (p2 - (0 : Int32)))]))
  rw [show (p2 - (0 : Int32)) = p2 from by simp]
  show oF p e below s _ _ _ (T1.setTop (mkF m 8 #[rv ad0, iv (0 : Int32), iv p2, .unset, .unset] [(.int p2)]))
  refine xistoreN X1 hx (hb hby d38_8) rfl (l' := #[rv ad0, iv (0 : Int32), iv p2, iv p2, .unset]) rfl rfl ?_
  refine xiloadN X1 hx (hb hby d38_9) rfl rfl ?_
  obtain ⟨T2, h2, k2, X2, e2, E2, A2, st2⟩ := newP X1 hx hZ (w_ hw 23 rfl) e1 (g := (mkF m 10 #[rv ad0, iv (0 : Int32), iv p2, iv p2, .unset] [(.int p2)])) rfl (hb hby d38_10) rfl zdt (cap := 4) hcp_10 (by decide) (by decide) (by decide)
  obtain ⟨b2, g2⟩ : ∃ z, z = h0.size := ⟨_, rfl⟩
  rw [← g2] at A2 st2
  have ne2_ad0 : ad0 ≠ b2 := Nat.ne_of_lt (Nat.lt_of_lt_of_le zbv.lt (Nat.le_of_eq g2.symm))
  have gg2 : n0 ≤ b2 := Nat.le_trans Z0 (Nat.le_of_eq g2.symm)
  have sz2 : h0.size ≤ b2 := Nat.le_trans KR.1 (Nat.le_of_eq g2.symm)
  have K2 : Keep h0 h2 [] := KR.ext E2
  have Z2 : n0 ≤ h2.size := Nat.le_trans Z0 E2.1
  have G3 := (zbv.ext E2)
  have G4 : Arv Z h2 b2 k2 .byte p2 [J0, J0, J0, J0] J0 := (Arv.new A2 zdt).pad (pad_rep [] J0 4)
  refine oS st2 ?_
  refine xastore X2 hx (hb hby d38_12) rfl rfl (l' := #[rv ad0, iv (0 : Int32), iv p2, iv p2, rv b2]) rfl rfl ?_
  refine xaloadN X2 hx (hb hby d38_14) rfl rfl rfl ?_
  refine xiloadN X2 hx (hb hby d38_15) rfl rfl ?_
  refine xaload X2 hx (hb hby d38_16) rfl rfl rfl ?_
  refine xiconst X2 hx (hb hby d38_18) rfl ?_
  refine xaloadN X2 hx (hb hby d38_19) rfl rfl rfl ?_
  obtain ⟨cl5, Ar5, q5, Sz5, Ng5, Hs5, Gf5⟩ := id G3
  refine oS (fun _ k => X2.arraylength hx (by rw [e2]; exact Ar5.1) (State.isArrayOf_alike hZ.alike Ar5.2.1) (g := (mkF m 20 #[rv ad0, iv (0 : Int32), iv p2, iv p2, rv b2] [(.ref ad0), J0, (.ref b2), J0, (.ref ad0)])) rfl rfl (hb hby d38_20) _ k) ?_
  rw [len_of Sz5 Ng5]
  show oF p e below s _ _ _ (T2.setTop (mkF m 21 #[rv ad0, iv (0 : Int32), iv p2, iv p2, rv b2] [J16, J0, (.ref b2), J0, (.ref ad0)]))
  refine xiloadN X2 hx (hb hby d38_21) rfl rfl ?_
  refine oS (fun _ k => XS.isub X2.here hx rfl (hb hby d38_22) rfl k) ?_
  show oF p e below s _ _ _ (T2.setTop (mkF m 23 #[rv ad0, iv (0 : Int32), iv p2, iv p2, rv b2] [(.int ((16 : Int32) - (0 : Int32))), J0, (.ref b2), J0, (.ref ad0)]))
  rw [show ((16 : Int32) - (0 : Int32)) = (16 : Int32) from by decide]
  show oF p e below s _ _ _ (T2.setTop (mkF m 23 #[rv ad0, iv (0 : Int32), iv p2, iv p2, rv b2] [J16, J0, (.ref b2), J0, (.ref ad0)]))
  refine xiloadN X2 hx (hb hby d38_23) rfl rfl ?_
  refine oC X2 hx hZ hown hml (w_ hw 222 rfl) (w_ hw 5 rfl) (own_rm1 hw hs ((16 : Int32)) p2 h2 n0 Z2 ) (w_ hw 7 rfl) (w_ hw 6 rfl) e2 [J16, (.int p2)] [J0, (.ref b2), J0, (.ref ad0)] 4 (lenOf own_pd12 rfl) rfl (hb hby d38_24) rfl rfl rfl fun T6 L6 v6 X6 hQ6 => ?_
  obtain ⟨rfl, N6q, e6⟩ := hQ6
  have N6 := Fr.app N1 N6q
  show oF p e below s _ _ _ (T6.setTop (mkF m 27 #[rv ad0, iv (0 : Int32), iv p2, iv p2, rv b2] [(.int (own_r1 (16 : Int32) p2)), J0, (.ref b2), J0, (.ref ad0)]))
  rw [show (own_r1 (16 : Int32) p2) = p2 from own_min16 h16_24]
  show oF p e below s _ _ _ (T6.setTop (mkF m 27 #[rv ad0, iv (0 : Int32), iv p2, iv p2, rv b2] [(.int p2), J0, (.ref b2), J0, (.ref ad0)]))
  obtain ⟨T7, h7, L7, X7, e7, N7, Kc7, A7, st7⟩ := cpA X6 hx hZ hown (w_ hw 223 rfl) (w_ hw 137 rfl) (w_ hw 135 rfl) (w_ hw 136 rfl) e6 G3 G4 (Or.inl ⟨rfl, rfl⟩) (by decide) (by decide) zdt hsp_27 (Nat.le_of_eq (Nat.zero_add _)) rfl hle_27 N6 gg2 (g := (mkF m 27 #[rv ad0, iv (0 : Int32), iv p2, iv p2, rv b2] [(.int p2), J0, (.ref b2), J0, (.ref ad0)])) rfl (by rw [hml]; rfl) (rest := []) rfl (hb hby d38_27) (by decide) (W := 0) (by show 2 * 0 + _ ≤ _; exact Nat.le_of_eq rfl) (by decide)
  have K7 := K2.trans Kc7 (own_aB sz2 own_a0)
  have Z7 := Nat.le_trans Z2 Kc7.1
  have G8 := (G3.keep Kc7 (ninS ne2_ad0 nin0))
  have G9 : Arv Z h7 b2 k2 .byte p2 (own_cat [J0, J0, J0, J0] zcv (0 : Int32) p2) J0 := A7
  refine oS st7 ?_
  refine xaload X7 hx (hb hby d38_30) rfl rfl rfl ?_
  exact oRA X7 hx hlk hret rfl rfl rfl (hb hby d38_32) (by rw [e7]; exact ⟨N7, K7, b2, gg2, sz2, k2, rfl, G9⟩)

theorem own_pd22 : parseMethodDescriptor "([BII)[B" = some ⟨[(.array .byte), .int, .int], some (.array .byte)⟩ := by decide +kernel
abbrev b39_ : ByteArray := jdk_65_method_132_code
theorem d39_0 : decode b39_ 0 = .ok (.iload_n 1, 1) := by decide +kernel
theorem d39_1 : decode b39_ 1 = .ok (.ifCond .ne 9, 3) := by decide +kernel
theorem d39_4 : decode b39_ 4 = .ok (.iload_n 2, 1) := by decide +kernel
theorem d39_5 : decode b39_ 5 = .ok (.aload_n 0, 1) := by decide +kernel
theorem d39_6 : decode b39_ 6 = .ok (.arraylength, 1) := by decide +kernel
theorem d39_7 : decode b39_ 7 = .ok (.if_icmp .eq 10, 3) := by decide +kernel
theorem d39_10 : decode b39_ 10 = .ok (.aload_n 0, 1) := by decide +kernel
theorem d39_11 : decode b39_ 11 = .ok (.iload_n 1, 1) := by decide +kernel
theorem d39_12 : decode b39_ 12 = .ok (.iload_n 2, 1) := by decide +kernel
theorem d39_13 : decode b39_ 13 = .ok (.invokestatic 339, 3) := by decide +kernel
theorem d39_16 : decode b39_ 16 = .ok (.areturn, 1) := by decide +kernel
abbrev own_y39 : MethodName := (⟨"java/util/Arrays", "copyOfRange", "([BII)[B"⟩ : MethodName)
abbrev own_Q49 (Z : State) (p2 : Int32) (zcv : List Value) (h0 : Heap) (n0 : Nat) (v : Option Value) (h : Heap) (L : List Loc) : Prop := Fr n0 L ∧ Keep h0 h [] ∧ ∃ o0 : Addr, n0 ≤ o0 ∧ h0.size ≤ o0 ∧ ∃ (ko0 : ClassId), v = some (.ref o0) ∧ Arv Z h o0 ko0 .byte p2 (own_cat [J0, J0, J0, J0] zcv (0 : Int32) p2) J0
theorem own_rm49 {l : Launch} {Z : State} {a0 : Array Value} (hw : own_HW Z a0) (hs : own_HS Z a0) (ad0 : Addr) (p2 : Int32) (zch : ClassId) (zcv : List Value) (h0 : Heap) (n0 : Nat) (Z0 : n0 ≤ h0.size) (zbv : Arv Z h0 ad0 zch .byte (16 : Int32) zcv J0) (hc7 : ¬ (p2 = (16 : Int32))) (hc2_2_13 : ¬ (p2 < (0 : Int32))) (hcp_10_13 : p2.toNatClampNeg ≤ 4) (h16_24_13 : p2 < (16 : Int32)) (hsp_27_13 : (0 : Int32).toNatClampNeg + p2.toNatClampNeg ≤ (16 : Int32).toNatClampNeg) (hle_27_13 : (0 : Int32).toNatClampNeg + p2.toNatClampNeg ≤ [J0, J0, J0, J0].length) :
    own_Met l own_y39 jdk_65_method_132_code 3 (some (.array .byte)) [] (oR 2 1 4 34) #[(.ref ad0), J0, (.int p2)] Z h0 (own_Q49 Z p2 zcv h0 n0) := by
  refine own_body (plainFor_of_name own_pn8) (own := "java/util/Arrays") rfl (L0 := #[rv ad0, iv (0 : Int32), iv p2]) fun p e s m below meth c s₁ hx hby hlk hml hown hnm X0 hZ e0 hh hret => ?_
  have N0 := Fr.nil n0
  have KR : Keep h0 h0 [] := Keep.refl _ _
  refine xiloadN X0 hx (hb hby d39_0) rfl rfl ?_
  refine xifNo X0 hx (hb hby d39_1) rfl ((if0 _ _).trans (teq (by decide : (0 : Int32) = (0 : Int32))).2) rfl ?_
  refine xiloadN X0 hx (hb hby d39_4) rfl rfl ?_
  refine xaloadN X0 hx (hb hby d39_5) rfl rfl rfl ?_
  obtain ⟨cl1, Ar1, q1, Sz1, Ng1, Hs1, Gf1⟩ := id zbv
  refine oS (fun _ k => X0.arraylength hx (by rw [e0]; exact Ar1.1) (State.isArrayOf_alike hZ.alike Ar1.2.1) (g := (mkF m 6 #[rv ad0, iv (0 : Int32), iv p2] [(.ref ad0), (.int p2)])) rfl rfl (hb hby d39_6) _ k) ?_
  rw [len_of Sz1 Ng1]
  show oF p e below s _ _ _ (s₁.setTop (mkF m 7 #[rv ad0, iv (0 : Int32), iv p2] [J16, (.int p2)]))
  refine xicmpNo X0 hx (hb hby d39_7) rfl (feq hc7).1 rfl ?_
  refine xaloadN X0 hx (hb hby d39_10) rfl rfl rfl ?_
  refine xiloadN X0 hx (hb hby d39_11) rfl rfl ?_
  refine xiloadN X0 hx (hb hby d39_12) rfl rfl ?_
  refine oC X0 hx hZ hown hml (w_ hw 216 rfl) (w_ hw 217 rfl) (own_rm48 hw hs ad0 p2 zch zcv h0 n0 Z0 zbv hc2_2_13 hcp_10_13 h16_24_13 hsp_27_13 hle_27_13) (w_ hw 218 rfl) (w_ hw 214 rfl) e0 [(.ref ad0), J0, (.int p2)] [] 0 (lenOf own_pd22 rfl) rfl (hb hby d39_13) rfl rfl rfl fun T2 L2 v2 X2 hQ2 => ?_
  obtain ⟨N2q, K2q, b2_o0, gg2_o0, sz2_o0, ko0_2, rfl, G3⟩ := hQ2
  have N2 := Fr.app N0 N2q
  have ne2_o0_ad0 : ad0 ≠ b2_o0 := Nat.ne_of_lt (Nat.lt_of_lt_of_le zbv.lt sz2_o0)
  have K2 := KR.trans K2q own_a0
  have Z2 := Nat.le_trans Z0 K2q.1
  have sy2_o0 : h0.size ≤ b2_o0 := Nat.le_trans KR.1 sz2_o0
  have G4 := (zbv.keep K2q nin0)
  exact oRA X2 hx hlk hret rfl rfl rfl (hb hby d39_16) ⟨N2, K2, b2_o0, gg2_o0, sy2_o0, ko0_2, rfl, G3⟩

theorem own_pd23 : parseMethodDescriptor "()[B" = some ⟨[], some (.array .byte)⟩ := by decide +kernel
abbrev b40_ : ByteArray := jdk_42_method_150_code
theorem d40_0 : decode b40_ 0 = .ok (.aload_n 0, 1) := by decide +kernel
theorem d40_1 : decode b40_ 1 = .ok (.invokespecial 1, 3) := by decide +kernel
theorem d40_4 : decode b40_ 4 = .ok (.aload_n 1, 1) := by decide +kernel
theorem d40_5 : decode b40_ 5 = .ok (.invokevirtual 552, 3) := by decide +kernel
theorem d40_8 : decode b40_ 8 = .ok (.astore_n 3, 1) := by decide +kernel
theorem d40_9 : decode b40_ 9 = .ok (.aload_n 1, 1) := by decide +kernel
theorem d40_10 : decode b40_ 10 = .ok (.invokevirtual 549, 3) := by decide +kernel
theorem d40_13 : decode b40_ 13 = .ok (.istore 4, 2) := by decide +kernel
theorem d40_15 : decode b40_ 15 = .ok (.aload_n 1, 1) := by decide +kernel
theorem d40_16 : decode b40_ 16 = .ok (.invokevirtual 1047, 3) := by decide +kernel
theorem d40_19 : decode b40_ 19 = .ok (.ifCond .eq 22, 3) := by decide +kernel
theorem d40_22 : decode b40_ 22 = .ok (.aload_n 0, 1) := by decide +kernel
theorem d40_23 : decode b40_ 23 = .ok (.iconst 0, 1) := by decide +kernel
theorem d40_24 : decode b40_ 24 = .ok (.putfield 15, 3) := by decide +kernel
theorem d40_27 : decode b40_ 27 = .ok (.aload_n 0, 1) := by decide +kernel
theorem d40_28 : decode b40_ 28 = .ok (.aload_n 3, 1) := by decide +kernel
theorem d40_29 : decode b40_ 29 = .ok (.iconst 0, 1) := by decide +kernel
theorem d40_30 : decode b40_ 30 = .ok (.iload 4, 2) := by decide +kernel
theorem d40_32 : decode b40_ 32 = .ok (.invokestatic 54, 3) := by decide +kernel
theorem d40_35 : decode b40_ 35 = .ok (.putfield 9, 3) := by decide +kernel
theorem d40_38 : decode b40_ 38 = .ok (.goto 59, 3) := by decide +kernel
theorem d40_97 : decode b40_ 97 = .ok (.return_, 1) := by decide +kernel
abbrev own_y40 : MethodName := (⟨"java/lang/String", "<init>", "(Ljava/lang/AbstractStringBuilder;Ljava/lang/Void;)V"⟩ : MethodName)
abbrev own_Q50 (Z : State) (ad0 : Addr) (zbn : Int32) (zbf : List Value) (h0 : Heap) (n0 : Nat) (v : Option Value) (h : Heap) (L : List Loc) : Prop := Fr n0 L ∧ Keep h0 h [ad0] ∧ ∃ o0 : Addr, n0 ≤ o0 ∧ h0.size ≤ o0 ∧ ∃ (ko0 : ClassId), v = none ∧ Exa Z h ad0 cN0 ∧ Fld Z h ad0 cN0 "coder" "B" J0 ∧ Fld Z h ad0 cN0 "value" "[B" (.ref o0) ∧ Arv Z h o0 ko0 .byte zbn (own_cat [J0, J0, J0, J0] zbf (0 : Int32) zbn) J0
theorem own_rm50 {l : Launch} {Z : State} {a0 : Array Value} (hw : own_HW Z a0) (hs : own_HS Z a0) (ad0 ad1 : Addr) (zcj zce : Value) (zbc : Addr) (zbn : Int32) (zdu : Value) (zcb : ClassId) (zbf : List Value) (zaa : Int32) (h0 : Heap) (n0 : Nat) (Z0 : n0 ≤ h0.size) (zad : Exa Z h0 ad0 cN0) (zal : Fld Z h0 ad0 cN0 "value" "[B" zcj) (zak : Fld Z h0 ad0 cN0 "coder" "B" zce) (hB3 : own_U Z h0 ad1 zbc zcb (.int zbn) zdu zbf) (zac : Sta Z h0 cN0 "COMPACT_STRINGS" "Z" (.int zaa)) (hc3_16 : ¬ (zaa = (0 : Int32))) (zas : n0 ≤ ad0) (hc7_32 : ¬ (zbn = (16 : Int32))) (hc2_2_13_32 : ¬ (zbn < (0 : Int32))) (hcp_10_13_32 : zbn.toNatClampNeg ≤ 4) (h16_24_13_32 : zbn < (16 : Int32)) (hsp_27_13_32 : (0 : Int32).toNatClampNeg + zbn.toNatClampNeg ≤ (16 : Int32).toNatClampNeg) (hle_27_13_32 : (0 : Int32).toNatClampNeg + zbn.toNatClampNeg ≤ [J0, J0, J0, J0].length) :
    own_Met l own_y40 jdk_42_method_150_code 5 none [] (oR 3 1 4 49) #[(.ref ad0), (.ref ad1), .null] Z h0 (own_Q50 Z ad0 zbn zbf h0 n0) := by
  refine own_body (plainFor_of_name own_pn0) (own := "java/lang/String") rfl (L0 := #[rv ad0, rv ad1, .val .null, .unset, .unset]) fun p e s m below meth c s₁ hx hby hlk hml hown hnm X0 hZ e0 hh hret => ?_
  obtain ⟨zbe, zcg, zcd, zdq, zdv, zbx⟩ := hB3
  have N0 := Fr.nil n0
  have KR : Keep h0 h0 [ad0] := Keep.refl _ _
  refine xaloadN X0 hx (hb hby d40_0) rfl rfl rfl ?_
  obtain ⟨T1, X1, e1, st1⟩ := initO X0 hx hZ hown (w_ hw 19 rfl) (w_ hw 20 rfl) (w_ hw 21 rfl) e0 (g := (mkF m 1 #[rv ad0, rv ad1, .val .null, .unset, .unset] [(.ref ad0)])) rfl (by rw [hml]; rfl) rfl (hb hby d40_1) (by decide) (W := 0) (by show 2 * 0 + _ ≤ _; exact Nat.le_of_eq rfl) (by decide)
  refine oS st1 ?_
  refine xaloadN X1 hx (hb hby d40_4) rfl rfl rfl ?_
  refine oV X1 hx hZ hown hml (w_ hw 198 rfl) (w_ hw 199 rfl) (w_ hw 201 rfl) (w_ hw 200 rfl) (own_rm46 hw hs ad1 zbc h0 n0 Z0 zcg) (w_ hw 202 rfl) (w_ hw 73 rfl) e1 zbe [] [] 0 (lenOf own_pd23 rfl) rfl (hb hby d40_5) rfl rfl rfl fun T2 L2 v2 X2 hQ2 => ?_
  obtain ⟨rfl, N2q, e2⟩ := hQ2
  have N2 := Fr.app N0 N2q
  refine xastoreN X2 hx (hb hby d40_8) rfl rfl (l' := #[rv ad0, rv ad1, .val .null, rv zbc, .unset]) rfl rfl ?_
  refine xaloadN X2 hx (hb hby d40_9) rfl rfl rfl ?_
  obtain ⟨cq3, kq3, q3a, q3b, q3c⟩ := isOf hZ e2 zbe
  obtain ⟨T3, L3, v3, X3, hQ3, st3⟩ := own_un X2 <| X2.virtualBack hx (y := own_y34) (z := own_y35) hown (mvT hZ (w_ hw 203 rfl)) (mvT hZ (w_ hw 204 rfl)) (own_nf (a0 := #[]) (mvT hZ (w_ hw 94 rfl)) rfl) (mvT hZ (w_ hw 206 rfl)) (mvT hZ (w_ hw 207 rfl)) (by decide) (backOf (W := 0) (own_rm45 hw hs ad1 zbn h0 n0 Z0 zbe zdq) hZ (w_ hw 208 rfl) (w_ hw 65 rfl) (by decide) (by decide)) q3a q3c (g := (mkF m 10 #[rv ad0, rv ad1, .val .null, rv zbc, .unset] [(.ref ad1)])) rfl (by rw [hml]; rfl) (Steps.refl _) (argsL := []) (rest := []) (lenOf own_pd18 rfl) rfl (by show 2 * 0 + _ ≤ _; exact Nat.le_of_eq rfl) (hb hby d40_10) (fun _ _ => ⟨rfl, e2, (by decide : 0 + 0 ≤ _), (by decide : 0 + 0 ≤ _)⟩)
  obtain ⟨rfl, N3q, e3⟩ := hQ3
  have N3 := Fr.app N2 N3q
  refine oS (fun _ k => st3.trans k) ?_
  refine xistore X3 hx (hb hby d40_13) rfl (l' := #[rv ad0, rv ad1, .val .null, rv zbc, iv zbn]) rfl rfl ?_
  show oF p e below s _ _ _ (T3.setTop (mkF m 15 #[rv ad0, rv ad1, .val .null, rv zbc, iv zbn] []))
  refine xaloadN X3 hx (hb hby d40_15) rfl rfl rfl ?_
  refine oV X3 hx hZ hown hml (w_ hw 211 rfl) (w_ hw 148 rfl) (w_ hw 150 rfl) (w_ hw 149 rfl) (own_rm41 hw hs ad1 zaa h0 n0 Z0 zac hc3_16 zcd) (w_ hw 151 rfl) (w_ hw 73 rfl) e3 zbe [] [] 0 (lenOf own_pd3 rfl) rfl (hb hby d40_16) rfl rfl rfl fun T4 L4 v4 X4 hQ4 => ?_
  obtain ⟨rfl, N4q, e4⟩ := hQ4
  have N4 := Fr.app N3 N4q
  refine xifNo X4 hx (hb hby d40_19) rfl ((if0 _ _).trans (feq (by decide : ¬ ((1 : Int32) = (0 : Int32)))).1) rfl ?_
  refine xaloadN X4 hx (hb hby d40_22) rfl rfl rfl ?_
  refine xiconst X4 hx (hb hby d40_23) rfl ?_
  obtain ⟨T5, h5, X5, e5, W5, st5⟩ := putFN X4 hx hZ hown (w_ hw 29 rfl) Via.refl e4 zak zad (Or.inr ⟨(w_ hw 25 rfl), rfl, hnm⟩) (w_ hw 9 rfl) (ty := .byte) (v' := J0) (by decide) rfl (rfl) (g := (mkF m 24 #[rv ad0, rv ad1, .val .null, rv zbc, iv zbn] [J0, (.ref ad0)])) rfl rfl (hb hby d40_24)
  have N5 := Fr.snoc X5 N4 zas
  have K5 : Keep h0 h5 [ad0] := KR.wr W5 (Or.inl (List.mem_of_getElem? (i := 0) rfl))
  have Z5 : n0 ≤ h5.size := Nat.le_trans Z0 (Keep.of_wr W5).1
  obtain ⟨G6, G7, G8, G9, G10⟩ := own_o4 W5 (Exa.ne zbe zad (by decide)) zbe zcg zcd zdq zdv
  have G11 := (zad.wr W5)
  have G12 := (zal.other W5 (Or.inr (sn1 hw)))
  have G13 := (zbx.other W5 (Ne.symm (Exa.neArv zad zbx (w_ hw 9 rfl))))
  have G14 := (zac.wr W5)
  have G15 := zak.same W5
  refine oS st5 ?_
  refine xaloadN X5 hx (hb hby d40_27) rfl rfl rfl ?_
  refine xaloadN X5 hx (hb hby d40_28) rfl rfl rfl ?_
  refine xiconst X5 hx (hb hby d40_29) rfl ?_
  show oF p e below s _ _ _ (T5.setTop (mkF m 30 #[rv ad0, rv ad1, .val .null, rv zbc, iv zbn] [J0, (.ref zbc), (.ref ad0)]))
  refine xiload X5 hx (hb hby d40_30) rfl rfl ?_
  refine oC X5 hx hZ hown hml (w_ hw 212 rfl) (w_ hw 213 rfl) (own_rm49 hw hs zbc zbn zcb zbf h5 n0 Z5 G13 hc7_32 hc2_2_13_32 hcp_10_13_32 h16_24_13_32 hsp_27_13_32 hle_27_13_32) (w_ hw 215 rfl) (w_ hw 214 rfl) e5 [(.ref zbc), J0, (.int zbn)] [(.ref ad0)] 1 (lenOf own_pd22 rfl) rfl (hb hby d40_32) rfl rfl rfl fun T16 L16 v16 X16 hQ16 => ?_
  obtain ⟨N16q, K16q, b16_o0, gg16_o0, sz16_o0, ko0_16, rfl, G17⟩ := hQ16
  have N16 := Fr.app N5 N16q
  have ne16_o0_wvalue_ad1 : zbc ≠ b16_o0 := Nat.ne_of_lt (Nat.lt_of_lt_of_le G13.lt sz16_o0)
  have K16 := K5.trans K16q own_a0
  have Z16 := Nat.le_trans Z5 K16q.1
  have sy16_o0 : h0.size ≤ b16_o0 := Nat.le_trans K5.1 sz16_o0
  obtain ⟨G18, G19, G20, G21, G22⟩ := own_k4 K16q nin0 G6 G7 G8 G9 G10
  obtain ⟨G23, G24, G25⟩ := own_k2 K16q nin0 G11 G12 G15
  have G26 := (G13.keep K16q nin0)
  have G27 := (own_sta_keep0 G14 K16q)
  obtain ⟨T28, h28, X28, e28, W28, st28⟩ := putF X16 hx hZ hown (host := "") (Or.inl (w_ hw 28 rfl)) Via.refl rfl G24 G23 (Or.inr ⟨(w_ hw 24 rfl), rfl, hnm⟩) (w_ hw 9 rfl) (ty := (.array .byte)) (by decide) rfl rfl (g := (mkF m 35 #[rv ad0, rv ad1, .val .null, rv zbc, iv zbn] [(.ref b16_o0), (.ref ad0)])) rfl rfl (hb hby d40_35)
  have N28 := Fr.snoc X28 N16 zas
  have K28 : Keep h0 h28 [ad0] := K16.wr W28 (Or.inl (List.mem_of_getElem? (i := 0) rfl))
  have Z28 : n0 ≤ h28.size := Nat.le_trans Z16 (Keep.of_wr W28).1
  obtain ⟨G29, G30, G31, G32, G33⟩ := own_o4 W28 (Exa.ne G18 G23 (by decide)) G18 G19 G20 G21 G22
  have G34 := (G23.wr W28)
  have G35 := (G25.other W28 (Or.inr (sn0 hw)))
  have G36 := (G26.other W28 (Ne.symm (Exa.neArv G23 G26 (w_ hw 9 rfl))))
  have G37 := (G27.wr W28)
  have G38 := (G17.other W28 (Ne.symm (Exa.neArv G23 G17 (w_ hw 9 rfl))))
  have G39 := G24.same W28
  refine oS st28 ?_
  refine xgoto X28 hx 38 97 rfl (hb hby d40_38) rfl ?_
  exact oRV X28 hx hlk hret (hb hby d40_97) (by rw [e28]; exact ⟨N28, K28, b16_o0, gg16_o0, sy16_o0, ko0_16, rfl, G34, G35, G39, G38⟩)

theorem own_pd24 : parseMethodDescriptor "(Ljava/lang/AbstractStringBuilder;Ljava/lang/Void;)V" = some ⟨[(.object "java/lang/AbstractStringBuilder"), (.object "java/lang/Void")], none⟩ := by decide +kernel
abbrev b41_ : ByteArray := jdk_42_method_53_code
theorem d41_0 : decode b41_ 0 = .ok (.aload_n 0, 1) := by decide +kernel
theorem d41_1 : decode b41_ 1 = .ok (.aload_n 1, 1) := by decide +kernel
theorem d41_2 : decode b41_ 2 = .ok (.aconst_null, 1) := by decide +kernel
theorem d41_3 : decode b41_ 3 = .ok (.invokespecial 489, 3) := by decide +kernel
theorem d41_6 : decode b41_ 6 = .ok (.return_, 1) := by decide +kernel
abbrev own_y41 : MethodName := (⟨"java/lang/String", "<init>", "(Ljava/lang/StringBuilder;)V"⟩ : MethodName)
abbrev own_Q51 (Z : State) (ad0 : Addr) (zbn : Int32) (zbf : List Value) (h0 : Heap) (n0 : Nat) (v : Option Value) (h : Heap) (L : List Loc) : Prop := Fr n0 L ∧ Keep h0 h [ad0] ∧ ∃ o0 : Addr, n0 ≤ o0 ∧ h0.size ≤ o0 ∧ ∃ (ko0 : ClassId), v = none ∧ Exa Z h ad0 cN0 ∧ Fld Z h ad0 cN0 "coder" "B" J0 ∧ Fld Z h ad0 cN0 "value" "[B" (.ref o0) ∧ Arv Z h o0 ko0 .byte zbn (own_cat [J0, J0, J0, J0] zbf (0 : Int32) zbn) J0
theorem own_rm51 {l : Launch} {Z : State} {a0 : Array Value} (hw : own_HW Z a0) (hs : own_HS Z a0) (ad0 ad1 : Addr) (zcj zce : Value) (zbc : Addr) (zbn : Int32) (zdu : Value) (zcb : ClassId) (zbf : List Value) (zaa : Int32) (h0 : Heap) (n0 : Nat) (Z0 : n0 ≤ h0.size) (zad : Exa Z h0 ad0 cN0) (zal : Fld Z h0 ad0 cN0 "value" "[B" zcj) (zak : Fld Z h0 ad0 cN0 "coder" "B" zce) (hB3 : own_U Z h0 ad1 zbc zcb (.int zbn) zdu zbf) (zac : Sta Z h0 cN0 "COMPACT_STRINGS" "Z" (.int zaa)) (hc3_16_3 : ¬ (zaa = (0 : Int32))) (zas : n0 ≤ ad0) (hc7_32_3 : ¬ (zbn = (16 : Int32))) (hc2_2_13_32_3 : ¬ (zbn < (0 : Int32))) (hcp_10_13_32_3 : zbn.toNatClampNeg ≤ 4) (h16_24_13_32_3 : zbn < (16 : Int32)) (hsp_27_13_32_3 : (0 : Int32).toNatClampNeg + zbn.toNatClampNeg ≤ (16 : Int32).toNatClampNeg) (hle_27_13_32_3 : (0 : Int32).toNatClampNeg + zbn.toNatClampNeg ≤ [J0, J0, J0, J0].length) :
    own_Met l own_y41 jdk_42_method_53_code 2 none [] (oR 4 1 4 65) #[(.ref ad0), (.ref ad1)] Z h0 (own_Q51 Z ad0 zbn zbf h0 n0) := by
  refine own_body (plainFor_of_name own_pn0) (own := "java/lang/String") rfl (L0 := #[rv ad0, rv ad1]) fun p e s m below meth c s₁ hx hby hlk hml hown hnm X0 hZ e0 hh hret => ?_
  obtain ⟨zbe, zcg, zcd, zdq, zdv, zbx⟩ := hB3
  have N0 := Fr.nil n0
  have KR : Keep h0 h0 [ad0] := Keep.refl _ _
  refine xaloadN X0 hx (hb hby d41_0) rfl rfl rfl ?_
  refine xaloadN X0 hx (hb hby d41_1) rfl rfl rfl ?_
  refine oS (fun _ k => XS.aconstNull X0.here hx rfl (hb hby d41_2) k) ?_
  refine oI X0 hx hZ hown hml (w_ hw 195 rfl) (w_ hw 196 rfl) (own_rm50 hw hs ad0 ad1 zcj zce zbc zbn zdu zcb zbf zaa h0 n0 Z0 zad zal zak ⟨zbe, zcg, zcd, zdq, zdv, zbx⟩ zac hc3_16_3 zas hc7_32_3 hc2_2_13_32_3 hcp_10_13_32_3 h16_24_13_32_3 hsp_27_13_32_3 hle_27_13_32_3) (w_ hw 197 rfl) (w_ hw 10 rfl) e0 [(.ref ad1), .null] [] 0 (lenOf own_pd24 rfl) rfl (hb hby d41_3) rfl rfl rfl fun T1 L1 v1 X1 hQ1 => ?_
  obtain ⟨N1q, K1q, b1_o0, gg1_o0, sz1_o0, ko0_1, rfl, G2, G3, G4, G5⟩ := hQ1
  have N1 := Fr.app N0 N1q
  have ne1_o0_wvalue_ad1 : zbc ≠ b1_o0 := Nat.ne_of_lt (Nat.lt_of_lt_of_le zbx.lt sz1_o0)
  have K1 := KR.trans K1q (own_aW 0 rfl own_a0)
  have Z1 := Nat.le_trans Z0 K1q.1
  have sy1_o0 : h0.size ≤ b1_o0 := Nat.le_trans KR.1 sz1_o0
  obtain ⟨G6, G7, G8, G9, G10⟩ := own_k4 K1q (ninS (Exa.ne zbe zad (by decide)) nin0) zbe zcg zcd zdq zdv
  have G11 := (zad.keep K1q)
  have G12 := (zbx.keep K1q (ninS (Ne.symm (Exa.neArv zad zbx (w_ hw 9 rfl))) nin0))
  have G13 := (own_sta_keep zac K1q (own_nS (own_nst_exa zad) own_n0))
  exact oRV X1 hx hlk hret (hb hby d41_6) ⟨N1, K1, b1_o0, gg1_o0, sy1_o0, ko0_1, rfl, G2, G3, G4, G5⟩

theorem own_pd25 : parseMethodDescriptor "(Ljava/lang/StringBuilder;)V" = some ⟨[(.object "java/lang/StringBuilder")], none⟩ := by decide +kernel
abbrev b42_ : ByteArray := jdk_67_method_42_code
theorem d42_0 : decode b42_ 0 = .ok (.new 18, 3) := by decide +kernel
theorem d42_3 : decode b42_ 3 = .ok (.dup, 1) := by decide +kernel
theorem d42_4 : decode b42_ 4 = .ok (.aload_n 0, 1) := by decide +kernel
theorem d42_5 : decode b42_ 5 = .ok (.invokespecial 137, 3) := by decide +kernel
theorem d42_8 : decode b42_ 8 = .ok (.areturn, 1) := by decide +kernel
abbrev own_y42 : MethodName := (⟨"java/lang/StringBuilder", "toString", "()Ljava/lang/String;"⟩ : MethodName)
abbrev own_Q52 (Z : State) (zah : Int32) (zao : List Value) (h0 : Heap) (n0 : Nat) (v : Option Value) (h : Heap) (L : List Loc) : Prop := Fr n0 L ∧ Keep h0 h [] ∧ ∃ o0 : Addr, n0 ≤ o0 ∧ h0.size ≤ o0 ∧ ∃ o1 : Addr, n0 ≤ o1 ∧ h0.size ≤ o1 ∧ ∃ (ko0 : ClassId), v = some (.ref o0) ∧ Exa Z h o0 cN0 ∧ Fld Z h o0 cN0 "coder" "B" J0 ∧ Fld Z h o0 cN0 "value" "[B" (.ref o1) ∧ Arv Z h o1 ko0 .byte zah (own_cat [J0, J0, J0, J0] zao (0 : Int32) zah) J0
theorem own_rm52 {l : Launch} {Z : State} {a0 : Array Value} (hw : own_HW Z a0) (hs : own_HS Z a0) (ad0 zae : Addr) (zah : Int32) (zav : Value) (zaj : ClassId) (zao : List Value) (zaa : Int32) (h0 : Heap) (n0 : Nat) (Z0 : n0 ≤ h0.size) (hB0 : own_U Z h0 ad0 zae zaj (.int zah) zav zao) (zac : Sta Z h0 cN0 "COMPACT_STRINGS" "Z" (.int zaa)) (hc3_16_3_5 : ¬ (zaa = (0 : Int32))) (hc7_32_3_5 : ¬ (zah = (16 : Int32))) (hc2_2_13_32_3_5 : ¬ (zah < (0 : Int32))) (hcp_10_13_32_3_5 : zah.toNatClampNeg ≤ 4) (h16_24_13_32_3_5 : zah < (16 : Int32)) (hsp_27_13_32_3_5 : (0 : Int32).toNatClampNeg + zah.toNatClampNeg ≤ (16 : Int32).toNatClampNeg) (hle_27_13_32_3_5 : (0 : Int32).toNatClampNeg + zah.toNatClampNeg ≤ [J0, J0, J0, J0].length) :
    own_Met l own_y42 jdk_67_method_42_code 1 (some (.object cN0)) [] (oR 5 2 8 79) #[(.ref ad0)] Z h0 (own_Q52 Z zah zao h0 n0) := by
  refine own_body (plainFor_of_name own_pn7) (own := "java/lang/StringBuilder") rfl (L0 := #[rv ad0]) fun p e s m below meth c s₁ hx hby hlk hml hown hnm X0 hZ e0 hh hret => ?_
  obtain ⟨zad, zal, zak, zbg, zby, zam⟩ := hB0
  have N0 := Fr.nil n0
  have KR : Keep h0 h0 [] := Keep.refl _ _
  obtain ⟨T1, h1, X1, e1, E1, A1, D1, -, st1⟩ := newO X0 hx hZ hown (w_ hw 191 rfl) (w_ hw 9 rfl) (w_ hw 10 rfl) e0 (g := (mkF m 0 #[rv ad0] [])) rfl (hb hby d42_0) (by decide) (by decide)
  obtain ⟨b1, g1⟩ : ∃ z, z = h0.size := ⟨_, rfl⟩
  rw [← g1] at A1 D1 st1
  have gg1 : n0 ≤ b1 := Nat.le_trans Z0 (Nat.le_of_eq g1.symm)
  have sz1 : h0.size ≤ b1 := Nat.le_trans KR.1 (Nat.le_of_eq g1.symm)
  have K1 : Keep h0 h1 [] := KR.ext E1
  have Z1 : n0 ≤ h1.size := Nat.le_trans Z0 E1.1
  obtain ⟨G2, G3, G4, G5, G6⟩ := own_e4 E1 zad zal zak zbg zby
  have G7 := (zam.ext E1)
  have G8 := (zac.ext E1)
  have G9 : Fld Z h1 b1 cN0 "value" "[B" .null := D1 (Or.inr (w_ hw 24 rfl)) (ty := (.array .byte)) (by decide)
  have G10 : Fld Z h1 b1 cN0 "coder" "B" J0 := D1 (Or.inr (w_ hw 25 rfl)) (ty := .byte) (by decide)
  refine oS st1 ?_
  refine xdup X1 hx (hb hby d42_3) rfl rfl rfl ?_
  refine xaloadN X1 hx (hb hby d42_4) rfl rfl rfl ?_
  refine oI X1 hx hZ hown hml (w_ hw 192 rfl) (w_ hw 193 rfl) (own_rm51 hw hs b1 ad0 .null (J0) zae zah zav zaj zao zaa h1 n0 Z1 A1 G9 G10 ⟨G2, G3, G4, G5, G6, G7⟩ G8 hc3_16_3_5 gg1 hc7_32_3_5 hc2_2_13_32_3_5 hcp_10_13_32_3_5 h16_24_13_32_3_5 hsp_27_13_32_3_5 hle_27_13_32_3_5) (w_ hw 194 rfl) (w_ hw 10 rfl) e1 [(.ref ad0)] [(.ref b1)] 1 (lenOf own_pd25 rfl) rfl (hb hby d42_5) rfl rfl rfl fun T11 L11 v11 X11 hQ11 => ?_
  obtain ⟨N11q, K11q, b11_o0, gg11_o0, sz11_o0, ko0_11, rfl, G12, G13, G14, G15⟩ := hQ11
  have N11 := Fr.app N0 N11q
  have ne11_o0_wvalue_ad0 : zae ≠ b11_o0 := Nat.ne_of_lt (Nat.lt_of_lt_of_le G7.lt sz11_o0)
  have K11 := K1.trans K11q (own_aB sz1 own_a0)
  have Z11 := Nat.le_trans Z1 K11q.1
  have sy11_o0 : h0.size ≤ b11_o0 := Nat.le_trans K1.1 sz11_o0
  obtain ⟨G16, G17, G18, G19, G20⟩ := own_k4 K11q (ninS (Exa.ne G2 A1 (by decide)) nin0) G2 G3 G4 G5 G6
  have G21 := (G7.keep K11q (ninS (Ne.symm (Exa.neArv A1 G7 (w_ hw 9 rfl))) nin0))
  have G22 := (own_sta_keep G8 K11q (own_nS (own_nst_exa A1) own_n0))
  have G23 := (A1.keep K11q)
  exact oRA X11 hx hlk hret rfl rfl rfl (hb hby d42_8) ⟨N11, K11, b1, gg1, sz1, b11_o0, gg11_o0, sy11_o0, ko0_11, rfl, G12, G13, G14, G15⟩

theorem own_pd26 : parseMethodDescriptor "()V" = some ⟨[], none⟩ := by decide +kernel
theorem sn18 {Z : State} {a0 : Array Value} (hw : ∀ d ∈ tables_1, d.before a0 Z = true) : Jvm.RoadKit.slotOf Z cN3 "joined" "Z" ≠ Jvm.RoadKit.slotOf Z cN3 "pieces" "Ljava/lang/StringBuilder;" := slot_ne (C := cN3) (Or.inl (w_ hw 46 rfl)) (Or.inl (w_ hw 62 rfl)) (by decide) (t := .boolean) (t' := (.object cN1)) (by decide) (by decide)
theorem sn19 {Z : State} {a0 : Array Value} (hw : ∀ d ∈ tables_1, d.before a0 Z = true) : Jvm.RoadKit.slotOf Z cN3 "piece" "Ljava/lang/String;" ≠ Jvm.RoadKit.slotOf Z cN3 "pieces" "Ljava/lang/StringBuilder;" := slot_ne (C := cN3) (Or.inl (w_ hw 39 rfl)) (Or.inl (w_ hw 62 rfl)) (by decide) (t := (.object cN0)) (t' := (.object cN1)) (by decide) (by decide)
theorem own_pd27 : parseMethodDescriptor "(Ljava/lang/String;)Ljava/lang/StringBuilder;" = some ⟨[(.object "java/lang/String")], some (.object "java/lang/StringBuilder")⟩ := by decide +kernel
abbrev b43_ : ByteArray := prog_12_method_7_code
theorem d43_0 : decode b43_ 0 = .ok (.aload_n 0, 1) := by decide +kernel
theorem d43_1 : decode b43_ 1 = .ok (.getfield 19, 3) := by decide +kernel
theorem d43_4 : decode b43_ 4 = .ok (.ifnonnull 14, 3) := by decide +kernel
theorem d43_7 : decode b43_ 7 = .ok (.aload_n 0, 1) := by decide +kernel
theorem d43_8 : decode b43_ 8 = .ok (.new 24, 3) := by decide +kernel
theorem d43_11 : decode b43_ 11 = .ok (.dup, 1) := by decide +kernel
theorem d43_12 : decode b43_ 12 = .ok (.invokespecial 51, 3) := by decide +kernel
theorem d43_15 : decode b43_ 15 = .ok (.putfield 19, 3) := by decide +kernel
theorem d43_18 : decode b43_ 18 = .ok (.aload_n 0, 1) := by decide +kernel
theorem d43_19 : decode b43_ 19 = .ok (.getfield 19, 3) := by decide +kernel
theorem d43_22 : decode b43_ 22 = .ok (.iconst 0, 1) := by decide +kernel
theorem d43_23 : decode b43_ 23 = .ok (.invokevirtual 52, 3) := by decide +kernel
theorem d43_26 : decode b43_ 26 = .ok (.aload_n 0, 1) := by decide +kernel
theorem d43_27 : decode b43_ 27 = .ok (.iconst 1, 1) := by decide +kernel
theorem d43_28 : decode b43_ 28 = .ok (.putfield 15, 3) := by decide +kernel
theorem d43_31 : decode b43_ 31 = .ok (.aload_n 0, 1) := by decide +kernel
theorem d43_32 : decode b43_ 32 = .ok (.getfield 19, 3) := by decide +kernel
theorem d43_35 : decode b43_ 35 = .ok (.aload_n 0, 1) := by decide +kernel
theorem d43_36 : decode b43_ 36 = .ok (.getfield 9, 3) := by decide +kernel
theorem d43_39 : decode b43_ 39 = .ok (.invokevirtual 23, 3) := by decide +kernel
theorem d43_42 : decode b43_ 42 = .ok (.areturn, 1) := by decide +kernel
abbrev own_y43 : MethodName := (⟨"com/example/nearfield/nearfield/JoinedText", "join", "()Ljava/lang/StringBuilder;"⟩ : MethodName)
abbrev own_Q53 (Z : State) (ad0 zap : Addr) (zau : List Value) (zag : Int32) (h0 : Heap) (n0 : Nat) (v : Option Value) (h : Heap) (L : List Loc) : Prop := Fr n0 L ∧ Keep h0 h [ad0] ∧ ∃ o0 : Addr, n0 ≤ o0 ∧ h0.size ≤ o0 ∧ ∃ o1 : Addr, n0 ≤ o1 ∧ h0.size ≤ o1 ∧ ∃ (ko0 : ClassId) (uo0 : Value), v = some (.ref o0) ∧ Exa Z h ad0 cN3 ∧ Fld Z h ad0 cN3 "piece" "Ljava/lang/String;" (.ref zap) ∧ Fld Z h ad0 cN3 "pieces" "Ljava/lang/StringBuilder;" (.ref o0) ∧ Fld Z h ad0 cN3 "joined" "Z" J1 ∧ Exa Z h o0 cN1 ∧ Fld Z h o0 cN2 "value" "[B" (.ref o1) ∧ Fld Z h o0 cN2 "coder" "B" J0 ∧ Fld Z h o0 cN2 "maybeLatin1" "Z" uo0 ∧ Fld Z h o0 cN2 "count" "I" (.int ((0 : Int32) + zag)) ∧ Arv Z h o1 ko0 .byte (16 : Int32) (own_cat [J0, J0, J0, J0] zau (0 : Int32) zag) J0
theorem own_rm53 {l : Launch} {Z : State} {a0 : Array Value} (hw : own_HW Z a0) (hs : own_HS Z a0) (ad0 zap zbh : Addr) (zbs : ClassId) (zau : List Value) (zag zaa : Int32) (h0 : Heap) (n0 : Nat) (Z0 : n0 ≤ h0.size) (zad : Exa Z h0 ad0 cN3) (zbj : Fld Z h0 ad0 cN3 "joined" "Z" J0) (zbq : Fld Z h0 ad0 cN3 "piece" "Ljava/lang/String;" (.ref zap)) (hB3 : own_T Z h0 zap zbh zbs zag  zau) (zbw : Fld Z h0 ad0 cN3 "pieces" "Ljava/lang/StringBuilder;" .null) (zac : Sta Z h0 cN0 "COMPACT_STRINGS" "Z" (.int zaa)) (hc7_3_12 : ¬ (zaa = (0 : Int32))) (zas : n0 ≤ ad0) (zdx : ¬ ((0 : Int32) < (((0 : Int32) + zag) - (16 : Int32)))) (zdy : ¬ (zag < (0 : Int32))) (zdz : (0 : Int32).toNatClampNeg + zag.toNatClampNeg ≤ (16 : Int32).toNatClampNeg) (zea : (0 : Int32).toNatClampNeg + zag.toNatClampNeg ≤ [J0, J0, J0, J0].length) :
    own_Met l own_y43 prog_12_method_7_code 1 (some (.object cN1)) [] (oR 5 2 20 74) #[(.ref ad0)] Z h0 (own_Q53 Z ad0 zap zau zag h0 n0) := by
  refine own_body (plainFor_of_name own_pn5) (own := "com/example/nearfield/nearfield/JoinedText") rfl (L0 := #[rv ad0]) fun p e s m below meth c s₁ hx hby hlk hml hown hnm X0 hZ e0 hh hret => ?_
  obtain ⟨zbd, zbz, zca, zbi⟩ := hB3
  have N0 := Fr.nil n0
  have KR : Keep h0 h0 [ad0] := Keep.refl _ _
  refine xaloadN X0 hx (hb hby d43_0) rfl rfl rfl ?_
  refine oG X0 hx hZ hown (w_ hw 61 rfl) e0 zbw (hb hby d43_1) rfl rfl fun T1 X1 e1 => ?_
  refine oS (fun _ k => XS.ifnonnullNo X1.here hx rfl (hb hby d43_4) rfl k) ?_
  refine xaloadN X1 hx (hb hby d43_7) rfl rfl rfl ?_
  obtain ⟨T2, h2, X2, e2, E2, A2, D2, -, st2⟩ := newO X1 hx hZ hown (w_ hw 63 rfl) (w_ hw 64 rfl) (w_ hw 65 rfl) e1 (g := (mkF m 8 #[rv ad0] [(.ref ad0)])) rfl (hb hby d43_8) (by decide) (by decide)
  obtain ⟨b2, g2⟩ : ∃ z, z = h0.size := ⟨_, rfl⟩
  rw [← g2] at A2 D2 st2
  have gg2 : n0 ≤ b2 := Nat.le_trans Z0 (Nat.le_of_eq g2.symm)
  have sz2 : h0.size ≤ b2 := Nat.le_trans KR.1 (Nat.le_of_eq g2.symm)
  have K2 : Keep h0 h2 [ad0] := KR.ext E2
  have Z2 : n0 ≤ h2.size := Nat.le_trans Z0 E2.1
  obtain ⟨G3, G4, G5, G6⟩ := own_e3 E2 zad zbj zbq zbw
  obtain ⟨G7, G8, G9⟩ := own_e2 E2 zbd zbz zca
  have G10 := (zbi.ext E2)
  have G11 := (zac.ext E2)
  have G12 : Fld Z h2 b2 cN2 "value" "[B" .null := D2 (Or.inl (w_ hw 78 rfl)) (ty := (.array .byte)) (by decide)
  have G13 : Fld Z h2 b2 cN2 "coder" "B" J0 := D2 (Or.inl (w_ hw 80 rfl)) (ty := .byte) (by decide)
  have G14 : Fld Z h2 b2 cN2 "count" "I" J0 := D2 (Or.inl (w_ hw 97 rfl)) (ty := .int) (by decide)
  have G15 : Fld Z h2 b2 cN2 "maybeLatin1" "Z" J0 := D2 (Or.inl (w_ hw 174 rfl)) (ty := .boolean) (by decide)
  refine oS st2 ?_
  refine xdup X2 hx (hb hby d43_11) rfl rfl rfl ?_
  refine oI X2 hx hZ hown hml (w_ hw 66 rfl) (w_ hw 67 rfl) (own_rm32 hw hs b2 .null (J0) (J0) (J0) zaa h2 n0 Z2 A2 G12 G13 G14 G15 G11 hc7_3_12 gg2) (w_ hw 68 rfl) (w_ hw 65 rfl) e2 [] [(.ref b2), (.ref ad0)] 2 (lenOf own_pd26 rfl) rfl (hb hby d43_12) rfl rfl rfl fun T16 L16 v16 X16 hQ16 => ?_
  obtain ⟨N16q, K16q, b16_o0, gg16_o0, sz16_o0, ko0_16, rfl, G17, G18, G19, G20, G21, G22⟩ := hQ16
  have N16 := Fr.app N0 N16q
  have ne16_o0_wvalue_wpiece_ad0 : zbh ≠ b16_o0 := Nat.ne_of_lt (Nat.lt_of_lt_of_le G10.lt sz16_o0)
  have K16 := K2.trans K16q (own_aB sz2 own_a0)
  have Z16 := Nat.le_trans Z2 K16q.1
  have sy16_o0 : h0.size ≤ b16_o0 := Nat.le_trans K2.1 sz16_o0
  obtain ⟨G23, G24, G25, G26⟩ := own_k3 K16q (ninS (Exa.ne G3 A2 (by decide)) nin0) G3 G4 G5 G6
  obtain ⟨G27, G28, G29⟩ := own_k2 K16q (ninS (Exa.ne G7 A2 (by decide)) nin0) G7 G8 G9
  have G30 := (G10.keep K16q (ninS (Ne.symm (Exa.neArv A2 G10 (w_ hw 64 rfl))) nin0))
  have G31 := (own_sta_keep G11 K16q (own_nS (own_nst_exa A2) own_n0))
  have G32 := (A2.keep K16q)
  obtain ⟨T33, h33, X33, e33, W33, st33⟩ := putF X16 hx hZ hown (host := "") (Or.inl (w_ hw 61 rfl)) Via.refl rfl G26 G23 (Or.inl (w_ hw 62 rfl)) (w_ hw 31 rfl) (ty := (.object cN1)) (by decide) rfl rfl (g := (mkF m 15 #[rv ad0] [(.ref b2), (.ref ad0)])) rfl rfl (hb hby d43_15)
  have N33 := Fr.snoc X33 N16 zas
  have K33 : Keep h0 h33 [ad0] := K16.wr W33 (Or.inl (List.mem_of_getElem? (i := 0) rfl))
  have Z33 : n0 ≤ h33.size := Nat.le_trans Z16 (Keep.of_wr W33).1
  obtain ⟨G34, G35, G36⟩ := own_o2 W33 (Exa.ne G27 G23 (by decide)) G27 G28 G29
  obtain ⟨G37, G38, G39, G40, G41⟩ := own_o4 W33 (Exa.ne G17 G23 (by decide)) G17 G18 G19 G20 G21
  have G42 := (G23.wr W33)
  have G43 := (G24.other W33 (Or.inr (sn18 hw)))
  have G44 := (G25.other W33 (Or.inr (sn19 hw)))
  have G45 := (G30.other W33 (Ne.symm (Exa.neArv G23 G30 (w_ hw 31 rfl))))
  have G46 := (G31.wr W33)
  have G47 := (G22.other W33 (Ne.symm (Exa.neArv G23 G22 (w_ hw 31 rfl))))
  have G48 := G26.same W33
  refine oS st33 ?_
  show oF p e below s _ _ _ (T33.setTop (mkF m 18 #[rv ad0] []))
  refine xaloadN X33 hx (hb hby d43_18) rfl rfl rfl ?_
  refine oG X33 hx hZ hown (w_ hw 61 rfl) e33 G48 (hb hby d43_19) rfl rfl fun T49 X49 e49 => ?_
  refine xiconst X49 hx (hb hby d43_22) rfl ?_
  refine oV X49 hx hZ hown hml (w_ hw 81 rfl) (w_ hw 82 rfl) (w_ hw 84 rfl) (w_ hw 83 rfl) (own_rm35 hw hs b2 b16_o0 ((0 : Int32)) (J0) ko0_16 ([J0, J0, J0, J0]) h33 n0 Z33 ⟨G37, G40, G41, G38, G39, G47⟩ (show ¬ ((0 : Int32) < (0 : Int32)) from (by first | decide | assumption | exact Nat.le_of_ble_eq_true rfl)) gg2) (w_ hw 85 rfl) (w_ hw 65 rfl) e49 G37 [J0] [] 0 (lenOf own_pd15 rfl) rfl (hb hby d43_23) rfl rfl rfl fun T50 L50 v50 X50 hQ50 => ?_
  obtain ⟨N50q, K50q, uo0_50, rfl, G51, G52, G53, G54, G55⟩ := hQ50
  have N50 := Fr.app N33 N50q
  have K50 := K33.trans K50q (own_aB sz2 own_a0)
  have Z50 := Nat.le_trans Z33 K50q.1
  obtain ⟨G56, G57, G58⟩ := own_k2 K50q (ninS (Exa.ne G34 G37 (by decide)) nin0) G34 G35 G36
  obtain ⟨G59, G60, G61, G62⟩ := own_k3 K50q (ninS (Exa.ne G42 G37 (by decide)) nin0) G42 G43 G44 G48
  have G63 := (G37.keep K50q)
  have G64 := (G45.keep K50q (ninS (Ne.symm (Exa.neArv G37 G45 (w_ hw 64 rfl))) nin0))
  have G65 := (own_sta_keep G46 K50q (own_nS (own_nst_exa G37) own_n0))
  have G66 := (G47.keep K50q (ninS (Ne.symm (Exa.neArv G37 G47 (w_ hw 64 rfl))) nin0))
  refine xaloadN X50 hx (hb hby d43_26) rfl rfl rfl ?_
  refine xiconst X50 hx (hb hby d43_27) rfl ?_
  obtain ⟨T67, h67, X67, e67, W67, st67⟩ := putFN X50 hx hZ hown (w_ hw 45 rfl) Via.refl rfl G60 G59 (Or.inl (w_ hw 46 rfl)) (w_ hw 31 rfl) (ty := .boolean) (v' := J1) (by decide) rfl (rfl) (g := (mkF m 28 #[rv ad0] [J1, (.ref ad0)])) rfl rfl (hb hby d43_28)
  have N67 := Fr.snoc X67 N50 zas
  have K67 : Keep h0 h67 [ad0] := K50.wr W67 (Or.inl (List.mem_of_getElem? (i := 0) rfl))
  have Z67 : n0 ≤ h67.size := Nat.le_trans Z50 (Keep.of_wr W67).1
  obtain ⟨G68, G69, G70⟩ := own_o2 W67 (Exa.ne G56 G59 (by decide)) G56 G57 G58
  obtain ⟨G71, G72, G73, G74, G75⟩ := own_o4 W67 (Exa.ne G51 G59 (by decide)) G51 G52 G53 G54 G55
  have G76 := (G59.wr W67)
  have G77 := (G61.other W67 (Or.inr (sn5 hw)))
  have G78 := (G62.other W67 (Or.inr (sn4 hw)))
  have G79 := (G64.other W67 (Ne.symm (Exa.neArv G59 G64 (w_ hw 31 rfl))))
  have G80 := (G65.wr W67)
  have G81 := (G66.other W67 (Ne.symm (Exa.neArv G59 G66 (w_ hw 31 rfl))))
  have G82 := G60.same W67
  refine oS st67 ?_
  refine xaloadN X67 hx (hb hby d43_31) rfl rfl rfl ?_
  show oF p e below s _ _ _ (T67.setTop (mkF m 32 #[rv ad0] [(.ref ad0)]))
  refine oG X67 hx hZ hown (w_ hw 61 rfl) e67 G78 (hb hby d43_32) rfl rfl fun T83 X83 e83 => ?_
  refine xaloadN X83 hx (hb hby d43_35) rfl rfl rfl ?_
  refine oG X83 hx hZ hown (w_ hw 38 rfl) e83 G77 (hb hby d43_36) rfl rfl fun T84 X84 e84 => ?_
  refine oV X84 hx hZ hown hml (w_ hw 98 rfl) (w_ hw 99 rfl) (w_ hw 101 rfl) (w_ hw 100 rfl) (own_rm40 hw hs b2 zap b16_o0 ((0 : Int32)) uo0_50 ko0_16 ([J0, J0, J0, J0]) zbh zbs zau zag zaa h67 n0 Z67 ⟨G71, G72, G73, G75, G74, G81⟩ ⟨G68, G69, G70, G79⟩ G80 hc7_3_12 zdx gg16_o0 (show ¬ ((0 : Int32) < (0 : Int32)) from (by first | decide | assumption | exact Nat.le_of_ble_eq_true rfl)) zdy zdz zea ne16_o0_wvalue_wpiece_ad0 gg2) (w_ hw 102 rfl) (w_ hw 65 rfl) e84 G71 [(.ref zap)] [] 0 (lenOf own_pd27 rfl) rfl (hb hby d43_39) rfl rfl rfl fun T85 L85 v85 X85 hQ85 => ?_
  obtain ⟨N85q, K85q, rfl, G86, G87, G88, G89, G90, G91⟩ := hQ85
  have N85 := Fr.app N67 N85q
  have K85 := K67.trans K85q (own_aB sz2 (own_aB sy16_o0 own_a0))
  have Z85 := Nat.le_trans Z67 K85q.1
  obtain ⟨G92, G93, G94⟩ := own_k2 K85q (ninS (Exa.ne G68 G71 (by decide)) (ninS (Exa.neArv G68 G81 (w_ hw 9 rfl)) nin0)) G68 G69 G70
  obtain ⟨G95, G96, G97, G98⟩ := own_k3 K85q (ninS (Exa.ne G76 G71 (by decide)) (ninS (Exa.neArv G76 G81 (w_ hw 31 rfl)) nin0)) G76 G77 G78 G82
  have G99 := (G71.keep K85q)
  have G100 := (G79.keep K85q (ninS (Ne.symm (Exa.neArv G71 G79 (w_ hw 64 rfl))) (ninS ne16_o0_wvalue_wpiece_ad0 nin0)))
  have G101 := (own_sta_keep G80 K85q (own_nS (own_nst_exa G71) (own_nS (own_nst_arv G81) own_n0)))
  exact oRA X85 hx hlk hret rfl rfl rfl (hb hby d43_42) ⟨N85, K85, b2, gg2, sz2, b16_o0, gg16_o0, sy16_o0, ko0_16, uo0_50, rfl, G95, G96, G97, G98, G86, G87, G88, G89, G90, G91⟩

abbrev own_Q54 (Z : State) (ad0 zap : Addr) (zau : List Value) (zag : Int32) (zaq zay : Addr) (zcc : ClassId) (zbp : List Value) (h0 : Heap) (n0 : Nat) (v : Option Value) (h : Heap) (L : List Loc) : Prop := Fr n0 L ∧ Keep h0 h [zaq, ad0, zay] ∧ ∃ (uo0 : Value), v = some (.ref zaq) ∧ Exa Z h zaq cN1 ∧ Fld Z h zaq cN2 "value" "[B" (.ref zay) ∧ Fld Z h zaq cN2 "coder" "B" J0 ∧ Fld Z h zaq cN2 "maybeLatin1" "Z" uo0 ∧ Fld Z h zaq cN2 "count" "I" (.int ((0 : Int32) + zag)) ∧ Exa Z h ad0 cN3 ∧ Fld Z h ad0 cN3 "piece" "Ljava/lang/String;" (.ref zap) ∧ Fld Z h ad0 cN3 "pieces" "Ljava/lang/StringBuilder;" (.ref zaq) ∧ Fld Z h ad0 cN3 "joined" "Z" J1 ∧ Arv Z h zay zcc .byte (16 : Int32) (own_cat zbp zau (0 : Int32) zag) J0
theorem own_rm54 {l : Launch} {Z : State} {a0 : Array Value} (hw : own_HW Z a0) (hs : own_HS Z a0) (ad0 zap zbh : Addr) (zbs : ClassId) (zau : List Value) (zag : Int32) (zaq zay : Addr) (zbt : Int32) (zcw : Value) (zcc : ClassId) (zbp : List Value) (zaa : Int32) (h0 : Heap) (n0 : Nat) (Z0 : n0 ≤ h0.size) (zad : Exa Z h0 ad0 cN3) (zbj : Fld Z h0 ad0 cN3 "joined" "Z" J0) (zbq : Fld Z h0 ad0 cN3 "piece" "Ljava/lang/String;" (.ref zap)) (hB3 : own_T Z h0 zap zbh zbs zag  zau) (zbw : Fld Z h0 ad0 cN3 "pieces" "Ljava/lang/StringBuilder;" (.ref zaq)) (hB8 : own_U Z h0 zaq zay zcc (.int zbt) zcw zbp) (zac : Sta Z h0 cN0 "COMPACT_STRINGS" "Z" (.int zaa)) (hc23_2_23 : ¬ (zbt < (0 : Int32))) (zdd : n0 ≤ zaq) (zas : n0 ≤ ad0) (hc3_6_10_2_39 : ¬ (zaa = (0 : Int32))) (zdx : ¬ ((0 : Int32) < (((0 : Int32) + zag) - (16 : Int32)))) (zdh : n0 ≤ zay) (zdy : ¬ (zag < (0 : Int32))) (zdz : (0 : Int32).toNatClampNeg + zag.toNatClampNeg ≤ (16 : Int32).toNatClampNeg) (zea : (0 : Int32).toNatClampNeg + zag.toNatClampNeg ≤ zbp.length) (zcy : zbh ≠ zay) :
    own_Met l own_y43 prog_12_method_7_code 1 (some (.object cN1)) [] (oR 5 0 0 74) #[(.ref ad0)] Z h0 (own_Q54 Z ad0 zap zau zag zaq zay zcc zbp h0 n0) := by
  refine own_body (plainFor_of_name own_pn5) (own := "com/example/nearfield/nearfield/JoinedText") rfl (L0 := #[rv ad0]) fun p e s m below meth c s₁ hx hby hlk hml hown hnm X0 hZ e0 hh hret => ?_
  obtain ⟨zbd, zbz, zca, zbi⟩ := hB3
  obtain ⟨zbr, zde, zdf, zcz, zdg, zcl⟩ := hB8
  have N0 := Fr.nil n0
  have KR : Keep h0 h0 [zaq, ad0, zay] := Keep.refl _ _
  refine xaloadN X0 hx (hb hby d43_0) rfl rfl rfl ?_
  refine oG X0 hx hZ hown (w_ hw 61 rfl) e0 zbw (hb hby d43_1) rfl rfl fun T1 X1 e1 => ?_
  refine oS (fun _ k => XS.ifnonnullYes X1.here hx rfl (pc0 := 4) (pc' := 18) rfl (hb hby d43_4) rfl (by decide) (by decide) k) ?_
  refine xaloadN X1 hx (hb hby d43_18) rfl rfl rfl ?_
  refine oG X1 hx hZ hown (w_ hw 61 rfl) e1 zbw (hb hby d43_19) rfl rfl fun T2 X2 e2 => ?_
  refine xiconst X2 hx (hb hby d43_22) rfl ?_
  refine oV X2 hx hZ hown hml (w_ hw 81 rfl) (w_ hw 82 rfl) (w_ hw 84 rfl) (w_ hw 83 rfl) (own_rm35 hw hs zaq zay zbt zcw zcc zbp h0 n0 Z0 ⟨zbr, zde, zdf, zcz, zdg, zcl⟩ hc23_2_23 zdd) (w_ hw 85 rfl) (w_ hw 65 rfl) e2 zbr [J0] [] 0 (lenOf own_pd15 rfl) rfl (hb hby d43_23) rfl rfl rfl fun T3 L3 v3 X3 hQ3 => ?_
  obtain ⟨N3q, K3q, uo0_3, rfl, G4, G5, G6, G7, G8⟩ := hQ3
  have N3 := Fr.app N0 N3q
  have K3 := KR.trans K3q (own_aW 0 rfl own_a0)
  have Z3 := Nat.le_trans Z0 K3q.1
  obtain ⟨G9, G10, G11, G12⟩ := own_k3 K3q (ninS (Exa.ne zad zbr (by decide)) nin0) zad zbj zbq zbw
  obtain ⟨G13, G14, G15⟩ := own_k2 K3q (ninS (Exa.ne zbd zbr (by decide)) nin0) zbd zbz zca
  have G16 := (zbi.keep K3q (ninS (Ne.symm (Exa.neArv zbr zbi (w_ hw 64 rfl))) nin0))
  have G17 := (zbr.keep K3q)
  have G18 := (zcl.keep K3q (ninS (Ne.symm (Exa.neArv zbr zcl (w_ hw 64 rfl))) nin0))
  have G19 := (own_sta_keep zac K3q (own_nS (own_nst_exa zbr) own_n0))
  refine xaloadN X3 hx (hb hby d43_26) rfl rfl rfl ?_
  show oF p e below s _ _ _ (T3.setTop (mkF m 27 #[rv ad0] [(.ref ad0)]))
  refine xiconst X3 hx (hb hby d43_27) rfl ?_
  obtain ⟨T20, h20, X20, e20, W20, st20⟩ := putFN X3 hx hZ hown (w_ hw 45 rfl) Via.refl rfl G10 G9 (Or.inl (w_ hw 46 rfl)) (w_ hw 31 rfl) (ty := .boolean) (v' := J1) (by decide) rfl (rfl) (g := (mkF m 28 #[rv ad0] [J1, (.ref ad0)])) rfl rfl (hb hby d43_28)
  have N20 := Fr.snoc X20 N3 zas
  have K20 : Keep h0 h20 [zaq, ad0, zay] := K3.wr W20 (Or.inl (List.mem_of_getElem? (i := 1) rfl))
  have Z20 : n0 ≤ h20.size := Nat.le_trans Z3 (Keep.of_wr W20).1
  obtain ⟨G21, G22, G23⟩ := own_o2 W20 (Exa.ne G13 G9 (by decide)) G13 G14 G15
  obtain ⟨G24, G25, G26, G27, G28⟩ := own_o4 W20 (Exa.ne G4 G9 (by decide)) G4 G5 G6 G7 G8
  have G29 := (G9.wr W20)
  have G30 := (G11.other W20 (Or.inr (sn5 hw)))
  have G31 := (G12.other W20 (Or.inr (sn4 hw)))
  have G32 := (G16.other W20 (Ne.symm (Exa.neArv G9 G16 (w_ hw 31 rfl))))
  have G33 := (G18.other W20 (Ne.symm (Exa.neArv G9 G18 (w_ hw 31 rfl))))
  have G34 := (G19.wr W20)
  have G35 := G10.same W20
  refine oS st20 ?_
  refine xaloadN X20 hx (hb hby d43_31) rfl rfl rfl ?_
  refine oG X20 hx hZ hown (w_ hw 61 rfl) e20 G31 (hb hby d43_32) rfl rfl fun T36 X36 e36 => ?_
  refine xaloadN X36 hx (hb hby d43_35) rfl rfl rfl ?_
  refine oG X36 hx hZ hown (w_ hw 38 rfl) e36 G30 (hb hby d43_36) rfl rfl fun T37 X37 e37 => ?_
  refine oV X37 hx hZ hown hml (w_ hw 98 rfl) (w_ hw 99 rfl) (w_ hw 101 rfl) (w_ hw 100 rfl) (own_rm40 hw hs zaq zap zay ((0 : Int32)) uo0_3 zcc zbp zbh zbs zau zag zaa h20 n0 Z20 ⟨G24, G25, G26, G28, G27, G33⟩ ⟨G21, G22, G23, G32⟩ G34 hc3_6_10_2_39 zdx zdh (show ¬ ((0 : Int32) < (0 : Int32)) from (by first | decide | assumption | exact Nat.le_of_ble_eq_true rfl)) zdy zdz zea zcy zdd) (w_ hw 102 rfl) (w_ hw 65 rfl) e37 G24 [(.ref zap)] [] 0 (lenOf own_pd27 rfl) rfl (hb hby d43_39) rfl rfl rfl fun T38 L38 v38 X38 hQ38 => ?_
  obtain ⟨N38q, K38q, rfl, G39, G40, G41, G42, G43, G44⟩ := hQ38
  have N38 := Fr.app N20 N38q
  have K38 := K20.trans K38q (own_aW 0 rfl (own_aW 2 rfl own_a0))
  have Z38 := Nat.le_trans Z20 K38q.1
  obtain ⟨G45, G46, G47⟩ := own_k2 K38q (ninS (Exa.ne G21 G24 (by decide)) (ninS (Exa.neArv G21 G33 (w_ hw 9 rfl)) nin0)) G21 G22 G23
  obtain ⟨G48, G49, G50, G51⟩ := own_k3 K38q (ninS (Exa.ne G29 G24 (by decide)) (ninS (Exa.neArv G29 G33 (w_ hw 31 rfl)) nin0)) G29 G30 G31 G35
  have G52 := (G24.keep K38q)
  have G53 := (G32.keep K38q (ninS (Ne.symm (Exa.neArv G24 G32 (w_ hw 64 rfl))) (ninS zcy nin0)))
  have G54 := (own_sta_keep G34 K38q (own_nS (own_nst_exa G24) (own_nS (own_nst_arv G33) own_n0)))
  show oF p e below s _ _ _ (T38.setTop (mkF m 42 #[rv ad0] [(.ref zaq)]))
  exact oRA X38 hx hlk hret rfl rfl rfl (hb hby d43_42) ⟨N38, K38, uo0_3, rfl, G39, G40, G41, G42, G43, G48, G49, G50, G51, G44⟩

abbrev b44_ : ByteArray := prog_12_method_2_code
theorem d44_0 : decode b44_ 0 = .ok (.aload_n 0, 1) := by decide +kernel
theorem d44_1 : decode b44_ 1 = .ok (.getfield 15, 3) := by decide +kernel
theorem d44_4 : decode b44_ 4 = .ok (.ifCond .eq 15, 3) := by decide +kernel
theorem d44_19 : decode b44_ 19 = .ok (.aload_n 0, 1) := by decide +kernel
theorem d44_20 : decode b44_ 20 = .ok (.getfield 9, 3) := by decide +kernel
theorem d44_23 : decode b44_ 23 = .ok (.invokevirtual 29, 3) := by decide +kernel
theorem d44_26 : decode b44_ 26 = .ok (.ifCond .eq 11, 3) := by decide +kernel
theorem d44_29 : decode b44_ 29 = .ok (.aload_n 0, 1) := by decide +kernel
theorem d44_30 : decode b44_ 30 = .ok (.aload_n 1, 1) := by decide +kernel
theorem d44_31 : decode b44_ 31 = .ok (.putfield 9, 3) := by decide +kernel
theorem d44_34 : decode b44_ 34 = .ok (.goto 19, 3) := by decide +kernel
theorem d44_53 : decode b44_ 53 = .ok (.return_, 1) := by decide +kernel
abbrev own_y44 : MethodName := (⟨"com/example/nearfield/nearfield/JoinedText", "append", "(Ljava/lang/String;)V"⟩ : MethodName)
abbrev own_Q55 (Z : State) (ad0 ad1 : Addr) (zci : Value) (h0 : Heap) (n0 : Nat) (v : Option Value) (h : Heap) (L : List Loc) : Prop := Fr n0 L ∧ Keep h0 h [ad0] ∧ v = none ∧ Exa Z h ad0 cN3 ∧ Fld Z h ad0 cN3 "joined" "Z" J0 ∧ Fld Z h ad0 cN3 "pieces" "Ljava/lang/StringBuilder;" zci ∧ Fld Z h ad0 cN3 "piece" "Ljava/lang/String;" (.ref ad1)
theorem own_rm55 {l : Launch} {Z : State} {a0 : Array Value} (hw : own_HW Z a0) (hs : own_HS Z a0) (ad0 ad1 zap zbh : Addr) (zbs : ClassId) (wvalue_wpiece_ad0_0 wvalue_wpiece_ad0_1 wvalue_wpiece_ad0_2 wvalue_wpiece_ad0_3 : Int32) (zci : Value) (h0 : Heap) (n0 : Nat) (Z0 : n0 ≤ h0.size) (zad : Exa Z h0 ad0 cN3) (zbj : Fld Z h0 ad0 cN3 "joined" "Z" J0) (zbq : Fld Z h0 ad0 cN3 "piece" "Ljava/lang/String;" (.ref zap)) (hB3 : own_S Z h0 zap zbh zbs (0 : Int32)  wvalue_wpiece_ad0_0 wvalue_wpiece_ad0_1 wvalue_wpiece_ad0_2 wvalue_wpiece_ad0_3) (zbw : Fld Z h0 ad0 cN3 "pieces" "Ljava/lang/StringBuilder;" zci) (zas : n0 ≤ ad0) :
    own_Met l own_y44 prog_12_method_2_code 2 none [] (oR 1 0 0 12) #[(.ref ad0), (.ref ad1)] Z h0 (own_Q55 Z ad0 ad1 zci h0 n0) := by
  refine own_body (plainFor_of_name own_pn5) (own := "com/example/nearfield/nearfield/JoinedText") rfl (L0 := #[rv ad0, rv ad1]) fun p e s m below meth c s₁ hx hby hlk hml hown hnm X0 hZ e0 hh hret => ?_
  obtain ⟨zbd, zbz, zca, zbi⟩ := hB3
  have N0 := Fr.nil n0
  have KR : Keep h0 h0 [ad0] := Keep.refl _ _
  refine xaloadN X0 hx (hb hby d44_0) rfl rfl rfl ?_
  refine oG X0 hx hZ hown (w_ hw 45 rfl) e0 zbj (hb hby d44_1) rfl rfl fun T1 X1 e1 => ?_
  refine xifYes X1 hx 4 19 rfl (hb hby d44_4) rfl ((if0 _ _).trans (teq (by decide : (0 : Int32) = (0 : Int32))).1) rfl ?_
  refine xaloadN X1 hx (hb hby d44_19) rfl rfl rfl ?_
  refine oG X1 hx hZ hown (w_ hw 38 rfl) e1 zbq (hb hby d44_20) rfl rfl fun T2 X2 e2 => ?_
  refine oV X2 hx hZ hown hml (w_ hw 47 rfl) (w_ hw 48 rfl) (w_ hw 50 rfl) (w_ hw 49 rfl) (own_rm5 hw hs zap zbh zbs wvalue_wpiece_ad0_0 wvalue_wpiece_ad0_1 wvalue_wpiece_ad0_2 wvalue_wpiece_ad0_3 h0 n0 Z0 ⟨zbd, zbz, zca, zbi⟩) (w_ hw 51 rfl) (w_ hw 10 rfl) e2 zbd [] [] 0 (lenOf own_pd3 rfl) rfl (hb hby d44_23) rfl rfl rfl fun T3 L3 v3 X3 hQ3 => ?_
  obtain ⟨rfl, N3q, e3⟩ := hQ3
  have N3 := Fr.app N0 N3q
  refine xifNo X3 hx (hb hby d44_26) rfl ((if0 _ _).trans (feq (by decide : ¬ ((1 : Int32) = (0 : Int32)))).1) rfl ?_
  refine xaloadN X3 hx (hb hby d44_29) rfl rfl rfl ?_
  show oF p e below s _ _ _ (T3.setTop (mkF m 30 #[rv ad0, rv ad1] [(.ref ad0)]))
  refine xaloadN X3 hx (hb hby d44_30) rfl rfl rfl ?_
  obtain ⟨T4, h4, X4, e4, W4, st4⟩ := putF X3 hx hZ hown (host := "") (Or.inl (w_ hw 38 rfl)) Via.refl e3 zbq zad (Or.inl (w_ hw 39 rfl)) (w_ hw 31 rfl) (ty := (.object cN0)) (by decide) rfl rfl (g := (mkF m 31 #[rv ad0, rv ad1] [(.ref ad1), (.ref ad0)])) rfl rfl (hb hby d44_31)
  have N4 := Fr.snoc X4 N3 zas
  have K4 : Keep h0 h4 [ad0] := KR.wr W4 (Or.inl (List.mem_of_getElem? (i := 0) rfl))
  have Z4 : n0 ≤ h4.size := Nat.le_trans Z0 (Keep.of_wr W4).1
  obtain ⟨G5, G6, G7⟩ := own_o2 W4 (Exa.ne zbd zad (by decide)) zbd zbz zca
  have G8 := (zad.wr W4)
  have G9 := (zbj.other W4 (Or.inr (sn2 hw)))
  have G10 := (zbi.other W4 (Ne.symm (Exa.neArv zad zbi (w_ hw 31 rfl))))
  have G11 := (zbw.other W4 (Or.inr (sn3 hw)))
  have G12 := zbq.same W4
  refine oS st4 ?_
  refine xgoto X4 hx 34 53 rfl (hb hby d44_34) rfl ?_
  exact oRV X4 hx hlk hret (hb hby d44_53) (by rw [e4]; exact ⟨N4, K4, rfl, G8, G9, G11, G12⟩)

theorem d44_37 : decode b44_ 37 = .ok (.aload_n 1, 1) := by decide +kernel
theorem d44_38 : decode b44_ 38 = .ok (.invokevirtual 29, 3) := by decide +kernel
theorem d44_41 : decode b44_ 41 = .ok (.ifCond .ne 12, 3) := by decide +kernel
theorem own_rm56 {l : Launch} {Z : State} {a0 : Array Value} (hw : own_HW Z a0) (hs : own_HS Z a0) (ad0 ad1 zap zbh : Addr) (zbs : ClassId) (zau : List Value) (zag : Int32) (zci : Value) (zbc : Addr) (zcb : ClassId) (wvalue_ad1_0 wvalue_ad1_1 wvalue_ad1_2 wvalue_ad1_3 : Int32) (h0 : Heap) (n0 : Nat) (Z0 : n0 ≤ h0.size) (zad : Exa Z h0 ad0 cN3) (zbj : Fld Z h0 ad0 cN3 "joined" "Z" J0) (zbq : Fld Z h0 ad0 cN3 "piece" "Ljava/lang/String;" (.ref zap)) (hB3 : own_T Z h0 zap zbh zbs zag  zau) (zbw : Fld Z h0 ad0 cN3 "pieces" "Ljava/lang/StringBuilder;" zci) (hB8 : own_S Z h0 ad1 zbc zcb (0 : Int32)  wvalue_ad1_0 wvalue_ad1_1 wvalue_ad1_2 wvalue_ad1_3) (zdr : ¬ (zag = (0 : Int32))) :
    own_Met l own_y44 prog_12_method_2_code 2 none [] (oR 1 0 0 12) #[(.ref ad0), (.ref ad1)] Z h0 (oQ (none) h0 n0) := by
  refine own_body (plainFor_of_name own_pn5) (own := "com/example/nearfield/nearfield/JoinedText") rfl (L0 := #[rv ad0, rv ad1]) fun p e s m below meth c s₁ hx hby hlk hml hown hnm X0 hZ e0 hh hret => ?_
  obtain ⟨zbd, zbz, zca, zbi⟩ := hB3
  obtain ⟨zbe, zcg, zcd, zbx⟩ := hB8
  have N0 := Fr.nil n0
  refine xaloadN X0 hx (hb hby d44_0) rfl rfl rfl ?_
  refine oG X0 hx hZ hown (w_ hw 45 rfl) e0 zbj (hb hby d44_1) rfl rfl fun T1 X1 e1 => ?_
  refine xifYes X1 hx 4 19 rfl (hb hby d44_4) rfl ((if0 _ _).trans (teq (by decide : (0 : Int32) = (0 : Int32))).1) rfl ?_
  refine xaloadN X1 hx (hb hby d44_19) rfl rfl rfl ?_
  refine oG X1 hx hZ hown (w_ hw 38 rfl) e1 zbq (hb hby d44_20) rfl rfl fun T2 X2 e2 => ?_
  refine oV X2 hx hZ hown hml (w_ hw 47 rfl) (w_ hw 48 rfl) (w_ hw 50 rfl) (w_ hw 49 rfl) (own_rm6 hw hs zap zbh zbs zau zag h0 n0 Z0 ⟨zbd, zbz, zca, zbi⟩ zdr) (w_ hw 51 rfl) (w_ hw 10 rfl) e2 zbd [] [] 0 (lenOf own_pd3 rfl) rfl (hb hby d44_23) rfl rfl rfl fun T3 L3 v3 X3 hQ3 => ?_
  obtain ⟨rfl, N3q, e3⟩ := hQ3
  have N3 := Fr.app N0 N3q
  refine xifYes X3 hx 26 37 rfl (hb hby d44_26) rfl ((if0 _ _).trans (teq (by decide : (0 : Int32) = (0 : Int32))).1) rfl ?_
  refine xaloadN X3 hx (hb hby d44_37) rfl rfl rfl ?_
  show oF p e below s _ _ _ (T3.setTop (mkF m 38 #[rv ad0, rv ad1] [(.ref ad1)]))
  refine oV X3 hx hZ hown hml (w_ hw 47 rfl) (w_ hw 48 rfl) (w_ hw 50 rfl) (w_ hw 49 rfl) (own_rm5 hw hs ad1 zbc zcb wvalue_ad1_0 wvalue_ad1_1 wvalue_ad1_2 wvalue_ad1_3 h0 n0 Z0 ⟨zbe, zcg, zcd, zbx⟩) (w_ hw 51 rfl) (w_ hw 10 rfl) e3 zbe [] [] 0 (lenOf own_pd3 rfl) rfl (hb hby d44_38) rfl rfl rfl fun T4 L4 v4 X4 hQ4 => ?_
  obtain ⟨rfl, N4q, e4⟩ := hQ4
  have N4 := Fr.app N3 N4q
  refine xifYes X4 hx 41 53 rfl (hb hby d44_41) rfl ((if0 _ _).trans (feq (by decide : ¬ ((1 : Int32) = (0 : Int32)))).2) rfl ?_
  exact oRV X4 hx hlk hret (hb hby d44_53) (by rw [e4]; exact ⟨rfl, N4, rfl⟩)

theorem own_pd28 : parseMethodDescriptor "()Ljava/lang/StringBuilder;" = some ⟨[], some (.object "java/lang/StringBuilder")⟩ := by decide +kernel
theorem d44_44 : decode b44_ 44 = .ok (.aload_n 0, 1) := by decide +kernel
theorem d44_45 : decode b44_ 45 = .ok (.invokevirtual 35, 3) := by decide +kernel
theorem d44_48 : decode b44_ 48 = .ok (.aload_n 1, 1) := by decide +kernel
theorem d44_49 : decode b44_ 49 = .ok (.invokevirtual 23, 3) := by decide +kernel
theorem d44_52 : decode b44_ 52 = .ok (.pop, 1) := by decide +kernel
abbrev own_Q57 (Z : State) (ad0 zap : Addr) (zau : List Value) (zag : Int32) (zbf : List Value) (zat : Int32) (h0 : Heap) (n0 : Nat) (v : Option Value) (h : Heap) (L : List Loc) : Prop := Fr n0 L ∧ Keep h0 h [ad0] ∧ ∃ o0 : Addr, n0 ≤ o0 ∧ h0.size ≤ o0 ∧ ∃ o1 : Addr, n0 ≤ o1 ∧ h0.size ≤ o1 ∧ ∃ (ko0 : ClassId) (uo0 : Value), v = none ∧ Exa Z h ad0 cN3 ∧ Fld Z h ad0 cN3 "piece" "Ljava/lang/String;" (.ref zap) ∧ Fld Z h ad0 cN3 "pieces" "Ljava/lang/StringBuilder;" (.ref o0) ∧ Fld Z h ad0 cN3 "joined" "Z" J1 ∧ Exa Z h o0 cN1 ∧ Fld Z h o0 cN2 "value" "[B" (.ref o1) ∧ Fld Z h o0 cN2 "coder" "B" J0 ∧ Fld Z h o0 cN2 "maybeLatin1" "Z" uo0 ∧ Fld Z h o0 cN2 "count" "I" (.int (((0 : Int32) + zag) + zat)) ∧ Arv Z h o1 ko0 .byte (16 : Int32) (own_cat (own_cat [J0, J0, J0, J0] zau (0 : Int32) zag) zbf ((0 : Int32) + zag) zat) J0
theorem own_rm57 {l : Launch} {Z : State} {a0 : Array Value} (hw : own_HW Z a0) (hs : own_HS Z a0) (ad0 ad1 zap zbh : Addr) (zbs : ClassId) (zau : List Value) (zag : Int32) (zbc : Addr) (zcb : ClassId) (zbf : List Value) (zat zaa : Int32) (h0 : Heap) (n0 : Nat) (Z0 : n0 ≤ h0.size) (zad : Exa Z h0 ad0 cN3) (zbj : Fld Z h0 ad0 cN3 "joined" "Z" J0) (zbq : Fld Z h0 ad0 cN3 "piece" "Ljava/lang/String;" (.ref zap)) (hB3 : own_T Z h0 zap zbh zbs zag  zau) (zbw : Fld Z h0 ad0 cN3 "pieces" "Ljava/lang/StringBuilder;" .null) (hB8 : own_T Z h0 ad1 zbc zcb zat  zbf) (zac : Sta Z h0 cN0 "COMPACT_STRINGS" "Z" (.int zaa)) (zdr : ¬ (zag = (0 : Int32))) (zeb : ¬ (zat = (0 : Int32))) (hc7_3_12_45 : ¬ (zaa = (0 : Int32))) (zas : n0 ≤ ad0) (zec : ¬ ((0 : Int32) < (((0 : Int32) + zag) - (16 : Int32)))) (zed : ¬ (zag < (0 : Int32))) (zee : (0 : Int32).toNatClampNeg + zag.toNatClampNeg ≤ (16 : Int32).toNatClampNeg) (zef : (0 : Int32).toNatClampNeg + zag.toNatClampNeg ≤ [J0, J0, J0, J0].length) (zeg : ¬ ((0 : Int32) < ((((0 : Int32) + zag) + zat) - (16 : Int32)))) (zeh : ¬ (((0 : Int32) + zag) < (0 : Int32))) (zei : ¬ (zat < (0 : Int32))) (zej : ((0 : Int32) + zag).toNatClampNeg + zat.toNatClampNeg ≤ (16 : Int32).toNatClampNeg) (zek : ((0 : Int32) + zag).toNatClampNeg + zat.toNatClampNeg ≤ (own_cat [J0, J0, J0, J0] zau (0 : Int32) zag).length) :
    own_Met l own_y44 prog_12_method_2_code 2 none [] (oR 6 2 20 86) #[(.ref ad0), (.ref ad1)] Z h0 (own_Q57 Z ad0 zap zau zag zbf zat h0 n0) := by
  refine own_body (plainFor_of_name own_pn5) (own := "com/example/nearfield/nearfield/JoinedText") rfl (L0 := #[rv ad0, rv ad1]) fun p e s m below meth c s₁ hx hby hlk hml hown hnm X0 hZ e0 hh hret => ?_
  obtain ⟨zbd, zbz, zca, zbi⟩ := hB3
  obtain ⟨zbe, zcg, zcd, zbx⟩ := hB8
  have N0 := Fr.nil n0
  have KR : Keep h0 h0 [ad0] := Keep.refl _ _
  refine xaloadN X0 hx (hb hby d44_0) rfl rfl rfl ?_
  refine oG X0 hx hZ hown (w_ hw 45 rfl) e0 zbj (hb hby d44_1) rfl rfl fun T1 X1 e1 => ?_
  refine xifYes X1 hx 4 19 rfl (hb hby d44_4) rfl ((if0 _ _).trans (teq (by decide : (0 : Int32) = (0 : Int32))).1) rfl ?_
  refine xaloadN X1 hx (hb hby d44_19) rfl rfl rfl ?_
  refine oG X1 hx hZ hown (w_ hw 38 rfl) e1 zbq (hb hby d44_20) rfl rfl fun T2 X2 e2 => ?_
  refine oV X2 hx hZ hown hml (w_ hw 47 rfl) (w_ hw 48 rfl) (w_ hw 50 rfl) (w_ hw 49 rfl) (own_rm6 hw hs zap zbh zbs zau zag h0 n0 Z0 ⟨zbd, zbz, zca, zbi⟩ zdr) (w_ hw 51 rfl) (w_ hw 10 rfl) e2 zbd [] [] 0 (lenOf own_pd3 rfl) rfl (hb hby d44_23) rfl rfl rfl fun T3 L3 v3 X3 hQ3 => ?_
  obtain ⟨rfl, N3q, e3⟩ := hQ3
  have N3 := Fr.app N0 N3q
  refine xifYes X3 hx 26 37 rfl (hb hby d44_26) rfl ((if0 _ _).trans (teq (by decide : (0 : Int32) = (0 : Int32))).1) rfl ?_
  refine xaloadN X3 hx (hb hby d44_37) rfl rfl rfl ?_
  show oF p e below s _ _ _ (T3.setTop (mkF m 38 #[rv ad0, rv ad1] [(.ref ad1)]))
  refine oV X3 hx hZ hown hml (w_ hw 47 rfl) (w_ hw 48 rfl) (w_ hw 50 rfl) (w_ hw 49 rfl) (own_rm6 hw hs ad1 zbc zcb zbf zat h0 n0 Z0 ⟨zbe, zcg, zcd, zbx⟩ zeb) (w_ hw 51 rfl) (w_ hw 10 rfl) e3 zbe [] [] 0 (lenOf own_pd3 rfl) rfl (hb hby d44_38) rfl rfl rfl fun T4 L4 v4 X4 hQ4 => ?_
  obtain ⟨rfl, N4q, e4⟩ := hQ4
  have N4 := Fr.app N3 N4q
  refine xifNo X4 hx (hb hby d44_41) rfl ((if0 _ _).trans (teq (by decide : (0 : Int32) = (0 : Int32))).2) rfl ?_
  refine xaloadN X4 hx (hb hby d44_44) rfl rfl rfl ?_
  obtain ⟨cq5, q5, q5'⟩ := zad.cell
  obtain ⟨T5, L5, v5, X5, hQ5, st5⟩ := own_un X4 <| X4.privateBack hx (y := own_y43) hown (mvT hZ (w_ hw 57 rfl)) (mvT hZ (w_ hw 58 rfl)) (Jvm.Kit.selects_private (by decide) (mvT hZ (w_ hw 31 rfl)) (mvP hZ (w_ hw 59 rfl)) (mvT hZ (w_ hw 58 rfl))) (Cond.privateMethod_at (mvP hZ (w_ hw 59 rfl) (args := #[]))) (mvT hZ (w_ hw 60 rfl)) (by decide) (backOf (W := 0) (own_rm53 hw hs ad0 zap zbh zbs zau zag zaa h0 n0 Z0 zad zbj zbq ⟨zbd, zbz, zca, zbi⟩ zbw zac hc7_3_12_45 zas zec zed zee zef) hZ (w_ hw 60 rfl) (w_ hw 32 rfl) (by decide) (by decide)) (g := (mkF m 45 #[rv ad0, rv ad1] [(.ref ad0)])) rfl (by rw [hml]; rfl) (Steps.refl _) (a := ad0) (by rw [e4]; exact q5) q5' (argsL := []) (rest := []) (lenOf own_pd28 rfl) rfl (by show 2 * 0 + _ ≤ _; exact Nat.le_of_eq rfl) (hb hby d44_45) (fun _ _ => ⟨rfl, e4, (by decide : 0 + 2 ≤ _), (by decide : 0 + 20 ≤ _)⟩)
  obtain ⟨N5q, K5q, b5_o0, gg5_o0, sz5_o0, b5_o1, gg5_o1, sz5_o1, ko0_5, uo0_5, rfl, G6, G7, G8, G9, G10, G11, G12, G13, G14, G15⟩ := hQ5
  have N5 := Fr.app N4 N5q
  have ne5_o1_wvalue_wpiece_ad0 : zbh ≠ b5_o1 := Nat.ne_of_lt (Nat.lt_of_lt_of_le zbi.lt sz5_o1)
  have ne5_o1_wvalue_ad1 : zbc ≠ b5_o1 := Nat.ne_of_lt (Nat.lt_of_lt_of_le zbx.lt sz5_o1)
  have K5 := KR.trans K5q (own_aW 0 rfl own_a0)
  have Z5 := Nat.le_trans Z0 K5q.1
  have sy5_o0 : h0.size ≤ b5_o0 := Nat.le_trans KR.1 sz5_o0
  have sy5_o1 : h0.size ≤ b5_o1 := Nat.le_trans KR.1 sz5_o1
  obtain ⟨G16, G17, G18⟩ := own_k2 K5q (ninS (Exa.ne zbd zad (by decide)) nin0) zbd zbz zca
  obtain ⟨G19, G20, G21⟩ := own_k2 K5q (ninS (Exa.ne zbe zad (by decide)) nin0) zbe zcg zcd
  have G22 := (zad.keep K5q)
  have G23 := (zbi.keep K5q (ninS (Ne.symm (Exa.neArv zad zbi (w_ hw 31 rfl))) nin0))
  have G24 := (zbx.keep K5q (ninS (Ne.symm (Exa.neArv zad zbx (w_ hw 31 rfl))) nin0))
  have G25 := (own_sta_keep zac K5q (own_nS (own_nst_exa zad) own_n0))
  refine oS (fun _ k => st5.trans k) ?_
  refine xaloadN X5 hx (hb hby d44_48) rfl rfl rfl ?_
  refine oV X5 hx hZ hown hml (w_ hw 98 rfl) (w_ hw 99 rfl) (w_ hw 101 rfl) (w_ hw 100 rfl) (own_rm40 hw hs b5_o0 ad1 b5_o1 (((0 : Int32) + zag)) uo0_5 ko0_5 ((own_cat [J0, J0, J0, J0] zau (0 : Int32) zag)) zbc zcb zbf zat zaa T5.heap n0 Z5 ⟨G10, G11, G12, G14, G13, G15⟩ ⟨G19, G20, G21, G24⟩ G25 hc7_3_12_45 zeg gg5_o1 zeh zei zej zek ne5_o1_wvalue_ad1 gg5_o0) (w_ hw 102 rfl) (w_ hw 65 rfl) rfl G10 [(.ref ad1)] [] 0 (lenOf own_pd27 rfl) rfl (hb hby d44_49) rfl rfl rfl fun T26 L26 v26 X26 hQ26 => ?_
  obtain ⟨N26q, K26q, rfl, G27, G28, G29, G30, G31, G32⟩ := hQ26
  have N26 := Fr.app N5 N26q
  have K26 := K5.trans K26q (own_aB sy5_o0 (own_aB sy5_o1 own_a0))
  have Z26 := Nat.le_trans Z5 K26q.1
  obtain ⟨G33, G34, G35⟩ := own_k2 K26q (ninS (Exa.ne G16 G10 (by decide)) (ninS (Exa.neArv G16 G15 (w_ hw 9 rfl)) nin0)) G16 G17 G18
  obtain ⟨G36, G37, G38⟩ := own_k2 K26q (ninS (Exa.ne G19 G10 (by decide)) (ninS (Exa.neArv G19 G15 (w_ hw 9 rfl)) nin0)) G19 G20 G21
  obtain ⟨G39, G40, G41, G42⟩ := own_k3 K26q (ninS (Exa.ne G6 G10 (by decide)) (ninS (Exa.neArv G6 G15 (w_ hw 31 rfl)) nin0)) G6 G7 G8 G9
  have G43 := (G23.keep K26q (ninS (Ne.symm (Exa.neArv G10 G23 (w_ hw 64 rfl))) (ninS ne5_o1_wvalue_wpiece_ad0 nin0)))
  have G44 := (G24.keep K26q (ninS (Ne.symm (Exa.neArv G10 G24 (w_ hw 64 rfl))) (ninS ne5_o1_wvalue_ad1 nin0)))
  have G45 := (own_sta_keep G25 K26q (own_nS (own_nst_exa G10) (own_nS (own_nst_arv G15) own_n0)))
  have G46 := (G10.keep K26q)
  refine oS (fun _ k => XS.pop X26.here hx rfl (hb hby d44_52) rfl rfl k) ?_
  exact oRV X26 hx hlk hret (hb hby d44_53) ⟨N26, K26, b5_o0, gg5_o0, sy5_o0, b5_o1, gg5_o1, sy5_o1, ko0_5, uo0_5, rfl, G39, G40, G41, G42, G27, G28, G29, G30, G31, G32⟩

abbrev own_Q58 (Z : State) (ad0 zap : Addr) (zau : List Value) (zag : Int32) (zaq zay : Addr) (zcc : ClassId) (zbp zbf : List Value) (zat : Int32) (h0 : Heap) (n0 : Nat) (v : Option Value) (h : Heap) (L : List Loc) : Prop := Fr n0 L ∧ Keep h0 h [zay, ad0, zaq] ∧ ∃ (uo0 : Value), v = none ∧ Arv Z h zay zcc .byte (16 : Int32) (own_cat (own_cat zbp zau (0 : Int32) zag) zbf ((0 : Int32) + zag) zat) J0 ∧ Exa Z h ad0 cN3 ∧ Fld Z h ad0 cN3 "piece" "Ljava/lang/String;" (.ref zap) ∧ Fld Z h ad0 cN3 "pieces" "Ljava/lang/StringBuilder;" (.ref zaq) ∧ Fld Z h ad0 cN3 "joined" "Z" J1 ∧ Exa Z h zaq cN1 ∧ Fld Z h zaq cN2 "value" "[B" (.ref zay) ∧ Fld Z h zaq cN2 "coder" "B" J0 ∧ Fld Z h zaq cN2 "maybeLatin1" "Z" uo0 ∧ Fld Z h zaq cN2 "count" "I" (.int (((0 : Int32) + zag) + zat))
theorem own_rm58 {l : Launch} {Z : State} {a0 : Array Value} (hw : own_HW Z a0) (hs : own_HS Z a0) (ad0 ad1 zap zbh : Addr) (zbs : ClassId) (zau : List Value) (zag : Int32) (zaq zay : Addr) (zbt : Int32) (zcw : Value) (zcc : ClassId) (zbp : List Value) (zbc : Addr) (zcb : ClassId) (zbf : List Value) (zat zaa : Int32) (h0 : Heap) (n0 : Nat) (Z0 : n0 ≤ h0.size) (zad : Exa Z h0 ad0 cN3) (zbj : Fld Z h0 ad0 cN3 "joined" "Z" J0) (zbq : Fld Z h0 ad0 cN3 "piece" "Ljava/lang/String;" (.ref zap)) (hB3 : own_T Z h0 zap zbh zbs zag  zau) (zbw : Fld Z h0 ad0 cN3 "pieces" "Ljava/lang/StringBuilder;" (.ref zaq)) (hB8 : own_U Z h0 zaq zay zcc (.int zbt) zcw zbp) (hB14 : own_T Z h0 ad1 zbc zcb zat  zbf) (zac : Sta Z h0 cN0 "COMPACT_STRINGS" "Z" (.int zaa)) (zdr : ¬ (zag = (0 : Int32))) (zeb : ¬ (zat = (0 : Int32))) (hc23_2_23_45 : ¬ (zbt < (0 : Int32))) (zdd : n0 ≤ zaq) (zas : n0 ≤ ad0) (hc3_6_10_2_39_45 : ¬ (zaa = (0 : Int32))) (zec : ¬ ((0 : Int32) < (((0 : Int32) + zag) - (16 : Int32)))) (zdh : n0 ≤ zay) (zed : ¬ (zag < (0 : Int32))) (zee : (0 : Int32).toNatClampNeg + zag.toNatClampNeg ≤ (16 : Int32).toNatClampNeg) (zef : (0 : Int32).toNatClampNeg + zag.toNatClampNeg ≤ zbp.length) (zcy : zbh ≠ zay) (zel : zbc ≠ zay) (zeg : ¬ ((0 : Int32) < ((((0 : Int32) + zag) + zat) - (16 : Int32)))) (zeh : ¬ (((0 : Int32) + zag) < (0 : Int32))) (zei : ¬ (zat < (0 : Int32))) (zej : ((0 : Int32) + zag).toNatClampNeg + zat.toNatClampNeg ≤ (16 : Int32).toNatClampNeg) (zek : ((0 : Int32) + zag).toNatClampNeg + zat.toNatClampNeg ≤ (own_cat zbp zau (0 : Int32) zag).length) :
    own_Met l own_y44 prog_12_method_2_code 2 none [] (oR 6 0 0 86) #[(.ref ad0), (.ref ad1)] Z h0 (own_Q58 Z ad0 zap zau zag zaq zay zcc zbp zbf zat h0 n0) := by
  refine own_body (plainFor_of_name own_pn5) (own := "com/example/nearfield/nearfield/JoinedText") rfl (L0 := #[rv ad0, rv ad1]) fun p e s m below meth c s₁ hx hby hlk hml hown hnm X0 hZ e0 hh hret => ?_
  obtain ⟨zbd, zbz, zca, zbi⟩ := hB3
  obtain ⟨zbr, zde, zdf, zcz, zdg, zcl⟩ := hB8
  obtain ⟨zbe, zcg, zcd, zbx⟩ := hB14
  have N0 := Fr.nil n0
  have KR : Keep h0 h0 [zay, ad0, zaq] := Keep.refl _ _
  refine xaloadN X0 hx (hb hby d44_0) rfl rfl rfl ?_
  refine oG X0 hx hZ hown (w_ hw 45 rfl) e0 zbj (hb hby d44_1) rfl rfl fun T1 X1 e1 => ?_
  refine xifYes X1 hx 4 19 rfl (hb hby d44_4) rfl ((if0 _ _).trans (teq (by decide : (0 : Int32) = (0 : Int32))).1) rfl ?_
  refine xaloadN X1 hx (hb hby d44_19) rfl rfl rfl ?_
  refine oG X1 hx hZ hown (w_ hw 38 rfl) e1 zbq (hb hby d44_20) rfl rfl fun T2 X2 e2 => ?_
  refine oV X2 hx hZ hown hml (w_ hw 47 rfl) (w_ hw 48 rfl) (w_ hw 50 rfl) (w_ hw 49 rfl) (own_rm6 hw hs zap zbh zbs zau zag h0 n0 Z0 ⟨zbd, zbz, zca, zbi⟩ zdr) (w_ hw 51 rfl) (w_ hw 10 rfl) e2 zbd [] [] 0 (lenOf own_pd3 rfl) rfl (hb hby d44_23) rfl rfl rfl fun T3 L3 v3 X3 hQ3 => ?_
  obtain ⟨rfl, N3q, e3⟩ := hQ3
  have N3 := Fr.app N0 N3q
  refine xifYes X3 hx 26 37 rfl (hb hby d44_26) rfl ((if0 _ _).trans (teq (by decide : (0 : Int32) = (0 : Int32))).1) rfl ?_
  refine xaloadN X3 hx (hb hby d44_37) rfl rfl rfl ?_
  show oF p e below s _ _ _ (T3.setTop (mkF m 38 #[rv ad0, rv ad1] [(.ref ad1)]))
  refine oV X3 hx hZ hown hml (w_ hw 47 rfl) (w_ hw 48 rfl) (w_ hw 50 rfl) (w_ hw 49 rfl) (own_rm6 hw hs ad1 zbc zcb zbf zat h0 n0 Z0 ⟨zbe, zcg, zcd, zbx⟩ zeb) (w_ hw 51 rfl) (w_ hw 10 rfl) e3 zbe [] [] 0 (lenOf own_pd3 rfl) rfl (hb hby d44_38) rfl rfl rfl fun T4 L4 v4 X4 hQ4 => ?_
  obtain ⟨rfl, N4q, e4⟩ := hQ4
  have N4 := Fr.app N3 N4q
  refine xifNo X4 hx (hb hby d44_41) rfl ((if0 _ _).trans (teq (by decide : (0 : Int32) = (0 : Int32))).2) rfl ?_
  refine xaloadN X4 hx (hb hby d44_44) rfl rfl rfl ?_
  obtain ⟨cq5, q5, q5'⟩ := zad.cell
  obtain ⟨T5, L5, v5, X5, hQ5, st5⟩ := own_un X4 <| X4.privateBack hx (y := own_y43) hown (mvT hZ (w_ hw 57 rfl)) (mvT hZ (w_ hw 58 rfl)) (Jvm.Kit.selects_private (by decide) (mvT hZ (w_ hw 31 rfl)) (mvP hZ (w_ hw 59 rfl)) (mvT hZ (w_ hw 58 rfl))) (Cond.privateMethod_at (mvP hZ (w_ hw 59 rfl) (args := #[]))) (mvT hZ (w_ hw 60 rfl)) (by decide) (backOf (W := 0) (own_rm54 hw hs ad0 zap zbh zbs zau zag zaq zay zbt zcw zcc zbp zaa h0 n0 Z0 zad zbj zbq ⟨zbd, zbz, zca, zbi⟩ zbw ⟨zbr, zde, zdf, zcz, zdg, zcl⟩ zac hc23_2_23_45 zdd zas hc3_6_10_2_39_45 zec zdh zed zee zef zcy) hZ (w_ hw 60 rfl) (w_ hw 32 rfl) (by decide) (by decide)) (g := (mkF m 45 #[rv ad0, rv ad1] [(.ref ad0)])) rfl (by rw [hml]; rfl) (Steps.refl _) (a := ad0) (by rw [e4]; exact q5) q5' (argsL := []) (rest := []) (lenOf own_pd28 rfl) rfl (by show 2 * 0 + _ ≤ _; exact Nat.le_of_eq rfl) (hb hby d44_45) (fun _ _ => ⟨rfl, e4, (by decide : 0 + 0 ≤ _), (by decide : 0 + 0 ≤ _)⟩)
  obtain ⟨N5q, K5q, uo0_5, rfl, G6, G7, G8, G9, G10, G11, G12, G13, G14, G15⟩ := hQ5
  have N5 := Fr.app N4 N5q
  have K5 := KR.trans K5q (own_aW 2 rfl (own_aW 1 rfl (own_aW 0 rfl own_a0)))
  have Z5 := Nat.le_trans Z0 K5q.1
  obtain ⟨G16, G17, G18⟩ := own_k2 K5q (ninS (Exa.ne zbd zbr (by decide)) (ninS (Exa.ne zbd zad (by decide)) (ninS (Exa.neArv zbd zcl (w_ hw 9 rfl)) nin0))) zbd zbz zca
  obtain ⟨G19, G20, G21⟩ := own_k2 K5q (ninS (Exa.ne zbe zbr (by decide)) (ninS (Exa.ne zbe zad (by decide)) (ninS (Exa.neArv zbe zcl (w_ hw 9 rfl)) nin0))) zbe zcg zcd
  have G22 := (zad.keep K5q)
  have G23 := (zbi.keep K5q (ninS (Ne.symm (Exa.neArv zbr zbi (w_ hw 64 rfl))) (ninS (Ne.symm (Exa.neArv zad zbi (w_ hw 31 rfl))) (ninS zcy nin0))))
  have G24 := (zbr.keep K5q)
  have G25 := (zbx.keep K5q (ninS (Ne.symm (Exa.neArv zbr zbx (w_ hw 64 rfl))) (ninS (Ne.symm (Exa.neArv zad zbx (w_ hw 31 rfl))) (ninS zel nin0))))
  have G26 := (own_sta_keep zac K5q (own_nS (own_nst_exa zbr) (own_nS (own_nst_exa zad) (own_nS (own_nst_arv zcl) own_n0))))
  refine oS (fun _ k => st5.trans k) ?_
  refine xaloadN X5 hx (hb hby d44_48) rfl rfl rfl ?_
  refine oV X5 hx hZ hown hml (w_ hw 98 rfl) (w_ hw 99 rfl) (w_ hw 101 rfl) (w_ hw 100 rfl) (own_rm40 hw hs zaq ad1 zay (((0 : Int32) + zag)) uo0_5 zcc ((own_cat zbp zau (0 : Int32) zag)) zbc zcb zbf zat zaa T5.heap n0 Z5 ⟨G6, G7, G8, G10, G9, G15⟩ ⟨G19, G20, G21, G25⟩ G26 hc3_6_10_2_39_45 zeg zdh zeh zei zej zek zel zdd) (w_ hw 102 rfl) (w_ hw 65 rfl) rfl G6 [(.ref ad1)] [] 0 (lenOf own_pd27 rfl) rfl (hb hby d44_49) rfl rfl rfl fun T27 L27 v27 X27 hQ27 => ?_
  obtain ⟨N27q, K27q, rfl, G28, G29, G30, G31, G32, G33⟩ := hQ27
  have N27 := Fr.app N5 N27q
  have K27 := K5.trans K27q (own_aW 2 rfl (own_aW 0 rfl own_a0))
  have Z27 := Nat.le_trans Z5 K27q.1
  obtain ⟨G34, G35, G36⟩ := own_k2 K27q (ninS (Exa.ne G16 G6 (by decide)) (ninS (Exa.neArv G16 G15 (w_ hw 9 rfl)) nin0)) G16 G17 G18
  obtain ⟨G37, G38, G39⟩ := own_k2 K27q (ninS (Exa.ne G19 G6 (by decide)) (ninS (Exa.neArv G19 G15 (w_ hw 9 rfl)) nin0)) G19 G20 G21
  obtain ⟨G40, G41, G42, G43⟩ := own_k3 K27q (ninS (Exa.ne G11 G6 (by decide)) (ninS (Exa.neArv G11 G15 (w_ hw 31 rfl)) nin0)) G11 G12 G13 G14
  have G44 := (G23.keep K27q (ninS (Ne.symm (Exa.neArv G6 G23 (w_ hw 64 rfl))) (ninS zcy nin0)))
  have G45 := (G6.keep K27q)
  have G46 := (G25.keep K27q (ninS (Ne.symm (Exa.neArv G6 G25 (w_ hw 64 rfl))) (ninS zel nin0)))
  have G47 := (own_sta_keep G26 K27q (own_nS (own_nst_exa G6) (own_nS (own_nst_arv G15) own_n0)))
  refine oS (fun _ k => XS.pop X27.here hx rfl (hb hby d44_52) rfl rfl k) ?_
  exact oRV X27 hx hlk hret (hb hby d44_53) ⟨N27, K27, uo0_5, rfl, G33, G40, G41, G42, G43, G28, G29, G30, G31, G32⟩

theorem own_pd29 : parseMethodDescriptor "(C)Ljava/lang/StringBuilder;" = some ⟨[.char], some (.object "java/lang/StringBuilder")⟩ := by decide +kernel
abbrev b45_ : ByteArray := prog_12_method_3_code
theorem d45_0 : decode b45_ 0 = .ok (.aload_n 0, 1) := by decide +kernel
theorem d45_1 : decode b45_ 1 = .ok (.getfield 15, 3) := by decide +kernel
theorem d45_4 : decode b45_ 4 = .ok (.ifCond .eq 10, 3) := by decide +kernel
theorem d45_14 : decode b45_ 14 = .ok (.aload_n 0, 1) := by decide +kernel
theorem d45_15 : decode b45_ 15 = .ok (.invokevirtual 35, 3) := by decide +kernel
theorem d45_18 : decode b45_ 18 = .ok (.iload_n 1, 1) := by decide +kernel
theorem d45_19 : decode b45_ 19 = .ok (.invokevirtual 39, 3) := by decide +kernel
theorem d45_22 : decode b45_ 22 = .ok (.pop, 1) := by decide +kernel
theorem d45_23 : decode b45_ 23 = .ok (.return_, 1) := by decide +kernel
abbrev own_y45 : MethodName := (⟨"com/example/nearfield/nearfield/JoinedText", "append", "(C)V"⟩ : MethodName)
abbrev own_Q59 (Z : State) (ad0 : Addr) (p1 : Int32) (zap : Addr) (zau : List Value) (zag : Int32) (h0 : Heap) (n0 : Nat) (v : Option Value) (h : Heap) (L : List Loc) : Prop := Fr n0 L ∧ Keep h0 h [ad0] ∧ ∃ o0 : Addr, n0 ≤ o0 ∧ h0.size ≤ o0 ∧ ∃ o1 : Addr, n0 ≤ o1 ∧ h0.size ≤ o1 ∧ ∃ (ko0 : ClassId) (uo0 : Value), v = none ∧ Exa Z h ad0 cN3 ∧ Fld Z h ad0 cN3 "piece" "Ljava/lang/String;" (.ref zap) ∧ Fld Z h ad0 cN3 "pieces" "Ljava/lang/StringBuilder;" (.ref o0) ∧ Fld Z h ad0 cN3 "joined" "Z" J1 ∧ Exa Z h o0 cN1 ∧ Fld Z h o0 cN2 "value" "[B" (.ref o1) ∧ Fld Z h o0 cN2 "coder" "B" J0 ∧ Fld Z h o0 cN2 "maybeLatin1" "Z" uo0 ∧ Fld Z h o0 cN2 "count" "I" (.int (((0 : Int32) + zag) + (1 : Int32))) ∧ Arv Z h o1 ko0 .byte (16 : Int32) (List.set (own_cat [J0, J0, J0, J0] zau (0 : Int32) zag) (((0 : Int32) + zag).toNatClampNeg) (.int (nar .byte (p1.toInt8.toInt32)))) J0
theorem own_rm59 {l : Launch} {Z : State} {a0 : Array Value} (hw : own_HW Z a0) (hs : own_HS Z a0) (ad0 : Addr) (p1 : Int32) (zap zbh : Addr) (zbs : ClassId) (zau : List Value) (zag zaa : Int32) (h0 : Heap) (n0 : Nat) (Z0 : n0 ≤ h0.size) (zad : Exa Z h0 ad0 cN3) (zbj : Fld Z h0 ad0 cN3 "joined" "Z" J0) (zbq : Fld Z h0 ad0 cN3 "piece" "Ljava/lang/String;" (.ref zap)) (hB3 : own_T Z h0 zap zbh zbs zag  zau) (zbw : Fld Z h0 ad0 cN3 "pieces" "Ljava/lang/StringBuilder;" .null) (zac : Sta Z h0 cN0 "COMPACT_STRINGS" "Z" (.int zaa)) (hc7_3_12_15 : ¬ (zaa = (0 : Int32))) (zas : n0 ≤ ad0) (zem : ¬ ((0 : Int32) < (((0 : Int32) + zag) - (16 : Int32)))) (zen : ¬ (zag < (0 : Int32))) (zeo : (0 : Int32).toNatClampNeg + zag.toNatClampNeg ≤ (16 : Int32).toNatClampNeg) (zep : (0 : Int32).toNatClampNeg + zag.toNatClampNeg ≤ [J0, J0, J0, J0].length) (zeq : ¬ ((0 : Int32) < ((((0 : Int32) + zag) + (1 : Int32)) - (16 : Int32)))) (zer : ¬ ((255 : Int32) < p1)) (zes : ¬ (((0 : Int32) + zag) < (0 : Int32))) (zet : ((0 : Int32) + zag) < (16 : Int32)) (zeu : ((0 : Int32) + zag).toNatClampNeg < (own_cat [J0, J0, J0, J0] zau (0 : Int32) zag).length) :
    own_Met l own_y45 prog_12_method_3_code 2 none [] (oR 6 2 20 86) #[(.ref ad0), (.int p1)] Z h0 (own_Q59 Z ad0 p1 zap zau zag h0 n0) := by
  refine own_body (plainFor_of_name own_pn5) (own := "com/example/nearfield/nearfield/JoinedText") rfl (L0 := #[rv ad0, iv p1]) fun p e s m below meth c s₁ hx hby hlk hml hown hnm X0 hZ e0 hh hret => ?_
  obtain ⟨zbd, zbz, zca, zbi⟩ := hB3
  have N0 := Fr.nil n0
  have KR : Keep h0 h0 [ad0] := Keep.refl _ _
  refine xaloadN X0 hx (hb hby d45_0) rfl rfl rfl ?_
  refine oG X0 hx hZ hown (w_ hw 45 rfl) e0 zbj (hb hby d45_1) rfl rfl fun T1 X1 e1 => ?_
  refine xifYes X1 hx 4 14 rfl (hb hby d45_4) rfl ((if0 _ _).trans (teq (by decide : (0 : Int32) = (0 : Int32))).1) rfl ?_
  refine xaloadN X1 hx (hb hby d45_14) rfl rfl rfl ?_
  obtain ⟨cq2, q2, q2'⟩ := zad.cell
  obtain ⟨T2, L2, v2, X2, hQ2, st2⟩ := own_un X1 <| X1.privateBack hx (y := own_y43) hown (mvT hZ (w_ hw 57 rfl)) (mvT hZ (w_ hw 58 rfl)) (Jvm.Kit.selects_private (by decide) (mvT hZ (w_ hw 31 rfl)) (mvP hZ (w_ hw 59 rfl)) (mvT hZ (w_ hw 58 rfl))) (Cond.privateMethod_at (mvP hZ (w_ hw 59 rfl) (args := #[]))) (mvT hZ (w_ hw 60 rfl)) (by decide) (backOf (W := 0) (own_rm53 hw hs ad0 zap zbh zbs zau zag zaa h0 n0 Z0 zad zbj zbq ⟨zbd, zbz, zca, zbi⟩ zbw zac hc7_3_12_15 zas zem zen zeo zep) hZ (w_ hw 60 rfl) (w_ hw 32 rfl) (by decide) (by decide)) (g := (mkF m 15 #[rv ad0, iv p1] [(.ref ad0)])) rfl (by rw [hml]; rfl) (Steps.refl _) (a := ad0) (by rw [e1]; exact q2) q2' (argsL := []) (rest := []) (lenOf own_pd28 rfl) rfl (by show 2 * 0 + _ ≤ _; exact Nat.le_of_eq rfl) (hb hby d45_15) (fun _ _ => ⟨rfl, e1, (by decide : 0 + 2 ≤ _), (by decide : 0 + 20 ≤ _)⟩)
  obtain ⟨N2q, K2q, b2_o0, gg2_o0, sz2_o0, b2_o1, gg2_o1, sz2_o1, ko0_2, uo0_2, rfl, G3, G4, G5, G6, G7, G8, G9, G10, G11, G12⟩ := hQ2
  have N2 := Fr.app N0 N2q
  have ne2_o1_wvalue_wpiece_ad0 : zbh ≠ b2_o1 := Nat.ne_of_lt (Nat.lt_of_lt_of_le zbi.lt sz2_o1)
  have K2 := KR.trans K2q (own_aW 0 rfl own_a0)
  have Z2 := Nat.le_trans Z0 K2q.1
  have sy2_o0 : h0.size ≤ b2_o0 := Nat.le_trans KR.1 sz2_o0
  have sy2_o1 : h0.size ≤ b2_o1 := Nat.le_trans KR.1 sz2_o1
  obtain ⟨G13, G14, G15⟩ := own_k2 K2q (ninS (Exa.ne zbd zad (by decide)) nin0) zbd zbz zca
  have G16 := (zad.keep K2q)
  have G17 := (zbi.keep K2q (ninS (Ne.symm (Exa.neArv zad zbi (w_ hw 31 rfl))) nin0))
  have G18 := (own_sta_keep zac K2q (own_nS (own_nst_exa zad) own_n0))
  refine oS (fun _ k => st2.trans k) ?_
  refine xiloadN X2 hx (hb hby d45_18) rfl rfl ?_
  refine oV X2 hx hZ hown hml (w_ hw 138 rfl) (w_ hw 139 rfl) (w_ hw 141 rfl) (w_ hw 140 rfl) (own_rm43 hw hs b2_o0 p1 b2_o1 (((0 : Int32) + zag)) uo0_2 ko0_2 ((own_cat [J0, J0, J0, J0] zau (0 : Int32) zag)) zaa T2.heap n0 Z2 ⟨G7, G8, G9, G11, G10, G12⟩ G18 zeq hc7_3_12_15 zer gg2_o0 zes zet gg2_o1 zeu) (w_ hw 142 rfl) (w_ hw 65 rfl) rfl G7 [(.int p1)] [] 0 (lenOf own_pd29 rfl) rfl (hb hby d45_19) rfl rfl rfl fun T19 L19 v19 X19 hQ19 => ?_
  obtain ⟨N19q, K19q, rfl, G20, G21, G22, G23, G24, G25⟩ := hQ19
  have N19 := Fr.app N2 N19q
  have K19 := K2.trans K19q (own_aB sy2_o1 (own_aB sy2_o0 own_a0))
  have Z19 := Nat.le_trans Z2 K19q.1
  obtain ⟨G26, G27, G28⟩ := own_k2 K19q (ninS (Exa.neArv G13 G12 (w_ hw 9 rfl)) (ninS (Exa.ne G13 G7 (by decide)) nin0)) G13 G14 G15
  obtain ⟨G29, G30, G31, G32⟩ := own_k3 K19q (ninS (Exa.neArv G3 G12 (w_ hw 31 rfl)) (ninS (Exa.ne G3 G7 (by decide)) nin0)) G3 G4 G5 G6
  have G33 := (G17.keep K19q (ninS ne2_o1_wvalue_wpiece_ad0 (ninS (Ne.symm (Exa.neArv G7 G17 (w_ hw 64 rfl))) nin0)))
  have G34 := (own_sta_keep G18 K19q (own_nS (own_nst_arv G12) (own_nS (own_nst_exa G7) own_n0)))
  have G35 := (G7.keep K19q)
  refine oS (fun _ k => XS.pop X19.here hx rfl (hb hby d45_22) rfl rfl k) ?_
  show oF p e below s _ _ _ (T19.setTop (mkF m 23 #[rv ad0, iv p1] []))
  exact oRV X19 hx hlk hret (hb hby d45_23) ⟨N19, K19, b2_o0, gg2_o0, sy2_o0, b2_o1, gg2_o1, sy2_o1, ko0_2, uo0_2, rfl, G29, G30, G31, G32, G21, G22, G23, G24, G25, G20⟩

abbrev own_Q60 (Z : State) (ad0 : Addr) (p1 : Int32) (zap : Addr) (zau : List Value) (zag : Int32) (zaq zay : Addr) (zcc : ClassId) (zbp : List Value) (h0 : Heap) (n0 : Nat) (v : Option Value) (h : Heap) (L : List Loc) : Prop := Fr n0 L ∧ Keep h0 h [zay, ad0, zaq] ∧ ∃ (uo0 : Value), v = none ∧ Arv Z h zay zcc .byte (16 : Int32) (List.set (own_cat zbp zau (0 : Int32) zag) (((0 : Int32) + zag).toNatClampNeg) (.int (nar .byte (p1.toInt8.toInt32)))) J0 ∧ Exa Z h ad0 cN3 ∧ Fld Z h ad0 cN3 "piece" "Ljava/lang/String;" (.ref zap) ∧ Fld Z h ad0 cN3 "pieces" "Ljava/lang/StringBuilder;" (.ref zaq) ∧ Fld Z h ad0 cN3 "joined" "Z" J1 ∧ Exa Z h zaq cN1 ∧ Fld Z h zaq cN2 "value" "[B" (.ref zay) ∧ Fld Z h zaq cN2 "coder" "B" J0 ∧ Fld Z h zaq cN2 "maybeLatin1" "Z" uo0 ∧ Fld Z h zaq cN2 "count" "I" (.int (((0 : Int32) + zag) + (1 : Int32)))
theorem own_rm60 {l : Launch} {Z : State} {a0 : Array Value} (hw : own_HW Z a0) (hs : own_HS Z a0) (ad0 : Addr) (p1 : Int32) (zap zbh : Addr) (zbs : ClassId) (zau : List Value) (zag : Int32) (zaq zay : Addr) (zbt : Int32) (zcw : Value) (zcc : ClassId) (zbp : List Value) (zaa : Int32) (h0 : Heap) (n0 : Nat) (Z0 : n0 ≤ h0.size) (zad : Exa Z h0 ad0 cN3) (zbj : Fld Z h0 ad0 cN3 "joined" "Z" J0) (zbq : Fld Z h0 ad0 cN3 "piece" "Ljava/lang/String;" (.ref zap)) (hB3 : own_T Z h0 zap zbh zbs zag  zau) (zbw : Fld Z h0 ad0 cN3 "pieces" "Ljava/lang/StringBuilder;" (.ref zaq)) (hB8 : own_U Z h0 zaq zay zcc (.int zbt) zcw zbp) (zac : Sta Z h0 cN0 "COMPACT_STRINGS" "Z" (.int zaa)) (hc23_2_23_15 : ¬ (zbt < (0 : Int32))) (zdd : n0 ≤ zaq) (zas : n0 ≤ ad0) (hc3_6_10_2_39_15 : ¬ (zaa = (0 : Int32))) (zem : ¬ ((0 : Int32) < (((0 : Int32) + zag) - (16 : Int32)))) (zdh : n0 ≤ zay) (zen : ¬ (zag < (0 : Int32))) (zeo : (0 : Int32).toNatClampNeg + zag.toNatClampNeg ≤ (16 : Int32).toNatClampNeg) (zep : (0 : Int32).toNatClampNeg + zag.toNatClampNeg ≤ zbp.length) (zcy : zbh ≠ zay) (zeq : ¬ ((0 : Int32) < ((((0 : Int32) + zag) + (1 : Int32)) - (16 : Int32)))) (zer : ¬ ((255 : Int32) < p1)) (zes : ¬ (((0 : Int32) + zag) < (0 : Int32))) (zet : ((0 : Int32) + zag) < (16 : Int32)) (zeu : ((0 : Int32) + zag).toNatClampNeg < (own_cat zbp zau (0 : Int32) zag).length) :
    own_Met l own_y45 prog_12_method_3_code 2 none [] (oR 6 0 0 86) #[(.ref ad0), (.int p1)] Z h0 (own_Q60 Z ad0 p1 zap zau zag zaq zay zcc zbp h0 n0) := by
  refine own_body (plainFor_of_name own_pn5) (own := "com/example/nearfield/nearfield/JoinedText") rfl (L0 := #[rv ad0, iv p1]) fun p e s m below meth c s₁ hx hby hlk hml hown hnm X0 hZ e0 hh hret => ?_
  obtain ⟨zbd, zbz, zca, zbi⟩ := hB3
  obtain ⟨zbr, zde, zdf, zcz, zdg, zcl⟩ := hB8
  have N0 := Fr.nil n0
  have KR : Keep h0 h0 [zay, ad0, zaq] := Keep.refl _ _
  refine xaloadN X0 hx (hb hby d45_0) rfl rfl rfl ?_
  refine oG X0 hx hZ hown (w_ hw 45 rfl) e0 zbj (hb hby d45_1) rfl rfl fun T1 X1 e1 => ?_
  refine xifYes X1 hx 4 14 rfl (hb hby d45_4) rfl ((if0 _ _).trans (teq (by decide : (0 : Int32) = (0 : Int32))).1) rfl ?_
  refine xaloadN X1 hx (hb hby d45_14) rfl rfl rfl ?_
  obtain ⟨cq2, q2, q2'⟩ := zad.cell
  obtain ⟨T2, L2, v2, X2, hQ2, st2⟩ := own_un X1 <| X1.privateBack hx (y := own_y43) hown (mvT hZ (w_ hw 57 rfl)) (mvT hZ (w_ hw 58 rfl)) (Jvm.Kit.selects_private (by decide) (mvT hZ (w_ hw 31 rfl)) (mvP hZ (w_ hw 59 rfl)) (mvT hZ (w_ hw 58 rfl))) (Cond.privateMethod_at (mvP hZ (w_ hw 59 rfl) (args := #[]))) (mvT hZ (w_ hw 60 rfl)) (by decide) (backOf (W := 0) (own_rm54 hw hs ad0 zap zbh zbs zau zag zaq zay zbt zcw zcc zbp zaa h0 n0 Z0 zad zbj zbq ⟨zbd, zbz, zca, zbi⟩ zbw ⟨zbr, zde, zdf, zcz, zdg, zcl⟩ zac hc23_2_23_15 zdd zas hc3_6_10_2_39_15 zem zdh zen zeo zep zcy) hZ (w_ hw 60 rfl) (w_ hw 32 rfl) (by decide) (by decide)) (g := (mkF m 15 #[rv ad0, iv p1] [(.ref ad0)])) rfl (by rw [hml]; rfl) (Steps.refl _) (a := ad0) (by rw [e1]; exact q2) q2' (argsL := []) (rest := []) (lenOf own_pd28 rfl) rfl (by show 2 * 0 + _ ≤ _; exact Nat.le_of_eq rfl) (hb hby d45_15) (fun _ _ => ⟨rfl, e1, (by decide : 0 + 0 ≤ _), (by decide : 0 + 0 ≤ _)⟩)
  obtain ⟨N2q, K2q, uo0_2, rfl, G3, G4, G5, G6, G7, G8, G9, G10, G11, G12⟩ := hQ2
  have N2 := Fr.app N0 N2q
  have K2 := KR.trans K2q (own_aW 2 rfl (own_aW 1 rfl (own_aW 0 rfl own_a0)))
  have Z2 := Nat.le_trans Z0 K2q.1
  obtain ⟨G13, G14, G15⟩ := own_k2 K2q (ninS (Exa.ne zbd zbr (by decide)) (ninS (Exa.ne zbd zad (by decide)) (ninS (Exa.neArv zbd zcl (w_ hw 9 rfl)) nin0))) zbd zbz zca
  have G16 := (zad.keep K2q)
  have G17 := (zbi.keep K2q (ninS (Ne.symm (Exa.neArv zbr zbi (w_ hw 64 rfl))) (ninS (Ne.symm (Exa.neArv zad zbi (w_ hw 31 rfl))) (ninS zcy nin0))))
  have G18 := (zbr.keep K2q)
  have G19 := (own_sta_keep zac K2q (own_nS (own_nst_exa zbr) (own_nS (own_nst_exa zad) (own_nS (own_nst_arv zcl) own_n0))))
  refine oS (fun _ k => st2.trans k) ?_
  refine xiloadN X2 hx (hb hby d45_18) rfl rfl ?_
  refine oV X2 hx hZ hown hml (w_ hw 138 rfl) (w_ hw 139 rfl) (w_ hw 141 rfl) (w_ hw 140 rfl) (own_rm43 hw hs zaq p1 zay (((0 : Int32) + zag)) uo0_2 zcc ((own_cat zbp zau (0 : Int32) zag)) zaa T2.heap n0 Z2 ⟨G3, G4, G5, G7, G6, G12⟩ G19 zeq hc3_6_10_2_39_15 zer zdd zes zet zdh zeu) (w_ hw 142 rfl) (w_ hw 65 rfl) rfl G3 [(.int p1)] [] 0 (lenOf own_pd29 rfl) rfl (hb hby d45_19) rfl rfl rfl fun T20 L20 v20 X20 hQ20 => ?_
  obtain ⟨N20q, K20q, rfl, G21, G22, G23, G24, G25, G26⟩ := hQ20
  have N20 := Fr.app N2 N20q
  have K20 := K2.trans K20q (own_aW 0 rfl (own_aW 2 rfl own_a0))
  have Z20 := Nat.le_trans Z2 K20q.1
  obtain ⟨G27, G28, G29⟩ := own_k2 K20q (ninS (Exa.neArv G13 G12 (w_ hw 9 rfl)) (ninS (Exa.ne G13 G3 (by decide)) nin0)) G13 G14 G15
  obtain ⟨G30, G31, G32, G33⟩ := own_k3 K20q (ninS (Exa.neArv G8 G12 (w_ hw 31 rfl)) (ninS (Exa.ne G8 G3 (by decide)) nin0)) G8 G9 G10 G11
  have G34 := (G17.keep K20q (ninS zcy (ninS (Ne.symm (Exa.neArv G3 G17 (w_ hw 64 rfl))) nin0)))
  have G35 := (G3.keep K20q)
  have G36 := (own_sta_keep G19 K20q (own_nS (own_nst_arv G12) (own_nS (own_nst_exa G3) own_n0)))
  refine oS (fun _ k => XS.pop X20.here hx rfl (hb hby d45_22) rfl rfl k) ?_
  show oF p e below s _ _ _ (T20.setTop (mkF m 23 #[rv ad0, iv p1] []))
  exact oRV X20 hx hlk hret (hb hby d45_23) ⟨N20, K20, uo0_2, rfl, G21, G30, G31, G32, G33, G22, G23, G24, G25, G26⟩

abbrev b46_ : ByteArray := prog_12_method_4_code
theorem d46_0 : decode b46_ 0 = .ok (.aload_n 0, 1) := by decide +kernel
theorem d46_1 : decode b46_ 1 = .ok (.getfield 15, 3) := by decide +kernel
theorem d46_4 : decode b46_ 4 = .ok (.ifCond .eq 13, 3) := by decide +kernel
theorem d46_17 : decode b46_ 17 = .ok (.aload_n 0, 1) := by decide +kernel
theorem d46_18 : decode b46_ 18 = .ok (.getfield 9, 3) := by decide +kernel
theorem d46_21 : decode b46_ 21 = .ok (.invokevirtual 46, 3) := by decide +kernel
theorem d46_24 : decode b46_ 24 = .ok (.ireturn, 1) := by decide +kernel
abbrev own_y46 : MethodName := (⟨"com/example/nearfield/nearfield/JoinedText", "length", "()I"⟩ : MethodName)
theorem own_rm61 {l : Launch} {Z : State} {a0 : Array Value} (hw : own_HW Z a0) (hs : own_HS Z a0) (ad0 zap zbh : Addr) (zbs : ClassId) (zau : List Value) (zag : Int32) (zci : Value) (zaa : Int32) (h0 : Heap) (n0 : Nat) (Z0 : n0 ≤ h0.size) (zad : Exa Z h0 ad0 cN3) (zbj : Fld Z h0 ad0 cN3 "joined" "Z" J0) (zbq : Fld Z h0 ad0 cN3 "piece" "Ljava/lang/String;" (.ref zap)) (hB3 : own_T Z h0 zap zbh zbs zag  zau) (zbw : Fld Z h0 ad0 cN3 "pieces" "Ljava/lang/StringBuilder;" zci) (zac : Sta Z h0 cN0 "COMPACT_STRINGS" "Z" (.int zaa)) (hc3_6_21 : ¬ (zaa = (0 : Int32))) :
    own_Met l own_y46 prog_12_method_4_code 1 (some .int) [] (oR 2 0 0 25) #[(.ref ad0)] Z h0 (oQ (some (.int zag)) h0 n0) := by
  refine own_body (plainFor_of_name own_pn5) (own := "com/example/nearfield/nearfield/JoinedText") rfl (L0 := #[rv ad0]) fun p e s m below meth c s₁ hx hby hlk hml hown hnm X0 hZ e0 hh hret => ?_
  obtain ⟨zbd, zbz, zca, zbi⟩ := hB3
  have N0 := Fr.nil n0
  refine xaloadN X0 hx (hb hby d46_0) rfl rfl rfl ?_
  refine oG X0 hx hZ hown (w_ hw 45 rfl) e0 zbj (hb hby d46_1) rfl rfl fun T1 X1 e1 => ?_
  refine xifYes X1 hx 4 17 rfl (hb hby d46_4) rfl ((if0 _ _).trans (teq (by decide : (0 : Int32) = (0 : Int32))).1) rfl ?_
  refine xaloadN X1 hx (hb hby d46_17) rfl rfl rfl ?_
  refine oG X1 hx hZ hown (w_ hw 38 rfl) e1 zbq (hb hby d46_18) rfl rfl fun T2 X2 e2 => ?_
  refine oV X2 hx hZ hown hml (w_ hw 166 rfl) (w_ hw 108 rfl) (w_ hw 110 rfl) (w_ hw 109 rfl) (own_rm4 hw hs zap zbh zbs zau zag zaa h0 n0 Z0 ⟨zbd, zbz, zca, zbi⟩ zac hc3_6_21) (w_ hw 111 rfl) (w_ hw 10 rfl) e2 zbd [] [] 0 (lenOf own_pd18 rfl) rfl (hb hby d46_21) rfl rfl rfl fun T3 L3 v3 X3 hQ3 => ?_
  obtain ⟨rfl, N3q, e3⟩ := hQ3
  have N3 := Fr.app N0 N3q
  exact oRI X3 hx hlk hret (hb hby d46_24) (by rw [e3]; exact ⟨rfl, N3, rfl⟩)

theorem d46_7 : decode b46_ 7 = .ok (.aload_n 0, 1) := by decide +kernel
theorem d46_8 : decode b46_ 8 = .ok (.getfield 19, 3) := by decide +kernel
theorem d46_11 : decode b46_ 11 = .ok (.invokevirtual 42, 3) := by decide +kernel
theorem d46_14 : decode b46_ 14 = .ok (.goto 10, 3) := by decide +kernel
theorem own_rm62 {l : Launch} {Z : State} {a0 : Array Value} (hw : own_HW Z a0) (hs : own_HS Z a0) (ad0 zaq : Addr) (zbt : Int32) (h0 : Heap) (n0 : Nat) (Z0 : n0 ≤ h0.size) (zad : Exa Z h0 ad0 cN3) (zbj : Fld Z h0 ad0 cN3 "joined" "Z" J1) (zbw : Fld Z h0 ad0 cN3 "pieces" "Ljava/lang/StringBuilder;" (.ref zaq)) (zbr : Exa Z h0 zaq cN1) (zcz : Fld Z h0 zaq cN2 "count" "I" (.int zbt)) :
    own_Met l own_y46 prog_12_method_4_code 1 (some .int) [] (oR 2 0 0 24) #[(.ref ad0)] Z h0 (oQ (some (.int zbt)) h0 n0) := by
  refine own_body (plainFor_of_name own_pn5) (own := "com/example/nearfield/nearfield/JoinedText") rfl (L0 := #[rv ad0]) fun p e s m below meth c s₁ hx hby hlk hml hown hnm X0 hZ e0 hh hret => ?_
  have N0 := Fr.nil n0
  refine xaloadN X0 hx (hb hby d46_0) rfl rfl rfl ?_
  refine oG X0 hx hZ hown (w_ hw 45 rfl) e0 zbj (hb hby d46_1) rfl rfl fun T1 X1 e1 => ?_
  refine xifNo X1 hx (hb hby d46_4) rfl ((if0 _ _).trans (feq (by decide : ¬ ((1 : Int32) = (0 : Int32)))).1) rfl ?_
  refine xaloadN X1 hx (hb hby d46_7) rfl rfl rfl ?_
  refine oG X1 hx hZ hown (w_ hw 61 rfl) e1 zbw (hb hby d46_8) rfl rfl fun T2 X2 e2 => ?_
  refine oV X2 hx hZ hown hml (w_ hw 225 rfl) (w_ hw 226 rfl) (w_ hw 227 rfl) (w_ hw 207 rfl) (own_rm45 hw hs zaq zbt h0 n0 Z0 zbr zcz) (w_ hw 208 rfl) (w_ hw 65 rfl) e2 zbr [] [] 0 (lenOf own_pd18 rfl) rfl (hb hby d46_11) rfl rfl rfl fun T3 L3 v3 X3 hQ3 => ?_
  obtain ⟨rfl, N3q, e3⟩ := hQ3
  have N3 := Fr.app N0 N3q
  refine xgoto X3 hx 14 24 rfl (hb hby d46_14) rfl ?_
  exact oRI X3 hx hlk hret (hb hby d46_24) (by rw [e3]; exact ⟨rfl, N3, rfl⟩)

abbrev b47_ : ByteArray := prog_12_method_6_code
theorem d47_0 : decode b47_ 0 = .ok (.aload_n 0, 1) := by decide +kernel
theorem d47_1 : decode b47_ 1 = .ok (.getfield 15, 3) := by decide +kernel
theorem d47_4 : decode b47_ 4 = .ok (.ifCond .eq 13, 3) := by decide +kernel
theorem d47_17 : decode b47_ 17 = .ok (.aload_n 0, 1) := by decide +kernel
theorem d47_18 : decode b47_ 18 = .ok (.getfield 9, 3) := by decide +kernel
theorem d47_21 : decode b47_ 21 = .ok (.areturn, 1) := by decide +kernel
abbrev own_y47 : MethodName := (⟨"com/example/nearfield/nearfield/JoinedText", "toString", "()Ljava/lang/String;"⟩ : MethodName)
theorem own_rm63 {l : Launch} {Z : State} {a0 : Array Value} (hw : own_HW Z a0) (hs : own_HS Z a0) (ad0 zap : Addr) (h0 : Heap) (n0 : Nat) (Z0 : n0 ≤ h0.size) (zbj : Fld Z h0 ad0 cN3 "joined" "Z" J0) (zbq : Fld Z h0 ad0 cN3 "piece" "Ljava/lang/String;" (.ref zap)) :
    own_Met l own_y47 prog_12_method_6_code 1 (some (.object cN0)) [] (oR 0 0 0 0) #[(.ref ad0)] Z h0 (oQ (some (.ref zap)) h0 n0) := by
  refine own_body (plainFor_of_name own_pn5) (own := "com/example/nearfield/nearfield/JoinedText") rfl (L0 := #[rv ad0]) fun p e s m below meth c s₁ hx hby hlk hml hown hnm X0 hZ e0 hh hret => ?_
  have N0 := Fr.nil n0
  refine xaloadN X0 hx (hb hby d47_0) rfl rfl rfl ?_
  refine oG X0 hx hZ hown (w_ hw 45 rfl) e0 zbj (hb hby d47_1) rfl rfl fun T1 X1 e1 => ?_
  refine xifYes X1 hx 4 17 rfl (hb hby d47_4) rfl ((if0 _ _).trans (teq (by decide : (0 : Int32) = (0 : Int32))).1) rfl ?_
  refine xaloadN X1 hx (hb hby d47_17) rfl rfl rfl ?_
  refine oG X1 hx hZ hown (w_ hw 38 rfl) e1 zbq (hb hby d47_18) rfl rfl fun T2 X2 e2 => ?_
  exact oRA X2 hx hlk hret rfl rfl rfl (hb hby d47_21) (by rw [e2]; exact ⟨rfl, N0, rfl⟩)

theorem own_pd30 : parseMethodDescriptor "()Ljava/lang/String;" = some ⟨[], some (.object "java/lang/String")⟩ := by decide +kernel
theorem d47_7 : decode b47_ 7 = .ok (.aload_n 0, 1) := by decide +kernel
theorem d47_8 : decode b47_ 8 = .ok (.getfield 19, 3) := by decide +kernel
theorem d47_11 : decode b47_ 11 = .ok (.invokevirtual 47, 3) := by decide +kernel
theorem d47_14 : decode b47_ 14 = .ok (.goto 7, 3) := by decide +kernel
abbrev own_Q64 (Z : State) (zbt : Int32) (zbp : List Value) (h0 : Heap) (n0 : Nat) (v : Option Value) (h : Heap) (L : List Loc) : Prop := Fr n0 L ∧ Keep h0 h [] ∧ ∃ o0 : Addr, n0 ≤ o0 ∧ h0.size ≤ o0 ∧ ∃ o1 : Addr, n0 ≤ o1 ∧ h0.size ≤ o1 ∧ ∃ (ko0 : ClassId), v = some (.ref o0) ∧ Exa Z h o0 cN0 ∧ Fld Z h o0 cN0 "coder" "B" J0 ∧ Fld Z h o0 cN0 "value" "[B" (.ref o1) ∧ Arv Z h o1 ko0 .byte zbt (own_cat [J0, J0, J0, J0] zbp (0 : Int32) zbt) J0
theorem own_rm64 {l : Launch} {Z : State} {a0 : Array Value} (hw : own_HW Z a0) (hs : own_HS Z a0) (ad0 : Addr) (zdn : Value) (zaq zay : Addr) (zbt : Int32) (zcw : Value) (zcc : ClassId) (zbp : List Value) (zaa : Int32) (h0 : Heap) (n0 : Nat) (Z0 : n0 ≤ h0.size) (zad : Exa Z h0 ad0 cN3) (zbj : Fld Z h0 ad0 cN3 "joined" "Z" J1) (zbq : Fld Z h0 ad0 cN3 "piece" "Ljava/lang/String;" zdn) (zbw : Fld Z h0 ad0 cN3 "pieces" "Ljava/lang/StringBuilder;" (.ref zaq)) (hB4 : own_U Z h0 zaq zay zcc (.int zbt) zcw zbp) (zac : Sta Z h0 cN0 "COMPACT_STRINGS" "Z" (.int zaa)) (hc3_16_3_5_11 : ¬ (zaa = (0 : Int32))) (hc7_32_3_5_11 : ¬ (zbt = (16 : Int32))) (hc2_2_13_32_3_5_11 : ¬ (zbt < (0 : Int32))) (hcp_10_13_32_3_5_11 : zbt.toNatClampNeg ≤ 4) (h16_24_13_32_3_5_11 : zbt < (16 : Int32)) (hsp_27_13_32_3_5_11 : (0 : Int32).toNatClampNeg + zbt.toNatClampNeg ≤ (16 : Int32).toNatClampNeg) (hle_27_13_32_3_5_11 : (0 : Int32).toNatClampNeg + zbt.toNatClampNeg ≤ [J0, J0, J0, J0].length) :
    own_Met l own_y47 prog_12_method_6_code 1 (some (.object cN0)) [] (oR 6 2 8 91) #[(.ref ad0)] Z h0 (own_Q64 Z zbt zbp h0 n0) := by
  refine own_body (plainFor_of_name own_pn5) (own := "com/example/nearfield/nearfield/JoinedText") rfl (L0 := #[rv ad0]) fun p e s m below meth c s₁ hx hby hlk hml hown hnm X0 hZ e0 hh hret => ?_
  obtain ⟨zbr, zde, zdf, zcz, zdg, zcl⟩ := hB4
  have N0 := Fr.nil n0
  have KR : Keep h0 h0 [] := Keep.refl _ _
  refine xaloadN X0 hx (hb hby d47_0) rfl rfl rfl ?_
  refine oG X0 hx hZ hown (w_ hw 45 rfl) e0 zbj (hb hby d47_1) rfl rfl fun T1 X1 e1 => ?_
  refine xifNo X1 hx (hb hby d47_4) rfl ((if0 _ _).trans (feq (by decide : ¬ ((1 : Int32) = (0 : Int32)))).1) rfl ?_
  refine xaloadN X1 hx (hb hby d47_7) rfl rfl rfl ?_
  refine oG X1 hx hZ hown (w_ hw 61 rfl) e1 zbw (hb hby d47_8) rfl rfl fun T2 X2 e2 => ?_
  refine oV X2 hx hZ hown hml (w_ hw 186 rfl) (w_ hw 187 rfl) (w_ hw 189 rfl) (w_ hw 188 rfl) (own_rm52 hw hs zaq zay zbt zcw zcc zbp zaa h0 n0 Z0 ⟨zbr, zde, zdf, zcz, zdg, zcl⟩ zac hc3_16_3_5_11 hc7_32_3_5_11 hc2_2_13_32_3_5_11 hcp_10_13_32_3_5_11 h16_24_13_32_3_5_11 hsp_27_13_32_3_5_11 hle_27_13_32_3_5_11) (w_ hw 190 rfl) (w_ hw 65 rfl) e2 zbr [] [] 0 (lenOf own_pd30 rfl) rfl (hb hby d47_11) rfl rfl rfl fun T3 L3 v3 X3 hQ3 => ?_
  obtain ⟨N3q, K3q, b3_o0, gg3_o0, sz3_o0, b3_o1, gg3_o1, sz3_o1, ko0_3, rfl, G4, G5, G6, G7⟩ := hQ3
  have N3 := Fr.app N0 N3q
  have ne3_o1_wvalue_wpieces_ad0 : zay ≠ b3_o1 := Nat.ne_of_lt (Nat.lt_of_lt_of_le zcl.lt sz3_o1)
  have K3 := KR.trans K3q own_a0
  have Z3 := Nat.le_trans Z0 K3q.1
  have sy3_o0 : h0.size ≤ b3_o0 := Nat.le_trans KR.1 sz3_o0
  have sy3_o1 : h0.size ≤ b3_o1 := Nat.le_trans KR.1 sz3_o1
  obtain ⟨G8, G9, G10, G11⟩ := own_k3 K3q nin0 zad zbj zbq zbw
  obtain ⟨G12, G13, G14, G15, G16⟩ := own_k4 K3q nin0 zbr zde zdf zcz zdg
  have G17 := (zcl.keep K3q nin0)
  have G18 := (own_sta_keep0 zac K3q)
  refine xgoto X3 hx 14 21 rfl (hb hby d47_14) rfl ?_
  exact oRA X3 hx hlk hret rfl rfl rfl (hb hby d47_21) ⟨N3, K3, b3_o0, gg3_o0, sy3_o0, b3_o1, gg3_o1, sy3_o1, ko0_3, rfl, G4, G5, G6, G7⟩

theorem own_pd31 : parseMethodDescriptor "(I)C" = some ⟨[.int], some .char⟩ := by decide +kernel
abbrev b48_ : ByteArray := method_3_code
theorem d48_0 : decode b48_ 0 = .ok (.iconst 1, 1) := by decide +kernel
theorem d48_1 : decode b48_ 1 = .ok (.istore_n 3, 1) := by decide +kernel
theorem d48_2 : decode b48_ 2 = .ok (.aload_n 2, 1) := by decide +kernel
theorem d48_3 : decode b48_ 3 = .ok (.invokevirtual 22, 3) := by decide +kernel
theorem d48_6 : decode b48_ 6 = .ok (.iconst 1, 1) := by decide +kernel
theorem d48_7 : decode b48_ 7 = .ok (.if_icmp .lt 34, 3) := by decide +kernel
theorem d48_10 : decode b48_ 10 = .ok (.iload_n 3, 1) := by decide +kernel
theorem d48_11 : decode b48_ 11 = .ok (.ifCond .eq 28, 3) := by decide +kernel
theorem d48_14 : decode b48_ 14 = .ok (.iload_n 1, 1) := by decide +kernel
theorem d48_15 : decode b48_ 15 = .ok (.aload_n 0, 1) := by decide +kernel
theorem d48_16 : decode b48_ 16 = .ok (.invokevirtual 22, 3) := by decide +kernel
theorem d48_19 : decode b48_ 19 = .ok (.if_icmp .ge 20, 3) := by decide +kernel
theorem d48_22 : decode b48_ 22 = .ok (.aload_n 0, 1) := by decide +kernel
theorem d48_23 : decode b48_ 23 = .ok (.iload_n 1, 1) := by decide +kernel
theorem d48_24 : decode b48_ 24 = .ok (.invokevirtual 26, 3) := by decide +kernel
theorem d48_27 : decode b48_ 27 = .ok (.aload_n 2, 1) := by decide +kernel
theorem d48_28 : decode b48_ 28 = .ok (.iconst 0, 1) := by decide +kernel
theorem d48_29 : decode b48_ 29 = .ok (.invokevirtual 26, 3) := by decide +kernel
theorem d48_32 : decode b48_ 32 = .ok (.if_icmp .ne 7, 3) := by decide +kernel
theorem d48_35 : decode b48_ 35 = .ok (.iconst 1, 1) := by decide +kernel
theorem d48_36 : decode b48_ 36 = .ok (.goto 4, 3) := by decide +kernel
theorem d48_40 : decode b48_ 40 = .ok (.istore_n 3, 1) := by decide +kernel
theorem d48_41 : decode b48_ 41 = .ok (.aload_n 2, 1) := by decide +kernel
theorem d48_42 : decode b48_ 42 = .ok (.invokevirtual 22, 3) := by decide +kernel
theorem d48_45 : decode b48_ 45 = .ok (.iconst 2, 1) := by decide +kernel
theorem d48_46 : decode b48_ 46 = .ok (.if_icmp .lt 38, 3) := by decide +kernel
theorem d48_84 : decode b48_ 84 = .ok (.iload_n 3, 1) := by decide +kernel
theorem d48_85 : decode b48_ 85 = .ok (.ireturn, 1) := by decide +kernel
abbrev own_y48 : MethodName := (⟨"com/example/nearfield/nearfield/JoinedTextClearPinLaw", "same", "(Ljava/lang/String;ILjava/lang/String;)Z"⟩ : MethodName)
theorem own_rm65 {l : Launch} {Z : State} {a0 : Array Value} (hw : own_HW Z a0) (hs : own_HS Z a0) (ad0 ad2 : Addr) (zaa : Int32) (zab : Value) (x0 x1 x2 x3 y1 y2 y3 : Int32) (zae : Addr) (zaj : ClassId) (zai : Int32) (zba : Addr) (zbb : ClassId) (h0 : Heap) (n0 : Nat) (Z0 : n0 ≤ h0.size) (zac : Sta Z h0 cN0 "COMPACT_STRINGS" "Z" (.int zaa)) (zaf : zab.isRef = true) (zan : Sta Z h0 "jdk/internal/util/Preconditions" "SIOOBE_FORMATTER" "Ljava/util/function/BiFunction;" zab) (hB3 : own_S Z h0 ad0 zae zaj zai  x0 x1 x2 x3) (zbo : ¬ (zai < (1 : Int32))) (hB8 : own_S Z h0 ad2 zba zbb (1 : Int32)  x0 y1 y2 y3) (zaw : ¬ (zaa = (0 : Int32))) :
    own_Met l own_y48 method_3_code 4 (some .boolean) [] (oR 4 0 0 54) #[(.ref ad0), J0, (.ref ad2)] Z h0 (oQ (some J1) h0 n0) := by
  refine own_body (plainFor_of_name own_pn4) (own := "com/example/nearfield/nearfield/JoinedTextClearPinLaw") rfl (L0 := #[rv ad0, iv (0 : Int32), rv ad2, .unset]) fun p e s m below meth c s₁ hx hby hlk hml hown hnm X0 hZ e0 hh hret => ?_
  obtain ⟨zad, zal, zak, zam⟩ := hB3
  obtain ⟨zar, zbl, zbk, zbm⟩ := hB8
  have N0 := Fr.nil n0
  refine xiconst X0 hx (hb hby d48_0) rfl ?_
  refine xistoreN X0 hx (hb hby d48_1) rfl (l' := #[rv ad0, iv (0 : Int32), rv ad2, iv (1 : Int32)]) rfl rfl ?_
  refine xaloadN X0 hx (hb hby d48_2) rfl rfl rfl ?_
  refine oV X0 hx hZ hown hml (w_ hw 224 rfl) (w_ hw 108 rfl) (w_ hw 110 rfl) (w_ hw 109 rfl) (own_rm4 hw hs ad2 zba zbb ([(.int x0), (.int y1), (.int y2), (.int y3)]) ((1 : Int32)) zaa h0 n0 Z0 ⟨zar, zbl, zbk, zbm⟩ zac zaw) (w_ hw 111 rfl) (w_ hw 10 rfl) e0 zar [] [] 0 (lenOf own_pd18 rfl) rfl (hb hby d48_3) rfl rfl rfl fun T1 L1 v1 X1 hQ1 => ?_
  obtain ⟨rfl, N1q, e1⟩ := hQ1
  have N1 := Fr.app N0 N1q
  refine xiconst X1 hx (hb hby d48_6) rfl ?_
  refine xicmpNo X1 hx (hb hby d48_7) rfl (flt (by decide : ¬ ((1 : Int32) < (1 : Int32)))).1 rfl ?_
  refine xiloadN X1 hx (hb hby d48_10) rfl rfl ?_
  refine xifNo X1 hx (hb hby d48_11) rfl ((if0 _ _).trans (feq (by decide : ¬ ((1 : Int32) = (0 : Int32)))).1) rfl ?_
  refine xiloadN X1 hx (hb hby d48_14) rfl rfl ?_
  refine xaloadN X1 hx (hb hby d48_15) rfl rfl rfl ?_
  show oF p e below s _ _ _ (T1.setTop (mkF m 16 #[rv ad0, iv (0 : Int32), rv ad2, iv (1 : Int32)] [(.ref ad0), J0]))
  refine oV X1 hx hZ hown hml (w_ hw 224 rfl) (w_ hw 108 rfl) (w_ hw 110 rfl) (w_ hw 109 rfl) (own_rm4 hw hs ad0 zae zaj ([(.int x0), (.int x1), (.int x2), (.int x3)]) zai zaa h0 n0 Z0 ⟨zad, zal, zak, zam⟩ zac zaw) (w_ hw 111 rfl) (w_ hw 10 rfl) e1 zad [] [J0] 1 (lenOf own_pd18 rfl) rfl (hb hby d48_16) rfl rfl rfl fun T2 L2 v2 X2 hQ2 => ?_
  obtain ⟨rfl, N2q, e2⟩ := hQ2
  have N2 := Fr.app N1 N2q
  have hf3 : (0 : Int32) < zai := own_ltn zbo (by decide)
  refine xicmpNo X2 hx (hb hby d48_19) rfl (tlt hf3).2.1 rfl ?_
  refine xaloadN X2 hx (hb hby d48_22) rfl rfl rfl ?_
  refine xiloadN X2 hx (hb hby d48_23) rfl rfl ?_
  refine oV X2 hx hZ hown hml (w_ hw 231 rfl) (w_ hw 232 rfl) (w_ hw 234 rfl) (w_ hw 233 rfl) (own_rm13 hw hs ad0 zae zaj x0 x1 x2 x3 zai zaa zab h0 n0 Z0 ⟨zad, zal, zak, zam⟩ (show ¬ (zai < (1 : Int32)) from own_lem zbo (by decide)) zac zaw zaf zan) (w_ hw 235 rfl) (w_ hw 10 rfl) e2 zad [J0] [] 0 (lenOf own_pd31 rfl) rfl (hb hby d48_24) rfl rfl rfl fun T4 L4 v4 X4 hQ4 => ?_
  obtain ⟨rfl, N4q, e4⟩ := hQ4
  have N4 := Fr.app N2 N4q
  refine xaloadN X4 hx (hb hby d48_27) rfl rfl rfl ?_
  refine xiconst X4 hx (hb hby d48_28) rfl ?_
  refine oV X4 hx hZ hown hml (w_ hw 231 rfl) (w_ hw 232 rfl) (w_ hw 234 rfl) (w_ hw 233 rfl) (own_rm13 hw hs ad2 zba zbb x0 y1 y2 y3 ((1 : Int32)) zaa zab h0 n0 Z0 ⟨zar, zbl, zbk, zbm⟩ (show ¬ ((1 : Int32) < (1 : Int32)) from (by first | decide | assumption | exact Nat.le_of_ble_eq_true rfl)) zac zaw zaf zan) (w_ hw 235 rfl) (w_ hw 10 rfl) e4 zar [J0] [(.int (nar .char (nar .char ((x0 &&& (255 : Int32)).toUInt32.toUInt16.toUInt32.toInt32))))] 1 (lenOf own_pd31 rfl) rfl (hb hby d48_29) rfl rfl rfl fun T5 L5 v5 X5 hQ5 => ?_
  obtain ⟨rfl, N5q, e5⟩ := hQ5
  have N5 := Fr.app N4 N5q
  show oF p e below s _ _ _ (T5.setTop (mkF m 32 #[rv ad0, iv (0 : Int32), rv ad2, iv (1 : Int32)] [(.int (nar .char (nar .char ((x0 &&& (255 : Int32)).toUInt32.toUInt16.toUInt32.toInt32)))), (.int (nar .char (nar .char ((x0 &&& (255 : Int32)).toUInt32.toUInt16.toUInt32.toInt32))))]))
  refine xicmpNo X5 hx (hb hby d48_32) rfl (teq (rfl : (nar .char (nar .char ((x0 &&& (255 : Int32)).toUInt32.toUInt16.toUInt32.toInt32))) = (nar .char (nar .char ((x0 &&& (255 : Int32)).toUInt32.toUInt16.toUInt32.toInt32))))).2 rfl ?_
  refine xiconst X5 hx (hb hby d48_35) rfl ?_
  refine xgoto X5 hx 36 40 rfl (hb hby d48_36) rfl ?_
  refine xistoreN X5 hx (hb hby d48_40) rfl (l' := #[rv ad0, iv (0 : Int32), rv ad2, iv (1 : Int32)]) rfl rfl ?_
  refine xaloadN X5 hx (hb hby d48_41) rfl rfl rfl ?_
  refine oV X5 hx hZ hown hml (w_ hw 224 rfl) (w_ hw 108 rfl) (w_ hw 110 rfl) (w_ hw 109 rfl) (own_rm4 hw hs ad2 zba zbb ([(.int x0), (.int y1), (.int y2), (.int y3)]) ((1 : Int32)) zaa h0 n0 Z0 ⟨zar, zbl, zbk, zbm⟩ zac zaw) (w_ hw 111 rfl) (w_ hw 10 rfl) e5 zar [] [] 0 (lenOf own_pd18 rfl) rfl (hb hby d48_42) rfl rfl rfl fun T6 L6 v6 X6 hQ6 => ?_
  obtain ⟨rfl, N6q, e6⟩ := hQ6
  have N6 := Fr.app N5 N6q
  refine xiconst X6 hx (hb hby d48_45) rfl ?_
  refine xicmpYes X6 hx 46 84 rfl (hb hby d48_46) rfl (tlt (by decide : (1 : Int32) < (2 : Int32))).1 rfl ?_
  refine xiloadN X6 hx (hb hby d48_84) rfl rfl ?_
  exact own_ret X6 hlk (v := some J1) (fun h => by rw [hret] at h; cases h) (by decide) (by decide) (by rw [e6]; exact ⟨rfl, N6, rfl⟩) (fun fs hr => retN X6 hx (t := .boolean) hret (by simp) (hb hby d48_85) hr)

theorem d48_49 : decode b48_ 49 = .ok (.iload_n 3, 1) := by decide +kernel
theorem d48_50 : decode b48_ 50 = .ok (.ifCond .eq 32, 3) := by decide +kernel
theorem d48_53 : decode b48_ 53 = .ok (.iload_n 1, 1) := by decide +kernel
theorem d48_54 : decode b48_ 54 = .ok (.iconst 1, 1) := by decide +kernel
theorem d48_55 : decode b48_ 55 = .ok (.iadd, 1) := by decide +kernel
theorem d48_56 : decode b48_ 56 = .ok (.aload_n 0, 1) := by decide +kernel
theorem d48_57 : decode b48_ 57 = .ok (.invokevirtual 22, 3) := by decide +kernel
theorem d48_60 : decode b48_ 60 = .ok (.if_icmp .ge 22, 3) := by decide +kernel
theorem d48_63 : decode b48_ 63 = .ok (.aload_n 0, 1) := by decide +kernel
theorem d48_64 : decode b48_ 64 = .ok (.iload_n 1, 1) := by decide +kernel
theorem d48_65 : decode b48_ 65 = .ok (.iconst 1, 1) := by decide +kernel
theorem d48_66 : decode b48_ 66 = .ok (.iadd, 1) := by decide +kernel
theorem d48_67 : decode b48_ 67 = .ok (.invokevirtual 26, 3) := by decide +kernel
theorem d48_70 : decode b48_ 70 = .ok (.aload_n 2, 1) := by decide +kernel
theorem d48_71 : decode b48_ 71 = .ok (.iconst 1, 1) := by decide +kernel
theorem d48_72 : decode b48_ 72 = .ok (.invokevirtual 26, 3) := by decide +kernel
theorem d48_75 : decode b48_ 75 = .ok (.if_icmp .ne 7, 3) := by decide +kernel
theorem d48_78 : decode b48_ 78 = .ok (.iconst 1, 1) := by decide +kernel
theorem d48_79 : decode b48_ 79 = .ok (.goto 4, 3) := by decide +kernel
theorem d48_83 : decode b48_ 83 = .ok (.istore_n 3, 1) := by decide +kernel
theorem own_rm66 {l : Launch} {Z : State} {a0 : Array Value} (hw : own_HW Z a0) (hs : own_HS Z a0) (ad0 ad2 : Addr) (zaa : Int32) (zab : Value) (x0 x1 x2 x3 y2 y3 : Int32) (zae : Addr) (zaj : ClassId) (zai : Int32) (zba : Addr) (zbb : ClassId) (h0 : Heap) (n0 : Nat) (Z0 : n0 ≤ h0.size) (zac : Sta Z h0 cN0 "COMPACT_STRINGS" "Z" (.int zaa)) (zaf : zab.isRef = true) (zan : Sta Z h0 "jdk/internal/util/Preconditions" "SIOOBE_FORMATTER" "Ljava/util/function/BiFunction;" zab) (hB3 : own_S Z h0 ad0 zae zaj zai  x0 x1 x2 x3) (zbo : ¬ (zai < (2 : Int32))) (hB8 : own_S Z h0 ad2 zba zbb (2 : Int32)  x0 x1 y2 y3) (zaw : ¬ (zaa = (0 : Int32))) :
    own_Met l own_y48 method_3_code 4 (some .boolean) [] (oR 4 0 0 54) #[(.ref ad0), J0, (.ref ad2)] Z h0 (oQ (some J1) h0 n0) := by
  refine own_body (plainFor_of_name own_pn4) (own := "com/example/nearfield/nearfield/JoinedTextClearPinLaw") rfl (L0 := #[rv ad0, iv (0 : Int32), rv ad2, .unset]) fun p e s m below meth c s₁ hx hby hlk hml hown hnm X0 hZ e0 hh hret => ?_
  obtain ⟨zad, zal, zak, zam⟩ := hB3
  obtain ⟨zar, zbl, zbk, zbm⟩ := hB8
  have N0 := Fr.nil n0
  refine xiconst X0 hx (hb hby d48_0) rfl ?_
  refine xistoreN X0 hx (hb hby d48_1) rfl (l' := #[rv ad0, iv (0 : Int32), rv ad2, iv (1 : Int32)]) rfl rfl ?_
  refine xaloadN X0 hx (hb hby d48_2) rfl rfl rfl ?_
  refine oV X0 hx hZ hown hml (w_ hw 224 rfl) (w_ hw 108 rfl) (w_ hw 110 rfl) (w_ hw 109 rfl) (own_rm4 hw hs ad2 zba zbb ([(.int x0), (.int x1), (.int y2), (.int y3)]) ((2 : Int32)) zaa h0 n0 Z0 ⟨zar, zbl, zbk, zbm⟩ zac zaw) (w_ hw 111 rfl) (w_ hw 10 rfl) e0 zar [] [] 0 (lenOf own_pd18 rfl) rfl (hb hby d48_3) rfl rfl rfl fun T1 L1 v1 X1 hQ1 => ?_
  obtain ⟨rfl, N1q, e1⟩ := hQ1
  have N1 := Fr.app N0 N1q
  refine xiconst X1 hx (hb hby d48_6) rfl ?_
  refine xicmpNo X1 hx (hb hby d48_7) rfl (flt (by decide : ¬ ((2 : Int32) < (1 : Int32)))).1 rfl ?_
  refine xiloadN X1 hx (hb hby d48_10) rfl rfl ?_
  refine xifNo X1 hx (hb hby d48_11) rfl ((if0 _ _).trans (feq (by decide : ¬ ((1 : Int32) = (0 : Int32)))).1) rfl ?_
  refine xiloadN X1 hx (hb hby d48_14) rfl rfl ?_
  refine xaloadN X1 hx (hb hby d48_15) rfl rfl rfl ?_
  show oF p e below s _ _ _ (T1.setTop (mkF m 16 #[rv ad0, iv (0 : Int32), rv ad2, iv (1 : Int32)] [(.ref ad0), J0]))
  refine oV X1 hx hZ hown hml (w_ hw 224 rfl) (w_ hw 108 rfl) (w_ hw 110 rfl) (w_ hw 109 rfl) (own_rm4 hw hs ad0 zae zaj ([(.int x0), (.int x1), (.int x2), (.int x3)]) zai zaa h0 n0 Z0 ⟨zad, zal, zak, zam⟩ zac zaw) (w_ hw 111 rfl) (w_ hw 10 rfl) e1 zad [] [J0] 1 (lenOf own_pd18 rfl) rfl (hb hby d48_16) rfl rfl rfl fun T2 L2 v2 X2 hQ2 => ?_
  obtain ⟨rfl, N2q, e2⟩ := hQ2
  have N2 := Fr.app N1 N2q
  have hf3 : (0 : Int32) < zai := own_ltn zbo (by decide)
  refine xicmpNo X2 hx (hb hby d48_19) rfl (tlt hf3).2.1 rfl ?_
  refine xaloadN X2 hx (hb hby d48_22) rfl rfl rfl ?_
  refine xiloadN X2 hx (hb hby d48_23) rfl rfl ?_
  refine oV X2 hx hZ hown hml (w_ hw 231 rfl) (w_ hw 232 rfl) (w_ hw 234 rfl) (w_ hw 233 rfl) (own_rm13 hw hs ad0 zae zaj x0 x1 x2 x3 zai zaa zab h0 n0 Z0 ⟨zad, zal, zak, zam⟩ (show ¬ (zai < (1 : Int32)) from own_lem zbo (by decide)) zac zaw zaf zan) (w_ hw 235 rfl) (w_ hw 10 rfl) e2 zad [J0] [] 0 (lenOf own_pd31 rfl) rfl (hb hby d48_24) rfl rfl rfl fun T4 L4 v4 X4 hQ4 => ?_
  obtain ⟨rfl, N4q, e4⟩ := hQ4
  have N4 := Fr.app N2 N4q
  refine xaloadN X4 hx (hb hby d48_27) rfl rfl rfl ?_
  refine xiconst X4 hx (hb hby d48_28) rfl ?_
  refine oV X4 hx hZ hown hml (w_ hw 231 rfl) (w_ hw 232 rfl) (w_ hw 234 rfl) (w_ hw 233 rfl) (own_rm13 hw hs ad2 zba zbb x0 x1 y2 y3 ((2 : Int32)) zaa zab h0 n0 Z0 ⟨zar, zbl, zbk, zbm⟩ (show ¬ ((2 : Int32) < (1 : Int32)) from (by first | decide | assumption | exact Nat.le_of_ble_eq_true rfl)) zac zaw zaf zan) (w_ hw 235 rfl) (w_ hw 10 rfl) e4 zar [J0] [(.int (nar .char (nar .char ((x0 &&& (255 : Int32)).toUInt32.toUInt16.toUInt32.toInt32))))] 1 (lenOf own_pd31 rfl) rfl (hb hby d48_29) rfl rfl rfl fun T5 L5 v5 X5 hQ5 => ?_
  obtain ⟨rfl, N5q, e5⟩ := hQ5
  have N5 := Fr.app N4 N5q
  show oF p e below s _ _ _ (T5.setTop (mkF m 32 #[rv ad0, iv (0 : Int32), rv ad2, iv (1 : Int32)] [(.int (nar .char (nar .char ((x0 &&& (255 : Int32)).toUInt32.toUInt16.toUInt32.toInt32)))), (.int (nar .char (nar .char ((x0 &&& (255 : Int32)).toUInt32.toUInt16.toUInt32.toInt32))))]))
  refine xicmpNo X5 hx (hb hby d48_32) rfl (teq (rfl : (nar .char (nar .char ((x0 &&& (255 : Int32)).toUInt32.toUInt16.toUInt32.toInt32))) = (nar .char (nar .char ((x0 &&& (255 : Int32)).toUInt32.toUInt16.toUInt32.toInt32))))).2 rfl ?_
  refine xiconst X5 hx (hb hby d48_35) rfl ?_
  refine xgoto X5 hx 36 40 rfl (hb hby d48_36) rfl ?_
  refine xistoreN X5 hx (hb hby d48_40) rfl (l' := #[rv ad0, iv (0 : Int32), rv ad2, iv (1 : Int32)]) rfl rfl ?_
  refine xaloadN X5 hx (hb hby d48_41) rfl rfl rfl ?_
  refine oV X5 hx hZ hown hml (w_ hw 224 rfl) (w_ hw 108 rfl) (w_ hw 110 rfl) (w_ hw 109 rfl) (own_rm4 hw hs ad2 zba zbb ([(.int x0), (.int x1), (.int y2), (.int y3)]) ((2 : Int32)) zaa h0 n0 Z0 ⟨zar, zbl, zbk, zbm⟩ zac zaw) (w_ hw 111 rfl) (w_ hw 10 rfl) e5 zar [] [] 0 (lenOf own_pd18 rfl) rfl (hb hby d48_42) rfl rfl rfl fun T6 L6 v6 X6 hQ6 => ?_
  obtain ⟨rfl, N6q, e6⟩ := hQ6
  have N6 := Fr.app N5 N6q
  refine xiconst X6 hx (hb hby d48_45) rfl ?_
  refine xicmpNo X6 hx (hb hby d48_46) rfl (flt (by decide : ¬ ((2 : Int32) < (2 : Int32)))).1 rfl ?_
  refine xiloadN X6 hx (hb hby d48_49) rfl rfl ?_
  refine xifNo X6 hx (hb hby d48_50) rfl ((if0 _ _).trans (feq (by decide : ¬ ((1 : Int32) = (0 : Int32)))).1) rfl ?_
  show oF p e below s _ _ _ (T6.setTop (mkF m 53 #[rv ad0, iv (0 : Int32), rv ad2, iv (1 : Int32)] []))
  refine xiloadN X6 hx (hb hby d48_53) rfl rfl ?_
  refine xiconst X6 hx (hb hby d48_54) rfl ?_
  refine xiadd X6 hx (hb hby d48_55) rfl rfl ?_
  show oF p e below s _ _ _ (T6.setTop (mkF m 56 #[rv ad0, iv (0 : Int32), rv ad2, iv (1 : Int32)] [(.int ((0 : Int32) + (1 : Int32)))]))
  rw [show ((0 : Int32) + (1 : Int32)) = (1 : Int32) from by decide]
  show oF p e below s _ _ _ (T6.setTop (mkF m 56 #[rv ad0, iv (0 : Int32), rv ad2, iv (1 : Int32)] [J1]))
  refine xaloadN X6 hx (hb hby d48_56) rfl rfl rfl ?_
  refine oV X6 hx hZ hown hml (w_ hw 224 rfl) (w_ hw 108 rfl) (w_ hw 110 rfl) (w_ hw 109 rfl) (own_rm4 hw hs ad0 zae zaj ([(.int x0), (.int x1), (.int x2), (.int x3)]) zai zaa h0 n0 Z0 ⟨zad, zal, zak, zam⟩ zac zaw) (w_ hw 111 rfl) (w_ hw 10 rfl) e6 zad [] [J1] 1 (lenOf own_pd18 rfl) rfl (hb hby d48_57) rfl rfl rfl fun T7 L7 v7 X7 hQ7 => ?_
  obtain ⟨rfl, N7q, e7⟩ := hQ7
  have N7 := Fr.app N6 N7q
  have hf8 : (1 : Int32) < zai := own_ltn zbo (by decide)
  refine xicmpNo X7 hx (hb hby d48_60) rfl (tlt hf8).2.1 rfl ?_
  refine xaloadN X7 hx (hb hby d48_63) rfl rfl rfl ?_
  refine xiloadN X7 hx (hb hby d48_64) rfl rfl ?_
  refine xiconst X7 hx (hb hby d48_65) rfl ?_
  refine xiadd X7 hx (hb hby d48_66) rfl rfl ?_
  show oF p e below s _ _ _ (T7.setTop (mkF m 67 #[rv ad0, iv (0 : Int32), rv ad2, iv (1 : Int32)] [(.int ((0 : Int32) + (1 : Int32))), (.ref ad0)]))
  rw [show ((0 : Int32) + (1 : Int32)) = (1 : Int32) from by decide]
  show oF p e below s _ _ _ (T7.setTop (mkF m 67 #[rv ad0, iv (0 : Int32), rv ad2, iv (1 : Int32)] [J1, (.ref ad0)]))
  refine oV X7 hx hZ hown hml (w_ hw 231 rfl) (w_ hw 232 rfl) (w_ hw 234 rfl) (w_ hw 233 rfl) (own_rm14 hw hs ad0 zae zaj x0 x1 x2 x3 zai zaa zab h0 n0 Z0 ⟨zad, zal, zak, zam⟩ (show ¬ (zai < (2 : Int32)) from own_lem zbo (by decide)) zac zaw zaf zan) (w_ hw 235 rfl) (w_ hw 10 rfl) e7 zad [J1] [] 0 (lenOf own_pd31 rfl) rfl (hb hby d48_67) rfl rfl rfl fun T9 L9 v9 X9 hQ9 => ?_
  obtain ⟨rfl, N9q, e9⟩ := hQ9
  have N9 := Fr.app N7 N9q
  refine xaloadN X9 hx (hb hby d48_70) rfl rfl rfl ?_
  refine xiconst X9 hx (hb hby d48_71) rfl ?_
  refine oV X9 hx hZ hown hml (w_ hw 231 rfl) (w_ hw 232 rfl) (w_ hw 234 rfl) (w_ hw 233 rfl) (own_rm14 hw hs ad2 zba zbb x0 x1 y2 y3 ((2 : Int32)) zaa zab h0 n0 Z0 ⟨zar, zbl, zbk, zbm⟩ (show ¬ ((2 : Int32) < (2 : Int32)) from (by first | decide | assumption | exact Nat.le_of_ble_eq_true rfl)) zac zaw zaf zan) (w_ hw 235 rfl) (w_ hw 10 rfl) e9 zar [J1] [(.int (nar .char (nar .char ((x1 &&& (255 : Int32)).toUInt32.toUInt16.toUInt32.toInt32))))] 1 (lenOf own_pd31 rfl) rfl (hb hby d48_72) rfl rfl rfl fun T10 L10 v10 X10 hQ10 => ?_
  obtain ⟨rfl, N10q, e10⟩ := hQ10
  have N10 := Fr.app N9 N10q
  refine xicmpNo X10 hx (hb hby d48_75) rfl (teq (rfl : (nar .char (nar .char ((x1 &&& (255 : Int32)).toUInt32.toUInt16.toUInt32.toInt32))) = (nar .char (nar .char ((x1 &&& (255 : Int32)).toUInt32.toUInt16.toUInt32.toInt32))))).2 rfl ?_
  refine xiconst X10 hx (hb hby d48_78) rfl ?_
  refine xgoto X10 hx 79 83 rfl (hb hby d48_79) rfl ?_
  refine xistoreN X10 hx (hb hby d48_83) rfl (l' := #[rv ad0, iv (0 : Int32), rv ad2, iv (1 : Int32)]) rfl rfl ?_
  refine xiloadN X10 hx (hb hby d48_84) rfl rfl ?_
  show oF p e below s _ _ _ (T10.setTop (mkF m 85 #[rv ad0, iv (0 : Int32), rv ad2, iv (1 : Int32)] [J1]))
  exact own_ret X10 hlk (v := some J1) (fun h => by rw [hret] at h; cases h) (by decide) (by decide) (by rw [e10]; exact ⟨rfl, N10, rfl⟩) (fun fs hr => retN X10 hx (t := .boolean) hret (by simp) (hb hby d48_85) hr)

theorem own_rm67 {l : Launch} {Z : State} {a0 : Array Value} (hw : own_HW Z a0) (hs : own_HS Z a0) (ad0 ad2 : Addr) (zaa : Int32) (zab : Value) (x0 x1 x2 x3 y1 y2 y3 : Int32) (zae : Addr) (zaj : ClassId) (zai : Int32) (zba : Addr) (zbb : ClassId) (h0 : Heap) (n0 : Nat) (Z0 : n0 ≤ h0.size) (zac : Sta Z h0 cN0 "COMPACT_STRINGS" "Z" (.int zaa)) (zaf : zab.isRef = true) (zan : Sta Z h0 "jdk/internal/util/Preconditions" "SIOOBE_FORMATTER" "Ljava/util/function/BiFunction;" zab) (hB3 : own_S Z h0 ad0 zae zaj zai  x0 x1 x2 x3) (zbo : ¬ (zai < (2 : Int32))) (hB8 : own_S Z h0 ad2 zba zbb (1 : Int32)  x1 y1 y2 y3) (zaw : ¬ (zaa = (0 : Int32))) :
    own_Met l own_y48 method_3_code 4 (some .boolean) [] (oR 4 0 0 54) #[(.ref ad0), J1, (.ref ad2)] Z h0 (oQ (some J1) h0 n0) := by
  refine own_body (plainFor_of_name own_pn4) (own := "com/example/nearfield/nearfield/JoinedTextClearPinLaw") rfl (L0 := #[rv ad0, iv (1 : Int32), rv ad2, .unset]) fun p e s m below meth c s₁ hx hby hlk hml hown hnm X0 hZ e0 hh hret => ?_
  obtain ⟨zad, zal, zak, zam⟩ := hB3
  obtain ⟨zar, zbl, zbk, zbm⟩ := hB8
  have N0 := Fr.nil n0
  refine xiconst X0 hx (hb hby d48_0) rfl ?_
  refine xistoreN X0 hx (hb hby d48_1) rfl (l' := #[rv ad0, iv (1 : Int32), rv ad2, iv (1 : Int32)]) rfl rfl ?_
  refine xaloadN X0 hx (hb hby d48_2) rfl rfl rfl ?_
  refine oV X0 hx hZ hown hml (w_ hw 224 rfl) (w_ hw 108 rfl) (w_ hw 110 rfl) (w_ hw 109 rfl) (own_rm4 hw hs ad2 zba zbb ([(.int x1), (.int y1), (.int y2), (.int y3)]) ((1 : Int32)) zaa h0 n0 Z0 ⟨zar, zbl, zbk, zbm⟩ zac zaw) (w_ hw 111 rfl) (w_ hw 10 rfl) e0 zar [] [] 0 (lenOf own_pd18 rfl) rfl (hb hby d48_3) rfl rfl rfl fun T1 L1 v1 X1 hQ1 => ?_
  obtain ⟨rfl, N1q, e1⟩ := hQ1
  have N1 := Fr.app N0 N1q
  refine xiconst X1 hx (hb hby d48_6) rfl ?_
  refine xicmpNo X1 hx (hb hby d48_7) rfl (flt (by decide : ¬ ((1 : Int32) < (1 : Int32)))).1 rfl ?_
  refine xiloadN X1 hx (hb hby d48_10) rfl rfl ?_
  refine xifNo X1 hx (hb hby d48_11) rfl ((if0 _ _).trans (feq (by decide : ¬ ((1 : Int32) = (0 : Int32)))).1) rfl ?_
  refine xiloadN X1 hx (hb hby d48_14) rfl rfl ?_
  refine xaloadN X1 hx (hb hby d48_15) rfl rfl rfl ?_
  show oF p e below s _ _ _ (T1.setTop (mkF m 16 #[rv ad0, iv (1 : Int32), rv ad2, iv (1 : Int32)] [(.ref ad0), J1]))
  refine oV X1 hx hZ hown hml (w_ hw 224 rfl) (w_ hw 108 rfl) (w_ hw 110 rfl) (w_ hw 109 rfl) (own_rm4 hw hs ad0 zae zaj ([(.int x0), (.int x1), (.int x2), (.int x3)]) zai zaa h0 n0 Z0 ⟨zad, zal, zak, zam⟩ zac zaw) (w_ hw 111 rfl) (w_ hw 10 rfl) e1 zad [] [J1] 1 (lenOf own_pd18 rfl) rfl (hb hby d48_16) rfl rfl rfl fun T2 L2 v2 X2 hQ2 => ?_
  obtain ⟨rfl, N2q, e2⟩ := hQ2
  have N2 := Fr.app N1 N2q
  have hf3 : (1 : Int32) < zai := own_ltn zbo (by decide)
  refine xicmpNo X2 hx (hb hby d48_19) rfl (tlt hf3).2.1 rfl ?_
  refine xaloadN X2 hx (hb hby d48_22) rfl rfl rfl ?_
  refine xiloadN X2 hx (hb hby d48_23) rfl rfl ?_
  refine oV X2 hx hZ hown hml (w_ hw 231 rfl) (w_ hw 232 rfl) (w_ hw 234 rfl) (w_ hw 233 rfl) (own_rm14 hw hs ad0 zae zaj x0 x1 x2 x3 zai zaa zab h0 n0 Z0 ⟨zad, zal, zak, zam⟩ (show ¬ (zai < (2 : Int32)) from own_lem zbo (by decide)) zac zaw zaf zan) (w_ hw 235 rfl) (w_ hw 10 rfl) e2 zad [J1] [] 0 (lenOf own_pd31 rfl) rfl (hb hby d48_24) rfl rfl rfl fun T4 L4 v4 X4 hQ4 => ?_
  obtain ⟨rfl, N4q, e4⟩ := hQ4
  have N4 := Fr.app N2 N4q
  refine xaloadN X4 hx (hb hby d48_27) rfl rfl rfl ?_
  refine xiconst X4 hx (hb hby d48_28) rfl ?_
  refine oV X4 hx hZ hown hml (w_ hw 231 rfl) (w_ hw 232 rfl) (w_ hw 234 rfl) (w_ hw 233 rfl) (own_rm13 hw hs ad2 zba zbb x1 y1 y2 y3 ((1 : Int32)) zaa zab h0 n0 Z0 ⟨zar, zbl, zbk, zbm⟩ (show ¬ ((1 : Int32) < (1 : Int32)) from (by first | decide | assumption | exact Nat.le_of_ble_eq_true rfl)) zac zaw zaf zan) (w_ hw 235 rfl) (w_ hw 10 rfl) e4 zar [J0] [(.int (nar .char (nar .char ((x1 &&& (255 : Int32)).toUInt32.toUInt16.toUInt32.toInt32))))] 1 (lenOf own_pd31 rfl) rfl (hb hby d48_29) rfl rfl rfl fun T5 L5 v5 X5 hQ5 => ?_
  obtain ⟨rfl, N5q, e5⟩ := hQ5
  have N5 := Fr.app N4 N5q
  show oF p e below s _ _ _ (T5.setTop (mkF m 32 #[rv ad0, iv (1 : Int32), rv ad2, iv (1 : Int32)] [(.int (nar .char (nar .char ((x1 &&& (255 : Int32)).toUInt32.toUInt16.toUInt32.toInt32)))), (.int (nar .char (nar .char ((x1 &&& (255 : Int32)).toUInt32.toUInt16.toUInt32.toInt32))))]))
  refine xicmpNo X5 hx (hb hby d48_32) rfl (teq (rfl : (nar .char (nar .char ((x1 &&& (255 : Int32)).toUInt32.toUInt16.toUInt32.toInt32))) = (nar .char (nar .char ((x1 &&& (255 : Int32)).toUInt32.toUInt16.toUInt32.toInt32))))).2 rfl ?_
  refine xiconst X5 hx (hb hby d48_35) rfl ?_
  refine xgoto X5 hx 36 40 rfl (hb hby d48_36) rfl ?_
  refine xistoreN X5 hx (hb hby d48_40) rfl (l' := #[rv ad0, iv (1 : Int32), rv ad2, iv (1 : Int32)]) rfl rfl ?_
  refine xaloadN X5 hx (hb hby d48_41) rfl rfl rfl ?_
  refine oV X5 hx hZ hown hml (w_ hw 224 rfl) (w_ hw 108 rfl) (w_ hw 110 rfl) (w_ hw 109 rfl) (own_rm4 hw hs ad2 zba zbb ([(.int x1), (.int y1), (.int y2), (.int y3)]) ((1 : Int32)) zaa h0 n0 Z0 ⟨zar, zbl, zbk, zbm⟩ zac zaw) (w_ hw 111 rfl) (w_ hw 10 rfl) e5 zar [] [] 0 (lenOf own_pd18 rfl) rfl (hb hby d48_42) rfl rfl rfl fun T6 L6 v6 X6 hQ6 => ?_
  obtain ⟨rfl, N6q, e6⟩ := hQ6
  have N6 := Fr.app N5 N6q
  refine xiconst X6 hx (hb hby d48_45) rfl ?_
  refine xicmpYes X6 hx 46 84 rfl (hb hby d48_46) rfl (tlt (by decide : (1 : Int32) < (2 : Int32))).1 rfl ?_
  refine xiloadN X6 hx (hb hby d48_84) rfl rfl ?_
  exact own_ret X6 hlk (v := some J1) (fun h => by rw [hret] at h; cases h) (by decide) (by decide) (by rw [e6]; exact ⟨rfl, N6, rfl⟩) (fun fs hr => retN X6 hx (t := .boolean) hret (by simp) (hb hby d48_85) hr)

theorem own_rm68 {l : Launch} {Z : State} {a0 : Array Value} (hw : own_HW Z a0) (hs : own_HS Z a0) (ad0 ad2 : Addr) (zaa : Int32) (zab : Value) (x0 x1 x2 x3 y2 y3 : Int32) (zae : Addr) (zaj : ClassId) (zai : Int32) (zba : Addr) (zbb : ClassId) (h0 : Heap) (n0 : Nat) (Z0 : n0 ≤ h0.size) (zac : Sta Z h0 cN0 "COMPACT_STRINGS" "Z" (.int zaa)) (zaf : zab.isRef = true) (zan : Sta Z h0 "jdk/internal/util/Preconditions" "SIOOBE_FORMATTER" "Ljava/util/function/BiFunction;" zab) (hB3 : own_S Z h0 ad0 zae zaj zai  x0 x1 x2 x3) (zbo : ¬ (zai < (3 : Int32))) (hB8 : own_S Z h0 ad2 zba zbb (2 : Int32)  x1 x2 y2 y3) (zaw : ¬ (zaa = (0 : Int32))) :
    own_Met l own_y48 method_3_code 4 (some .boolean) [] (oR 4 0 0 54) #[(.ref ad0), J1, (.ref ad2)] Z h0 (oQ (some J1) h0 n0) := by
  refine own_body (plainFor_of_name own_pn4) (own := "com/example/nearfield/nearfield/JoinedTextClearPinLaw") rfl (L0 := #[rv ad0, iv (1 : Int32), rv ad2, .unset]) fun p e s m below meth c s₁ hx hby hlk hml hown hnm X0 hZ e0 hh hret => ?_
  obtain ⟨zad, zal, zak, zam⟩ := hB3
  obtain ⟨zar, zbl, zbk, zbm⟩ := hB8
  have N0 := Fr.nil n0
  refine xiconst X0 hx (hb hby d48_0) rfl ?_
  refine xistoreN X0 hx (hb hby d48_1) rfl (l' := #[rv ad0, iv (1 : Int32), rv ad2, iv (1 : Int32)]) rfl rfl ?_
  refine xaloadN X0 hx (hb hby d48_2) rfl rfl rfl ?_
  refine oV X0 hx hZ hown hml (w_ hw 224 rfl) (w_ hw 108 rfl) (w_ hw 110 rfl) (w_ hw 109 rfl) (own_rm4 hw hs ad2 zba zbb ([(.int x1), (.int x2), (.int y2), (.int y3)]) ((2 : Int32)) zaa h0 n0 Z0 ⟨zar, zbl, zbk, zbm⟩ zac zaw) (w_ hw 111 rfl) (w_ hw 10 rfl) e0 zar [] [] 0 (lenOf own_pd18 rfl) rfl (hb hby d48_3) rfl rfl rfl fun T1 L1 v1 X1 hQ1 => ?_
  obtain ⟨rfl, N1q, e1⟩ := hQ1
  have N1 := Fr.app N0 N1q
  refine xiconst X1 hx (hb hby d48_6) rfl ?_
  refine xicmpNo X1 hx (hb hby d48_7) rfl (flt (by decide : ¬ ((2 : Int32) < (1 : Int32)))).1 rfl ?_
  refine xiloadN X1 hx (hb hby d48_10) rfl rfl ?_
  refine xifNo X1 hx (hb hby d48_11) rfl ((if0 _ _).trans (feq (by decide : ¬ ((1 : Int32) = (0 : Int32)))).1) rfl ?_
  refine xiloadN X1 hx (hb hby d48_14) rfl rfl ?_
  refine xaloadN X1 hx (hb hby d48_15) rfl rfl rfl ?_
  show oF p e below s _ _ _ (T1.setTop (mkF m 16 #[rv ad0, iv (1 : Int32), rv ad2, iv (1 : Int32)] [(.ref ad0), J1]))
  refine oV X1 hx hZ hown hml (w_ hw 224 rfl) (w_ hw 108 rfl) (w_ hw 110 rfl) (w_ hw 109 rfl) (own_rm4 hw hs ad0 zae zaj ([(.int x0), (.int x1), (.int x2), (.int x3)]) zai zaa h0 n0 Z0 ⟨zad, zal, zak, zam⟩ zac zaw) (w_ hw 111 rfl) (w_ hw 10 rfl) e1 zad [] [J1] 1 (lenOf own_pd18 rfl) rfl (hb hby d48_16) rfl rfl rfl fun T2 L2 v2 X2 hQ2 => ?_
  obtain ⟨rfl, N2q, e2⟩ := hQ2
  have N2 := Fr.app N1 N2q
  have hf3 : (1 : Int32) < zai := own_ltn zbo (by decide)
  refine xicmpNo X2 hx (hb hby d48_19) rfl (tlt hf3).2.1 rfl ?_
  refine xaloadN X2 hx (hb hby d48_22) rfl rfl rfl ?_
  refine xiloadN X2 hx (hb hby d48_23) rfl rfl ?_
  refine oV X2 hx hZ hown hml (w_ hw 231 rfl) (w_ hw 232 rfl) (w_ hw 234 rfl) (w_ hw 233 rfl) (own_rm14 hw hs ad0 zae zaj x0 x1 x2 x3 zai zaa zab h0 n0 Z0 ⟨zad, zal, zak, zam⟩ (show ¬ (zai < (2 : Int32)) from own_lem zbo (by decide)) zac zaw zaf zan) (w_ hw 235 rfl) (w_ hw 10 rfl) e2 zad [J1] [] 0 (lenOf own_pd31 rfl) rfl (hb hby d48_24) rfl rfl rfl fun T4 L4 v4 X4 hQ4 => ?_
  obtain ⟨rfl, N4q, e4⟩ := hQ4
  have N4 := Fr.app N2 N4q
  refine xaloadN X4 hx (hb hby d48_27) rfl rfl rfl ?_
  refine xiconst X4 hx (hb hby d48_28) rfl ?_
  refine oV X4 hx hZ hown hml (w_ hw 231 rfl) (w_ hw 232 rfl) (w_ hw 234 rfl) (w_ hw 233 rfl) (own_rm13 hw hs ad2 zba zbb x1 x2 y2 y3 ((2 : Int32)) zaa zab h0 n0 Z0 ⟨zar, zbl, zbk, zbm⟩ (show ¬ ((2 : Int32) < (1 : Int32)) from (by first | decide | assumption | exact Nat.le_of_ble_eq_true rfl)) zac zaw zaf zan) (w_ hw 235 rfl) (w_ hw 10 rfl) e4 zar [J0] [(.int (nar .char (nar .char ((x1 &&& (255 : Int32)).toUInt32.toUInt16.toUInt32.toInt32))))] 1 (lenOf own_pd31 rfl) rfl (hb hby d48_29) rfl rfl rfl fun T5 L5 v5 X5 hQ5 => ?_
  obtain ⟨rfl, N5q, e5⟩ := hQ5
  have N5 := Fr.app N4 N5q
  show oF p e below s _ _ _ (T5.setTop (mkF m 32 #[rv ad0, iv (1 : Int32), rv ad2, iv (1 : Int32)] [(.int (nar .char (nar .char ((x1 &&& (255 : Int32)).toUInt32.toUInt16.toUInt32.toInt32)))), (.int (nar .char (nar .char ((x1 &&& (255 : Int32)).toUInt32.toUInt16.toUInt32.toInt32))))]))
  refine xicmpNo X5 hx (hb hby d48_32) rfl (teq (rfl : (nar .char (nar .char ((x1 &&& (255 : Int32)).toUInt32.toUInt16.toUInt32.toInt32))) = (nar .char (nar .char ((x1 &&& (255 : Int32)).toUInt32.toUInt16.toUInt32.toInt32))))).2 rfl ?_
  refine xiconst X5 hx (hb hby d48_35) rfl ?_
  refine xgoto X5 hx 36 40 rfl (hb hby d48_36) rfl ?_
  refine xistoreN X5 hx (hb hby d48_40) rfl (l' := #[rv ad0, iv (1 : Int32), rv ad2, iv (1 : Int32)]) rfl rfl ?_
  refine xaloadN X5 hx (hb hby d48_41) rfl rfl rfl ?_
  refine oV X5 hx hZ hown hml (w_ hw 224 rfl) (w_ hw 108 rfl) (w_ hw 110 rfl) (w_ hw 109 rfl) (own_rm4 hw hs ad2 zba zbb ([(.int x1), (.int x2), (.int y2), (.int y3)]) ((2 : Int32)) zaa h0 n0 Z0 ⟨zar, zbl, zbk, zbm⟩ zac zaw) (w_ hw 111 rfl) (w_ hw 10 rfl) e5 zar [] [] 0 (lenOf own_pd18 rfl) rfl (hb hby d48_42) rfl rfl rfl fun T6 L6 v6 X6 hQ6 => ?_
  obtain ⟨rfl, N6q, e6⟩ := hQ6
  have N6 := Fr.app N5 N6q
  refine xiconst X6 hx (hb hby d48_45) rfl ?_
  refine xicmpNo X6 hx (hb hby d48_46) rfl (flt (by decide : ¬ ((2 : Int32) < (2 : Int32)))).1 rfl ?_
  refine xiloadN X6 hx (hb hby d48_49) rfl rfl ?_
  refine xifNo X6 hx (hb hby d48_50) rfl ((if0 _ _).trans (feq (by decide : ¬ ((1 : Int32) = (0 : Int32)))).1) rfl ?_
  show oF p e below s _ _ _ (T6.setTop (mkF m 53 #[rv ad0, iv (1 : Int32), rv ad2, iv (1 : Int32)] []))
  refine xiloadN X6 hx (hb hby d48_53) rfl rfl ?_
  refine xiconst X6 hx (hb hby d48_54) rfl ?_
  refine xiadd X6 hx (hb hby d48_55) rfl rfl ?_
  show oF p e below s _ _ _ (T6.setTop (mkF m 56 #[rv ad0, iv (1 : Int32), rv ad2, iv (1 : Int32)] [(.int ((1 : Int32) + (1 : Int32)))]))
  rw [show ((1 : Int32) + (1 : Int32)) = (2 : Int32) from by decide]
  show oF p e below s _ _ _ (T6.setTop (mkF m 56 #[rv ad0, iv (1 : Int32), rv ad2, iv (1 : Int32)] [J2]))
  refine xaloadN X6 hx (hb hby d48_56) rfl rfl rfl ?_
  refine oV X6 hx hZ hown hml (w_ hw 224 rfl) (w_ hw 108 rfl) (w_ hw 110 rfl) (w_ hw 109 rfl) (own_rm4 hw hs ad0 zae zaj ([(.int x0), (.int x1), (.int x2), (.int x3)]) zai zaa h0 n0 Z0 ⟨zad, zal, zak, zam⟩ zac zaw) (w_ hw 111 rfl) (w_ hw 10 rfl) e6 zad [] [J2] 1 (lenOf own_pd18 rfl) rfl (hb hby d48_57) rfl rfl rfl fun T7 L7 v7 X7 hQ7 => ?_
  obtain ⟨rfl, N7q, e7⟩ := hQ7
  have N7 := Fr.app N6 N7q
  have hf8 : (2 : Int32) < zai := own_ltn zbo (by decide)
  refine xicmpNo X7 hx (hb hby d48_60) rfl (tlt hf8).2.1 rfl ?_
  refine xaloadN X7 hx (hb hby d48_63) rfl rfl rfl ?_
  refine xiloadN X7 hx (hb hby d48_64) rfl rfl ?_
  refine xiconst X7 hx (hb hby d48_65) rfl ?_
  refine xiadd X7 hx (hb hby d48_66) rfl rfl ?_
  show oF p e below s _ _ _ (T7.setTop (mkF m 67 #[rv ad0, iv (1 : Int32), rv ad2, iv (1 : Int32)] [(.int ((1 : Int32) + (1 : Int32))), (.ref ad0)]))
  rw [show ((1 : Int32) + (1 : Int32)) = (2 : Int32) from by decide]
  show oF p e below s _ _ _ (T7.setTop (mkF m 67 #[rv ad0, iv (1 : Int32), rv ad2, iv (1 : Int32)] [J2, (.ref ad0)]))
  refine oV X7 hx hZ hown hml (w_ hw 231 rfl) (w_ hw 232 rfl) (w_ hw 234 rfl) (w_ hw 233 rfl) (own_rm15 hw hs ad0 zae zaj x0 x1 x2 x3 zai zaa zab h0 n0 Z0 ⟨zad, zal, zak, zam⟩ (show ¬ (zai < (3 : Int32)) from own_lem zbo (by decide)) zac zaw zaf zan) (w_ hw 235 rfl) (w_ hw 10 rfl) e7 zad [J2] [] 0 (lenOf own_pd31 rfl) rfl (hb hby d48_67) rfl rfl rfl fun T9 L9 v9 X9 hQ9 => ?_
  obtain ⟨rfl, N9q, e9⟩ := hQ9
  have N9 := Fr.app N7 N9q
  refine xaloadN X9 hx (hb hby d48_70) rfl rfl rfl ?_
  refine xiconst X9 hx (hb hby d48_71) rfl ?_
  refine oV X9 hx hZ hown hml (w_ hw 231 rfl) (w_ hw 232 rfl) (w_ hw 234 rfl) (w_ hw 233 rfl) (own_rm14 hw hs ad2 zba zbb x1 x2 y2 y3 ((2 : Int32)) zaa zab h0 n0 Z0 ⟨zar, zbl, zbk, zbm⟩ (show ¬ ((2 : Int32) < (2 : Int32)) from (by first | decide | assumption | exact Nat.le_of_ble_eq_true rfl)) zac zaw zaf zan) (w_ hw 235 rfl) (w_ hw 10 rfl) e9 zar [J1] [(.int (nar .char (nar .char ((x2 &&& (255 : Int32)).toUInt32.toUInt16.toUInt32.toInt32))))] 1 (lenOf own_pd31 rfl) rfl (hb hby d48_72) rfl rfl rfl fun T10 L10 v10 X10 hQ10 => ?_
  obtain ⟨rfl, N10q, e10⟩ := hQ10
  have N10 := Fr.app N9 N10q
  refine xicmpNo X10 hx (hb hby d48_75) rfl (teq (rfl : (nar .char (nar .char ((x2 &&& (255 : Int32)).toUInt32.toUInt16.toUInt32.toInt32))) = (nar .char (nar .char ((x2 &&& (255 : Int32)).toUInt32.toUInt16.toUInt32.toInt32))))).2 rfl ?_
  refine xiconst X10 hx (hb hby d48_78) rfl ?_
  refine xgoto X10 hx 79 83 rfl (hb hby d48_79) rfl ?_
  refine xistoreN X10 hx (hb hby d48_83) rfl (l' := #[rv ad0, iv (1 : Int32), rv ad2, iv (1 : Int32)]) rfl rfl ?_
  refine xiloadN X10 hx (hb hby d48_84) rfl rfl ?_
  show oF p e below s _ _ _ (T10.setTop (mkF m 85 #[rv ad0, iv (1 : Int32), rv ad2, iv (1 : Int32)] [J1]))
  exact own_ret X10 hlk (v := some J1) (fun h => by rw [hret] at h; cases h) (by decide) (by decide) (by rw [e10]; exact ⟨rfl, N10, rfl⟩) (fun fs hr => retN X10 hx (t := .boolean) hret (by simp) (hb hby d48_85) hr)

theorem own_rm69 {l : Launch} {Z : State} {a0 : Array Value} (hw : own_HW Z a0) (hs : own_HS Z a0) (ad0 ad2 : Addr) (zaa : Int32) (zab : Value) (x0 x1 x2 x3 y1 y2 y3 : Int32) (zae : Addr) (zaj : ClassId) (zai : Int32) (zba : Addr) (zbb : ClassId) (h0 : Heap) (n0 : Nat) (Z0 : n0 ≤ h0.size) (zac : Sta Z h0 cN0 "COMPACT_STRINGS" "Z" (.int zaa)) (zaf : zab.isRef = true) (zan : Sta Z h0 "jdk/internal/util/Preconditions" "SIOOBE_FORMATTER" "Ljava/util/function/BiFunction;" zab) (hB3 : own_S Z h0 ad0 zae zaj zai  x0 x1 x2 x3) (zbo : ¬ (zai < (3 : Int32))) (hB8 : own_S Z h0 ad2 zba zbb (1 : Int32)  x2 y1 y2 y3) (zaw : ¬ (zaa = (0 : Int32))) :
    own_Met l own_y48 method_3_code 4 (some .boolean) [] (oR 4 0 0 54) #[(.ref ad0), J2, (.ref ad2)] Z h0 (oQ (some J1) h0 n0) := by
  refine own_body (plainFor_of_name own_pn4) (own := "com/example/nearfield/nearfield/JoinedTextClearPinLaw") rfl (L0 := #[rv ad0, iv (2 : Int32), rv ad2, .unset]) fun p e s m below meth c s₁ hx hby hlk hml hown hnm X0 hZ e0 hh hret => ?_
  obtain ⟨zad, zal, zak, zam⟩ := hB3
  obtain ⟨zar, zbl, zbk, zbm⟩ := hB8
  have N0 := Fr.nil n0
  refine xiconst X0 hx (hb hby d48_0) rfl ?_
  refine xistoreN X0 hx (hb hby d48_1) rfl (l' := #[rv ad0, iv (2 : Int32), rv ad2, iv (1 : Int32)]) rfl rfl ?_
  refine xaloadN X0 hx (hb hby d48_2) rfl rfl rfl ?_
  refine oV X0 hx hZ hown hml (w_ hw 224 rfl) (w_ hw 108 rfl) (w_ hw 110 rfl) (w_ hw 109 rfl) (own_rm4 hw hs ad2 zba zbb ([(.int x2), (.int y1), (.int y2), (.int y3)]) ((1 : Int32)) zaa h0 n0 Z0 ⟨zar, zbl, zbk, zbm⟩ zac zaw) (w_ hw 111 rfl) (w_ hw 10 rfl) e0 zar [] [] 0 (lenOf own_pd18 rfl) rfl (hb hby d48_3) rfl rfl rfl fun T1 L1 v1 X1 hQ1 => ?_
  obtain ⟨rfl, N1q, e1⟩ := hQ1
  have N1 := Fr.app N0 N1q
  refine xiconst X1 hx (hb hby d48_6) rfl ?_
  refine xicmpNo X1 hx (hb hby d48_7) rfl (flt (by decide : ¬ ((1 : Int32) < (1 : Int32)))).1 rfl ?_
  refine xiloadN X1 hx (hb hby d48_10) rfl rfl ?_
  refine xifNo X1 hx (hb hby d48_11) rfl ((if0 _ _).trans (feq (by decide : ¬ ((1 : Int32) = (0 : Int32)))).1) rfl ?_
  refine xiloadN X1 hx (hb hby d48_14) rfl rfl ?_
  refine xaloadN X1 hx (hb hby d48_15) rfl rfl rfl ?_
  show oF p e below s _ _ _ (T1.setTop (mkF m 16 #[rv ad0, iv (2 : Int32), rv ad2, iv (1 : Int32)] [(.ref ad0), J2]))
  refine oV X1 hx hZ hown hml (w_ hw 224 rfl) (w_ hw 108 rfl) (w_ hw 110 rfl) (w_ hw 109 rfl) (own_rm4 hw hs ad0 zae zaj ([(.int x0), (.int x1), (.int x2), (.int x3)]) zai zaa h0 n0 Z0 ⟨zad, zal, zak, zam⟩ zac zaw) (w_ hw 111 rfl) (w_ hw 10 rfl) e1 zad [] [J2] 1 (lenOf own_pd18 rfl) rfl (hb hby d48_16) rfl rfl rfl fun T2 L2 v2 X2 hQ2 => ?_
  obtain ⟨rfl, N2q, e2⟩ := hQ2
  have N2 := Fr.app N1 N2q
  have hf3 : (2 : Int32) < zai := own_ltn zbo (by decide)
  refine xicmpNo X2 hx (hb hby d48_19) rfl (tlt hf3).2.1 rfl ?_
  refine xaloadN X2 hx (hb hby d48_22) rfl rfl rfl ?_
  refine xiloadN X2 hx (hb hby d48_23) rfl rfl ?_
  refine oV X2 hx hZ hown hml (w_ hw 231 rfl) (w_ hw 232 rfl) (w_ hw 234 rfl) (w_ hw 233 rfl) (own_rm15 hw hs ad0 zae zaj x0 x1 x2 x3 zai zaa zab h0 n0 Z0 ⟨zad, zal, zak, zam⟩ (show ¬ (zai < (3 : Int32)) from own_lem zbo (by decide)) zac zaw zaf zan) (w_ hw 235 rfl) (w_ hw 10 rfl) e2 zad [J2] [] 0 (lenOf own_pd31 rfl) rfl (hb hby d48_24) rfl rfl rfl fun T4 L4 v4 X4 hQ4 => ?_
  obtain ⟨rfl, N4q, e4⟩ := hQ4
  have N4 := Fr.app N2 N4q
  refine xaloadN X4 hx (hb hby d48_27) rfl rfl rfl ?_
  refine xiconst X4 hx (hb hby d48_28) rfl ?_
  refine oV X4 hx hZ hown hml (w_ hw 231 rfl) (w_ hw 232 rfl) (w_ hw 234 rfl) (w_ hw 233 rfl) (own_rm13 hw hs ad2 zba zbb x2 y1 y2 y3 ((1 : Int32)) zaa zab h0 n0 Z0 ⟨zar, zbl, zbk, zbm⟩ (show ¬ ((1 : Int32) < (1 : Int32)) from (by first | decide | assumption | exact Nat.le_of_ble_eq_true rfl)) zac zaw zaf zan) (w_ hw 235 rfl) (w_ hw 10 rfl) e4 zar [J0] [(.int (nar .char (nar .char ((x2 &&& (255 : Int32)).toUInt32.toUInt16.toUInt32.toInt32))))] 1 (lenOf own_pd31 rfl) rfl (hb hby d48_29) rfl rfl rfl fun T5 L5 v5 X5 hQ5 => ?_
  obtain ⟨rfl, N5q, e5⟩ := hQ5
  have N5 := Fr.app N4 N5q
  show oF p e below s _ _ _ (T5.setTop (mkF m 32 #[rv ad0, iv (2 : Int32), rv ad2, iv (1 : Int32)] [(.int (nar .char (nar .char ((x2 &&& (255 : Int32)).toUInt32.toUInt16.toUInt32.toInt32)))), (.int (nar .char (nar .char ((x2 &&& (255 : Int32)).toUInt32.toUInt16.toUInt32.toInt32))))]))
  refine xicmpNo X5 hx (hb hby d48_32) rfl (teq (rfl : (nar .char (nar .char ((x2 &&& (255 : Int32)).toUInt32.toUInt16.toUInt32.toInt32))) = (nar .char (nar .char ((x2 &&& (255 : Int32)).toUInt32.toUInt16.toUInt32.toInt32))))).2 rfl ?_
  refine xiconst X5 hx (hb hby d48_35) rfl ?_
  refine xgoto X5 hx 36 40 rfl (hb hby d48_36) rfl ?_
  refine xistoreN X5 hx (hb hby d48_40) rfl (l' := #[rv ad0, iv (2 : Int32), rv ad2, iv (1 : Int32)]) rfl rfl ?_
  refine xaloadN X5 hx (hb hby d48_41) rfl rfl rfl ?_
  refine oV X5 hx hZ hown hml (w_ hw 224 rfl) (w_ hw 108 rfl) (w_ hw 110 rfl) (w_ hw 109 rfl) (own_rm4 hw hs ad2 zba zbb ([(.int x2), (.int y1), (.int y2), (.int y3)]) ((1 : Int32)) zaa h0 n0 Z0 ⟨zar, zbl, zbk, zbm⟩ zac zaw) (w_ hw 111 rfl) (w_ hw 10 rfl) e5 zar [] [] 0 (lenOf own_pd18 rfl) rfl (hb hby d48_42) rfl rfl rfl fun T6 L6 v6 X6 hQ6 => ?_
  obtain ⟨rfl, N6q, e6⟩ := hQ6
  have N6 := Fr.app N5 N6q
  refine xiconst X6 hx (hb hby d48_45) rfl ?_
  refine xicmpYes X6 hx 46 84 rfl (hb hby d48_46) rfl (tlt (by decide : (1 : Int32) < (2 : Int32))).1 rfl ?_
  refine xiloadN X6 hx (hb hby d48_84) rfl rfl ?_
  exact own_ret X6 hlk (v := some J1) (fun h => by rw [hret] at h; cases h) (by decide) (by decide) (by rw [e6]; exact ⟨rfl, N6, rfl⟩) (fun fs hr => retN X6 hx (t := .boolean) hret (by simp) (hb hby d48_85) hr)

theorem own_rm70 {l : Launch} {Z : State} {a0 : Array Value} (hw : own_HW Z a0) (hs : own_HS Z a0) (ad0 ad2 : Addr) (zaa : Int32) (zab : Value) (x0 x1 x2 x3 y2 y3 : Int32) (zae : Addr) (zaj : ClassId) (zai : Int32) (zba : Addr) (zbb : ClassId) (h0 : Heap) (n0 : Nat) (Z0 : n0 ≤ h0.size) (zac : Sta Z h0 cN0 "COMPACT_STRINGS" "Z" (.int zaa)) (zaf : zab.isRef = true) (zan : Sta Z h0 "jdk/internal/util/Preconditions" "SIOOBE_FORMATTER" "Ljava/util/function/BiFunction;" zab) (hB3 : own_S Z h0 ad0 zae zaj zai  x0 x1 x2 x3) (zbo : ¬ (zai < (4 : Int32))) (hB8 : own_S Z h0 ad2 zba zbb (2 : Int32)  x2 x3 y2 y3) (zaw : ¬ (zaa = (0 : Int32))) :
    own_Met l own_y48 method_3_code 4 (some .boolean) [] (oR 4 0 0 54) #[(.ref ad0), J2, (.ref ad2)] Z h0 (oQ (some J1) h0 n0) := by
  refine own_body (plainFor_of_name own_pn4) (own := "com/example/nearfield/nearfield/JoinedTextClearPinLaw") rfl (L0 := #[rv ad0, iv (2 : Int32), rv ad2, .unset]) fun p e s m below meth c s₁ hx hby hlk hml hown hnm X0 hZ e0 hh hret => ?_
  obtain ⟨zad, zal, zak, zam⟩ := hB3
  obtain ⟨zar, zbl, zbk, zbm⟩ := hB8
  have N0 := Fr.nil n0
  refine xiconst X0 hx (hb hby d48_0) rfl ?_
  refine xistoreN X0 hx (hb hby d48_1) rfl (l' := #[rv ad0, iv (2 : Int32), rv ad2, iv (1 : Int32)]) rfl rfl ?_
  refine xaloadN X0 hx (hb hby d48_2) rfl rfl rfl ?_
  refine oV X0 hx hZ hown hml (w_ hw 224 rfl) (w_ hw 108 rfl) (w_ hw 110 rfl) (w_ hw 109 rfl) (own_rm4 hw hs ad2 zba zbb ([(.int x2), (.int x3), (.int y2), (.int y3)]) ((2 : Int32)) zaa h0 n0 Z0 ⟨zar, zbl, zbk, zbm⟩ zac zaw) (w_ hw 111 rfl) (w_ hw 10 rfl) e0 zar [] [] 0 (lenOf own_pd18 rfl) rfl (hb hby d48_3) rfl rfl rfl fun T1 L1 v1 X1 hQ1 => ?_
  obtain ⟨rfl, N1q, e1⟩ := hQ1
  have N1 := Fr.app N0 N1q
  refine xiconst X1 hx (hb hby d48_6) rfl ?_
  refine xicmpNo X1 hx (hb hby d48_7) rfl (flt (by decide : ¬ ((2 : Int32) < (1 : Int32)))).1 rfl ?_
  refine xiloadN X1 hx (hb hby d48_10) rfl rfl ?_
  refine xifNo X1 hx (hb hby d48_11) rfl ((if0 _ _).trans (feq (by decide : ¬ ((1 : Int32) = (0 : Int32)))).1) rfl ?_
  refine xiloadN X1 hx (hb hby d48_14) rfl rfl ?_
  refine xaloadN X1 hx (hb hby d48_15) rfl rfl rfl ?_
  show oF p e below s _ _ _ (T1.setTop (mkF m 16 #[rv ad0, iv (2 : Int32), rv ad2, iv (1 : Int32)] [(.ref ad0), J2]))
  refine oV X1 hx hZ hown hml (w_ hw 224 rfl) (w_ hw 108 rfl) (w_ hw 110 rfl) (w_ hw 109 rfl) (own_rm4 hw hs ad0 zae zaj ([(.int x0), (.int x1), (.int x2), (.int x3)]) zai zaa h0 n0 Z0 ⟨zad, zal, zak, zam⟩ zac zaw) (w_ hw 111 rfl) (w_ hw 10 rfl) e1 zad [] [J2] 1 (lenOf own_pd18 rfl) rfl (hb hby d48_16) rfl rfl rfl fun T2 L2 v2 X2 hQ2 => ?_
  obtain ⟨rfl, N2q, e2⟩ := hQ2
  have N2 := Fr.app N1 N2q
  have hf3 : (2 : Int32) < zai := own_ltn zbo (by decide)
  refine xicmpNo X2 hx (hb hby d48_19) rfl (tlt hf3).2.1 rfl ?_
  refine xaloadN X2 hx (hb hby d48_22) rfl rfl rfl ?_
  refine xiloadN X2 hx (hb hby d48_23) rfl rfl ?_
  refine oV X2 hx hZ hown hml (w_ hw 231 rfl) (w_ hw 232 rfl) (w_ hw 234 rfl) (w_ hw 233 rfl) (own_rm15 hw hs ad0 zae zaj x0 x1 x2 x3 zai zaa zab h0 n0 Z0 ⟨zad, zal, zak, zam⟩ (show ¬ (zai < (3 : Int32)) from own_lem zbo (by decide)) zac zaw zaf zan) (w_ hw 235 rfl) (w_ hw 10 rfl) e2 zad [J2] [] 0 (lenOf own_pd31 rfl) rfl (hb hby d48_24) rfl rfl rfl fun T4 L4 v4 X4 hQ4 => ?_
  obtain ⟨rfl, N4q, e4⟩ := hQ4
  have N4 := Fr.app N2 N4q
  refine xaloadN X4 hx (hb hby d48_27) rfl rfl rfl ?_
  refine xiconst X4 hx (hb hby d48_28) rfl ?_
  refine oV X4 hx hZ hown hml (w_ hw 231 rfl) (w_ hw 232 rfl) (w_ hw 234 rfl) (w_ hw 233 rfl) (own_rm13 hw hs ad2 zba zbb x2 x3 y2 y3 ((2 : Int32)) zaa zab h0 n0 Z0 ⟨zar, zbl, zbk, zbm⟩ (show ¬ ((2 : Int32) < (1 : Int32)) from (by first | decide | assumption | exact Nat.le_of_ble_eq_true rfl)) zac zaw zaf zan) (w_ hw 235 rfl) (w_ hw 10 rfl) e4 zar [J0] [(.int (nar .char (nar .char ((x2 &&& (255 : Int32)).toUInt32.toUInt16.toUInt32.toInt32))))] 1 (lenOf own_pd31 rfl) rfl (hb hby d48_29) rfl rfl rfl fun T5 L5 v5 X5 hQ5 => ?_
  obtain ⟨rfl, N5q, e5⟩ := hQ5
  have N5 := Fr.app N4 N5q
  show oF p e below s _ _ _ (T5.setTop (mkF m 32 #[rv ad0, iv (2 : Int32), rv ad2, iv (1 : Int32)] [(.int (nar .char (nar .char ((x2 &&& (255 : Int32)).toUInt32.toUInt16.toUInt32.toInt32)))), (.int (nar .char (nar .char ((x2 &&& (255 : Int32)).toUInt32.toUInt16.toUInt32.toInt32))))]))
  refine xicmpNo X5 hx (hb hby d48_32) rfl (teq (rfl : (nar .char (nar .char ((x2 &&& (255 : Int32)).toUInt32.toUInt16.toUInt32.toInt32))) = (nar .char (nar .char ((x2 &&& (255 : Int32)).toUInt32.toUInt16.toUInt32.toInt32))))).2 rfl ?_
  refine xiconst X5 hx (hb hby d48_35) rfl ?_
  refine xgoto X5 hx 36 40 rfl (hb hby d48_36) rfl ?_
  refine xistoreN X5 hx (hb hby d48_40) rfl (l' := #[rv ad0, iv (2 : Int32), rv ad2, iv (1 : Int32)]) rfl rfl ?_
  refine xaloadN X5 hx (hb hby d48_41) rfl rfl rfl ?_
  refine oV X5 hx hZ hown hml (w_ hw 224 rfl) (w_ hw 108 rfl) (w_ hw 110 rfl) (w_ hw 109 rfl) (own_rm4 hw hs ad2 zba zbb ([(.int x2), (.int x3), (.int y2), (.int y3)]) ((2 : Int32)) zaa h0 n0 Z0 ⟨zar, zbl, zbk, zbm⟩ zac zaw) (w_ hw 111 rfl) (w_ hw 10 rfl) e5 zar [] [] 0 (lenOf own_pd18 rfl) rfl (hb hby d48_42) rfl rfl rfl fun T6 L6 v6 X6 hQ6 => ?_
  obtain ⟨rfl, N6q, e6⟩ := hQ6
  have N6 := Fr.app N5 N6q
  refine xiconst X6 hx (hb hby d48_45) rfl ?_
  refine xicmpNo X6 hx (hb hby d48_46) rfl (flt (by decide : ¬ ((2 : Int32) < (2 : Int32)))).1 rfl ?_
  refine xiloadN X6 hx (hb hby d48_49) rfl rfl ?_
  refine xifNo X6 hx (hb hby d48_50) rfl ((if0 _ _).trans (feq (by decide : ¬ ((1 : Int32) = (0 : Int32)))).1) rfl ?_
  show oF p e below s _ _ _ (T6.setTop (mkF m 53 #[rv ad0, iv (2 : Int32), rv ad2, iv (1 : Int32)] []))
  refine xiloadN X6 hx (hb hby d48_53) rfl rfl ?_
  refine xiconst X6 hx (hb hby d48_54) rfl ?_
  refine xiadd X6 hx (hb hby d48_55) rfl rfl ?_
  show oF p e below s _ _ _ (T6.setTop (mkF m 56 #[rv ad0, iv (2 : Int32), rv ad2, iv (1 : Int32)] [(.int ((2 : Int32) + (1 : Int32)))]))
  rw [show ((2 : Int32) + (1 : Int32)) = (3 : Int32) from by decide]
  show oF p e below s _ _ _ (T6.setTop (mkF m 56 #[rv ad0, iv (2 : Int32), rv ad2, iv (1 : Int32)] [J3]))
  refine xaloadN X6 hx (hb hby d48_56) rfl rfl rfl ?_
  refine oV X6 hx hZ hown hml (w_ hw 224 rfl) (w_ hw 108 rfl) (w_ hw 110 rfl) (w_ hw 109 rfl) (own_rm4 hw hs ad0 zae zaj ([(.int x0), (.int x1), (.int x2), (.int x3)]) zai zaa h0 n0 Z0 ⟨zad, zal, zak, zam⟩ zac zaw) (w_ hw 111 rfl) (w_ hw 10 rfl) e6 zad [] [J3] 1 (lenOf own_pd18 rfl) rfl (hb hby d48_57) rfl rfl rfl fun T7 L7 v7 X7 hQ7 => ?_
  obtain ⟨rfl, N7q, e7⟩ := hQ7
  have N7 := Fr.app N6 N7q
  have hf8 : (3 : Int32) < zai := own_ltn zbo (by decide)
  refine xicmpNo X7 hx (hb hby d48_60) rfl (tlt hf8).2.1 rfl ?_
  refine xaloadN X7 hx (hb hby d48_63) rfl rfl rfl ?_
  refine xiloadN X7 hx (hb hby d48_64) rfl rfl ?_
  refine xiconst X7 hx (hb hby d48_65) rfl ?_
  refine xiadd X7 hx (hb hby d48_66) rfl rfl ?_
  show oF p e below s _ _ _ (T7.setTop (mkF m 67 #[rv ad0, iv (2 : Int32), rv ad2, iv (1 : Int32)] [(.int ((2 : Int32) + (1 : Int32))), (.ref ad0)]))
  rw [show ((2 : Int32) + (1 : Int32)) = (3 : Int32) from by decide]
  show oF p e below s _ _ _ (T7.setTop (mkF m 67 #[rv ad0, iv (2 : Int32), rv ad2, iv (1 : Int32)] [J3, (.ref ad0)]))
  refine oV X7 hx hZ hown hml (w_ hw 231 rfl) (w_ hw 232 rfl) (w_ hw 234 rfl) (w_ hw 233 rfl) (own_rm16 hw hs ad0 zae zaj x0 x1 x2 x3 zai zaa zab h0 n0 Z0 ⟨zad, zal, zak, zam⟩ (show ¬ (zai < (4 : Int32)) from own_lem zbo (by decide)) zac zaw zaf zan) (w_ hw 235 rfl) (w_ hw 10 rfl) e7 zad [J3] [] 0 (lenOf own_pd31 rfl) rfl (hb hby d48_67) rfl rfl rfl fun T9 L9 v9 X9 hQ9 => ?_
  obtain ⟨rfl, N9q, e9⟩ := hQ9
  have N9 := Fr.app N7 N9q
  refine xaloadN X9 hx (hb hby d48_70) rfl rfl rfl ?_
  refine xiconst X9 hx (hb hby d48_71) rfl ?_
  refine oV X9 hx hZ hown hml (w_ hw 231 rfl) (w_ hw 232 rfl) (w_ hw 234 rfl) (w_ hw 233 rfl) (own_rm14 hw hs ad2 zba zbb x2 x3 y2 y3 ((2 : Int32)) zaa zab h0 n0 Z0 ⟨zar, zbl, zbk, zbm⟩ (show ¬ ((2 : Int32) < (2 : Int32)) from (by first | decide | assumption | exact Nat.le_of_ble_eq_true rfl)) zac zaw zaf zan) (w_ hw 235 rfl) (w_ hw 10 rfl) e9 zar [J1] [(.int (nar .char (nar .char ((x3 &&& (255 : Int32)).toUInt32.toUInt16.toUInt32.toInt32))))] 1 (lenOf own_pd31 rfl) rfl (hb hby d48_72) rfl rfl rfl fun T10 L10 v10 X10 hQ10 => ?_
  obtain ⟨rfl, N10q, e10⟩ := hQ10
  have N10 := Fr.app N9 N10q
  refine xicmpNo X10 hx (hb hby d48_75) rfl (teq (rfl : (nar .char (nar .char ((x3 &&& (255 : Int32)).toUInt32.toUInt16.toUInt32.toInt32))) = (nar .char (nar .char ((x3 &&& (255 : Int32)).toUInt32.toUInt16.toUInt32.toInt32))))).2 rfl ?_
  refine xiconst X10 hx (hb hby d48_78) rfl ?_
  refine xgoto X10 hx 79 83 rfl (hb hby d48_79) rfl ?_
  refine xistoreN X10 hx (hb hby d48_83) rfl (l' := #[rv ad0, iv (2 : Int32), rv ad2, iv (1 : Int32)]) rfl rfl ?_
  refine xiloadN X10 hx (hb hby d48_84) rfl rfl ?_
  show oF p e below s _ _ _ (T10.setTop (mkF m 85 #[rv ad0, iv (2 : Int32), rv ad2, iv (1 : Int32)] [J1]))
  exact own_ret X10 hlk (v := some J1) (fun h => by rw [hret] at h; cases h) (by decide) (by decide) (by rw [e10]; exact ⟨rfl, N10, rfl⟩) (fun fs hr => retN X10 hx (t := .boolean) hret (by simp) (hb hby d48_85) hr)

theorem own_rm71 {l : Launch} {Z : State} {a0 : Array Value} (hw : own_HW Z a0) (hs : own_HS Z a0) (ad0 : Addr) (p1 : Int32) (ad2 : Addr) (zaa : Int32) (zab : Value) (y0 y1 y2 y3 : Int32) (zba : Addr) (zbb : ClassId) (h0 : Heap) (n0 : Nat) (Z0 : n0 ≤ h0.size) (zac : Sta Z h0 cN0 "COMPACT_STRINGS" "Z" (.int zaa)) (zaf : zab.isRef = true) (zan : Sta Z h0 "jdk/internal/util/Preconditions" "SIOOBE_FORMATTER" "Ljava/util/function/BiFunction;" zab) (hB3 : own_S Z h0 ad2 zba zbb (0 : Int32)  y0 y1 y2 y3) (zaw : ¬ (zaa = (0 : Int32))) :
    own_Met l own_y48 method_3_code 4 (some .boolean) [] (oR 2 0 0 25) #[(.ref ad0), (.int p1), (.ref ad2)] Z h0 (oQ (some J1) h0 n0) := by
  refine own_body (plainFor_of_name own_pn4) (own := "com/example/nearfield/nearfield/JoinedTextClearPinLaw") rfl (L0 := #[rv ad0, iv p1, rv ad2, .unset]) fun p e s m below meth c s₁ hx hby hlk hml hown hnm X0 hZ e0 hh hret => ?_
  obtain ⟨zar, zbl, zbk, zbm⟩ := hB3
  have N0 := Fr.nil n0
  refine xiconst X0 hx (hb hby d48_0) rfl ?_
  refine xistoreN X0 hx (hb hby d48_1) rfl (l' := #[rv ad0, iv p1, rv ad2, iv (1 : Int32)]) rfl rfl ?_
  refine xaloadN X0 hx (hb hby d48_2) rfl rfl rfl ?_
  refine oV X0 hx hZ hown hml (w_ hw 224 rfl) (w_ hw 108 rfl) (w_ hw 110 rfl) (w_ hw 109 rfl) (own_rm4 hw hs ad2 zba zbb ([(.int y0), (.int y1), (.int y2), (.int y3)]) ((0 : Int32)) zaa h0 n0 Z0 ⟨zar, zbl, zbk, zbm⟩ zac zaw) (w_ hw 111 rfl) (w_ hw 10 rfl) e0 zar [] [] 0 (lenOf own_pd18 rfl) rfl (hb hby d48_3) rfl rfl rfl fun T1 L1 v1 X1 hQ1 => ?_
  obtain ⟨rfl, N1q, e1⟩ := hQ1
  have N1 := Fr.app N0 N1q
  refine xiconst X1 hx (hb hby d48_6) rfl ?_
  refine xicmpYes X1 hx 7 41 rfl (hb hby d48_7) rfl (tlt (by decide : (0 : Int32) < (1 : Int32))).1 rfl ?_
  refine xaloadN X1 hx (hb hby d48_41) rfl rfl rfl ?_
  refine oV X1 hx hZ hown hml (w_ hw 224 rfl) (w_ hw 108 rfl) (w_ hw 110 rfl) (w_ hw 109 rfl) (own_rm4 hw hs ad2 zba zbb ([(.int y0), (.int y1), (.int y2), (.int y3)]) ((0 : Int32)) zaa h0 n0 Z0 ⟨zar, zbl, zbk, zbm⟩ zac zaw) (w_ hw 111 rfl) (w_ hw 10 rfl) e1 zar [] [] 0 (lenOf own_pd18 rfl) rfl (hb hby d48_42) rfl rfl rfl fun T2 L2 v2 X2 hQ2 => ?_
  obtain ⟨rfl, N2q, e2⟩ := hQ2
  have N2 := Fr.app N1 N2q
  refine xiconst X2 hx (hb hby d48_45) rfl ?_
  show oF p e below s _ _ _ (T2.setTop (mkF m 46 #[rv ad0, iv p1, rv ad2, iv (1 : Int32)] [J2, J0]))
  refine xicmpYes X2 hx 46 84 rfl (hb hby d48_46) rfl (tlt (by decide : (0 : Int32) < (2 : Int32))).1 rfl ?_
  refine xiloadN X2 hx (hb hby d48_84) rfl rfl ?_
  exact own_ret X2 hlk (v := some J1) (fun h => by rw [hret] at h; cases h) (by decide) (by decide) (by rw [e2]; exact ⟨rfl, N2, rfl⟩) (fun fs hr => retN X2 hx (t := .boolean) hret (by simp) (hb hby d48_85) hr)

theorem own_pd32 : parseMethodDescriptor "(Ljava/lang/String;ILjava/lang/String;)Z" = some ⟨[(.object "java/lang/String"), .int, (.object "java/lang/String")], some .boolean⟩ := by decide +kernel
def own_Q72 (Z : State) (A0 : Slot) (A1 : Slot) (A2 : Slot) (A3 : Slot) (A4 : Slot) (A5 : Slot) (A6 : Slot) (A7 : Slot) (s3 : Addr) (B0 : Slot) (A8 : Slot) (B1 : Slot) (B2 : Slot) (A9 : Slot) (j : Addr) (t : Addr) (zaa : Int32) (zab : Value) (y0 : Int32) (y1 : Int32) (y2 : Int32) (y3 : Int32) (wvalue_s3 : Addr) (k_wvalue_s3 : ClassId) (u0 : Int32) (u1 : Int32) (u2 : Int32) (u3 : Int32) (wvalue_t : Addr) (k_wvalue_t : ClassId) (upieces_j : Value) (h0 : Heap) (n0 : Nat) (v : Option Value) (h : Heap) (L : List Loc) : Prop := v = some (.int 1) ∧ Fr n0 L
set_option maxRecDepth 65536 in
set_option maxHeartbeats 40000000 in
theorem own_rm72 (l : Launch) (Z : State) (a0 : Array Value) (hw : ∀ d ∈ tables_1, d.before a0 Z = true) (hs : ∀ d ∈ jdkStatics_1, d.before a0 Z = true) {p : Program} {e : Env} {s : State} {m : MethodId} {args : Array Value} {below : List Frame} {meth : Method} {c : Code} (hx : p.tables.exec = Jvm.exec) (hby : c.code = code) (hlk : meth.locks = false) (hml : c.maxLocals = 19) (hret : meth.sig.returnType = ret) (A0 : Slot) (A1 : Slot) (A2 : Slot) (A3 : Slot) (A4 : Slot) (A5 : Slot) (A6 : Slot) (A7 : Slot) (s3 : Addr) (B0 : Slot) (A8 : Slot) (B1 : Slot) (B2 : Slot) (A9 : Slot) (j : Addr) (t : Addr) (zaa : Int32) (zab : Value) (y0 : Int32) (y1 : Int32) (y2 : Int32) (y3 : Int32) (wvalue_s3 : Addr) (k_wvalue_s3 : ClassId) (u0 : Int32) (u1 : Int32) (u2 : Int32) (u3 : Int32) (wvalue_t : Addr) (k_wvalue_t : ClassId) (upieces_j : Value) (h0 : Heap) (n0 : Nat) (Z0 : n0 ≤ h0.size) {vm0 : Vm} {s₁ : State} {locs : List Loc} (X0 : Stand p l e room_1 (s.setVm vm0) m args below meth c s₁ locs 38 180) (e0 : s₁.heap = h0) (N0 : Fr n0 locs) {k0 : Nat} (hS0 : s.Since vm0 k0) (hk0 : k0 ≤ h0.size) (hZ : Z.Warmed39 (s.setVm vm0).vm) (hown : (s.setVm vm0).vm.findClass "com/example/nearfield/nearfield/JoinedTextClearPinLaw" = some m.cls) (zac : Sta Z h0 cN0 "COMPACT_STRINGS" "Z" (.int zaa)) (hcs : ¬ (zaa = (0 : Int32))) (zaf : zab.isRef = true) (zan : Sta Z h0 "jdk/internal/util/Preconditions" "SIOOBE_FORMATTER" "Ljava/util/function/BiFunction;" zab) (E_s3 : Exa Z h0 s3 cN0) (F_value_s3 : Fld Z h0 s3 cN0 "value" "[B" (.ref wvalue_s3)) (F_coder_s3 : Fld Z h0 s3 cN0 "coder" "B" J0) (A_wvalue_s3 : Arv Z h0 wvalue_s3 k_wvalue_s3 .byte (0 : Int32) [(.int y0), (.int y1), (.int y2), (.int y3)] J0) (E_t : Exa Z h0 t cN0) (F_value_t : Fld Z h0 t cN0 "value" "[B" (.ref wvalue_t)) (F_coder_t : Fld Z h0 t cN0 "coder" "B" J0) (A_wvalue_t : Arv Z h0 wvalue_t k_wvalue_t .byte (0 : Int32) [(.int u0), (.int u1), (.int u2), (.int u3)] J0) (E_j : Exa Z h0 j cN3) (F_joined_j : Fld Z h0 j cN3 "joined" "Z" J0) (F_piece_j : Fld Z h0 j cN3 "piece" "Ljava/lang/String;" (.ref t)) (F_pieces_j : Fld Z h0 j cN3 "pieces" "Ljava/lang/StringBuilder;" upieces_j) :
    own_FinW p e below s room_1.cells room_1.slots (own_Q72 Z A0 A1 A2 A3 A4 A5 A6 A7 s3 B0 A8 B1 B2 A9 j t zaa zab y0 y1 y2 y3 wvalue_s3 k_wvalue_s3 u0 u1 u2 u3 wvalue_t k_wvalue_t upieces_j h0 n0) (s₁.setTop (mkF m 199 #[A0, A1, A2, A3, A4, A5, A6, A7, rv s3, B0, A8, B1, B2, A9, rv j, iv (1 : Int32), rv t, .unset, .unset] [])) := by
  have KR : Keep h0 h0 [] := Keep.refl _ _
  refine xaloadW X0 hx (hb hby at_199) rfl rfl rfl ?_
  refine oVW X0 hx hZ hown hml (w_ hw 167 rfl) (w_ hw 168 rfl) (w_ hw 170 rfl) (w_ hw 169 rfl) (own_rm63 hw hs j t h0 n0 Z0 F_joined_j F_piece_j) (w_ hw 171 rfl) (w_ hw 32 rfl) e0 E_j [] [] 0 (lenOf own_pd30 rfl) rfl (hb hby at_201) rfl rfl rfl fun T1 L1 v1 X1 hQ1 => ?_
  obtain ⟨rfl, N1q, e1⟩ := hQ1
  have N1 := Fr.app N0 N1q
  refine xastoreW X1 hx (hb hby at_204) rfl rfl (l' := #[A0, A1, A2, A3, A4, A5, A6, A7, rv s3, B0, A8, B1, B2, A9, rv j, iv (1 : Int32), rv t, rv t, .unset]) rfl rfl ?_
  refine xaloadW X1 hx (hb hby at_206) rfl rfl rfl ?_
  refine oVW X1 hx hZ hown hml (w_ hw 224 rfl) (w_ hw 108 rfl) (w_ hw 110 rfl) (w_ hw 109 rfl) (own_rm4 hw hs s3 wvalue_s3 k_wvalue_s3 ([(.int y0), (.int y1), (.int y2), (.int y3)]) ((0 : Int32)) zaa h0 n0 Z0 ⟨E_s3, F_value_s3, F_coder_s3, A_wvalue_s3⟩ zac hcs) (w_ hw 111 rfl) (w_ hw 10 rfl) e1 E_s3 [] [] 0 (lenOf own_pd18 rfl) rfl (hb hby at_208) rfl rfl rfl fun T2 L2 v2 X2 hQ2 => ?_
  obtain ⟨rfl, N2q, e2⟩ := hQ2
  have N2 := Fr.app N1 N2q
  refine xaloadW X2 hx (hb hby at_211) rfl rfl rfl ?_
  refine oVW X2 hx hZ hown hml (w_ hw 224 rfl) (w_ hw 108 rfl) (w_ hw 110 rfl) (w_ hw 109 rfl) (own_rm4 hw hs t wvalue_t k_wvalue_t ([(.int u0), (.int u1), (.int u2), (.int u3)]) ((0 : Int32)) zaa h0 n0 Z0 ⟨E_t, F_value_t, F_coder_t, A_wvalue_t⟩ zac hcs) (w_ hw 111 rfl) (w_ hw 10 rfl) e2 E_t [] [J0] 1 (lenOf own_pd18 rfl) rfl (hb hby at_213) rfl rfl rfl fun T3 L3 v3 X3 hQ3 => ?_
  obtain ⟨rfl, N3q, e3⟩ := hQ3
  have N3 := Fr.app N2 N3q
  refine xiaddW X3 hx (hb hby at_216) rfl rfl ?_
  show own_FinW p e below s _ _ _ (T3.setTop (mkF m 217 #[A0, A1, A2, A3, A4, A5, A6, A7, rv s3, B0, A8, B1, B2, A9, rv j, iv (1 : Int32), rv t, rv t, .unset] [(.int ((0 : Int32) + (0 : Int32)))]))
  rw [show ((0 : Int32) + (0 : Int32)) = (0 : Int32) from by decide]
  show own_FinW p e below s _ _ _ (T3.setTop (mkF m 217 #[A0, A1, A2, A3, A4, A5, A6, A7, rv s3, B0, A8, B1, B2, A9, rv j, iv (1 : Int32), rv t, rv t, .unset] [J0]))
  refine xistoreW X3 hx (hb hby at_217) rfl (l' := #[A0, A1, A2, A3, A4, A5, A6, A7, rv s3, B0, A8, B1, B2, A9, rv j, iv (1 : Int32), rv t, rv t, iv (0 : Int32)]) rfl rfl ?_
  refine xiloadW X3 hx (hb hby at_219) rfl rfl ?_
  refine xifNoW X3 hx (hb hby at_221) rfl ((if0 _ _).trans (feq (by decide : ¬ ((1 : Int32) = (0 : Int32)))).1) rfl ?_
  refine xaloadW X3 hx (hb hby at_224) rfl rfl rfl ?_
  refine oVW X3 hx hZ hown hml (w_ hw 161 rfl) (w_ hw 162 rfl) (w_ hw 164 rfl) (w_ hw 163 rfl) (own_rm61 hw hs j t wvalue_t k_wvalue_t ([(.int u0), (.int u1), (.int u2), (.int u3)]) ((0 : Int32)) upieces_j zaa h0 n0 Z0 E_j F_joined_j F_piece_j ⟨E_t, F_value_t, F_coder_t, A_wvalue_t⟩ F_pieces_j zac hcs) (w_ hw 165 rfl) (w_ hw 32 rfl) e3 E_j [] [] 0 (lenOf own_pd18 rfl) rfl (hb hby at_226) rfl rfl rfl fun T4 L4 v4 X4 hQ4 => ?_
  obtain ⟨rfl, N4q, e4⟩ := hQ4
  have N4 := Fr.app N3 N4q
  refine xiloadW X4 hx (hb hby at_229) rfl rfl ?_
  refine xicmpNoW X4 hx (hb hby at_231) rfl (teq (by decide : (0 : Int32) = (0 : Int32))).2 rfl ?_
  refine xiconstW X4 hx (hb hby at_234) rfl ?_
  refine xgotoW X4 hx 235 239 rfl (hb hby at_235) rfl ?_
  refine xistoreW X4 hx (hb hby at_239) rfl (l' := #[A0, A1, A2, A3, A4, A5, A6, A7, rv s3, B0, A8, B1, B2, A9, rv j, iv (1 : Int32), rv t, rv t, iv (0 : Int32)]) rfl rfl ?_
  show own_FinW p e below s _ _ _ (T4.setTop (mkF m 241 #[A0, A1, A2, A3, A4, A5, A6, A7, rv s3, B0, A8, B1, B2, A9, rv j, iv (1 : Int32), rv t, rv t, iv (0 : Int32)] []))
  refine xiloadW X4 hx (hb hby at_241) rfl rfl ?_
  refine xifNoW X4 hx (hb hby at_243) rfl ((if0 _ _).trans (feq (by decide : ¬ ((1 : Int32) = (0 : Int32)))).1) rfl ?_
  refine xaloadW X4 hx (hb hby at_246) rfl rfl rfl ?_
  refine oVW X4 hx hZ hown hml (w_ hw 224 rfl) (w_ hw 108 rfl) (w_ hw 110 rfl) (w_ hw 109 rfl) (own_rm4 hw hs t wvalue_t k_wvalue_t ([(.int u0), (.int u1), (.int u2), (.int u3)]) ((0 : Int32)) zaa h0 n0 Z0 ⟨E_t, F_value_t, F_coder_t, A_wvalue_t⟩ zac hcs) (w_ hw 111 rfl) (w_ hw 10 rfl) e4 E_t [] [] 0 (lenOf own_pd18 rfl) rfl (hb hby at_248) rfl rfl rfl fun T5 L5 v5 X5 hQ5 => ?_
  obtain ⟨rfl, N5q, e5⟩ := hQ5
  have N5 := Fr.app N4 N5q
  refine xiloadW X5 hx (hb hby at_251) rfl rfl ?_
  refine xicmpNoW X5 hx (hb hby at_253) rfl (teq (by decide : (0 : Int32) = (0 : Int32))).2 rfl ?_
  refine xiconstW X5 hx (hb hby at_256) rfl ?_
  refine xgotoW X5 hx 257 261 rfl (hb hby at_257) rfl ?_
  refine xistoreW X5 hx (hb hby at_261) rfl (l' := #[A0, A1, A2, A3, A4, A5, A6, A7, rv s3, B0, A8, B1, B2, A9, rv j, iv (1 : Int32), rv t, rv t, iv (0 : Int32)]) rfl rfl ?_
  refine xiloadW X5 hx (hb hby at_263) rfl rfl ?_
  show own_FinW p e below s _ _ _ (T5.setTop (mkF m 265 #[A0, A1, A2, A3, A4, A5, A6, A7, rv s3, B0, A8, B1, B2, A9, rv j, iv (1 : Int32), rv t, rv t, iv (0 : Int32)] [J1]))
  refine xifNoW X5 hx (hb hby at_265) rfl ((if0 _ _).trans (feq (by decide : ¬ ((1 : Int32) = (0 : Int32)))).1) rfl ?_
  refine xaloadW X5 hx (hb hby at_268) rfl rfl rfl ?_
  refine xiconstW X5 hx (hb hby at_270) rfl ?_
  refine xaloadW X5 hx (hb hby at_271) rfl rfl rfl ?_
  refine oCW X5 hx hZ hown hml (w_ hw 228 rfl) (w_ hw 229 rfl) (own_rm71 hw hs t ((0 : Int32)) s3 zaa zab y0 y1 y2 y3 wvalue_s3 k_wvalue_s3 h0 n0 Z0 zac zaf zan ⟨E_s3, F_value_s3, F_coder_s3, A_wvalue_s3⟩ hcs) (w_ hw 230 rfl) (w_ hw 2 rfl) e5 [(.ref t), J0, (.ref s3)] [] 0 (lenOf own_pd32 rfl) rfl (hb hby at_273) rfl rfl rfl fun T6 L6 v6 X6 hQ6 => ?_
  obtain ⟨rfl, N6q, e6⟩ := hQ6
  have N6 := Fr.app N5 N6q
  refine xifNoW X6 hx (hb hby at_276) rfl ((if0 _ _).trans (feq (by decide : ¬ ((1 : Int32) = (0 : Int32)))).1) rfl ?_
  refine xiconstW X6 hx (hb hby at_279) rfl ?_
  refine xgotoW X6 hx 280 284 rfl (hb hby at_280) rfl ?_
  refine xistoreW X6 hx (hb hby at_284) rfl (l' := #[A0, A1, A2, A3, A4, A5, A6, A7, rv s3, B0, A8, B1, B2, A9, rv j, iv (1 : Int32), rv t, rv t, iv (0 : Int32)]) rfl rfl ?_
  refine xiloadW X6 hx (hb hby at_286) rfl rfl ?_
  show own_FinW p e below s _ _ _ (T6.setTop (mkF m 288 #[A0, A1, A2, A3, A4, A5, A6, A7, rv s3, B0, A8, B1, B2, A9, rv j, iv (1 : Int32), rv t, rv t, iv (0 : Int32)] [J1]))
  refine xifNoW X6 hx (hb hby at_288) rfl ((if0 _ _).trans (feq (by decide : ¬ ((1 : Int32) = (0 : Int32)))).1) rfl ?_
  refine xaloadW X6 hx (hb hby at_291) rfl rfl rfl ?_
  refine xaloadW X6 hx (hb hby at_293) rfl rfl rfl ?_
  refine oVW X6 hx hZ hown hml (w_ hw 224 rfl) (w_ hw 108 rfl) (w_ hw 110 rfl) (w_ hw 109 rfl) (own_rm4 hw hs s3 wvalue_s3 k_wvalue_s3 ([(.int y0), (.int y1), (.int y2), (.int y3)]) ((0 : Int32)) zaa h0 n0 Z0 ⟨E_s3, F_value_s3, F_coder_s3, A_wvalue_s3⟩ zac hcs) (w_ hw 111 rfl) (w_ hw 10 rfl) e6 E_s3 [] [(.ref t)] 1 (lenOf own_pd18 rfl) rfl (hb hby at_295) rfl rfl rfl fun T7 L7 v7 X7 hQ7 => ?_
  obtain ⟨rfl, N7q, e7⟩ := hQ7
  have N7 := Fr.app N6 N7q
  refine xaloadW X7 hx (hb hby at_298) rfl rfl rfl ?_
  refine oCW X7 hx hZ hown hml (w_ hw 228 rfl) (w_ hw 229 rfl) (own_rm71 hw hs t ((0 : Int32)) t zaa zab u0 u1 u2 u3 wvalue_t k_wvalue_t h0 n0 Z0 zac zaf zan ⟨E_t, F_value_t, F_coder_t, A_wvalue_t⟩ hcs) (w_ hw 230 rfl) (w_ hw 2 rfl) e7 [(.ref t), J0, (.ref t)] [] 0 (lenOf own_pd32 rfl) rfl (hb hby at_300) rfl rfl rfl fun T8 L8 v8 X8 hQ8 => ?_
  obtain ⟨rfl, N8q, e8⟩ := hQ8
  have N8 := Fr.app N7 N8q
  refine xifNoW X8 hx (hb hby at_303) rfl ((if0 _ _).trans (feq (by decide : ¬ ((1 : Int32) = (0 : Int32)))).1) rfl ?_
  refine xiconstW X8 hx (hb hby at_306) rfl ?_
  refine xgotoW X8 hx 307 311 rfl (hb hby at_307) rfl ?_
  show own_FinW p e below s _ _ _ (T8.setTop (mkF m 311 #[A0, A1, A2, A3, A4, A5, A6, A7, rv s3, B0, A8, B1, B2, A9, rv j, iv (1 : Int32), rv t, rv t, iv (0 : Int32)] [J1]))
  refine xistoreW X8 hx (hb hby at_311) rfl (l' := #[A0, A1, A2, A3, A4, A5, A6, A7, rv s3, B0, A8, B1, B2, A9, rv j, iv (1 : Int32), rv t, rv t, iv (0 : Int32)]) rfl rfl ?_
  refine xiloadW X8 hx (hb hby at_313) rfl rfl ?_
  exact own_retW X8 hlk hS0 e8 hk0 (v := some J1) (fun h => by rw [hret] at h; cases h) (by decide) (by decide) (by show own_Q72 Z A0 A1 A2 A3 A4 A5 A6 A7 s3 B0 A8 B1 B2 A9 j t zaa zab y0 y1 y2 y3 wvalue_s3 k_wvalue_s3 u0 u1 u2 u3 wvalue_t k_wvalue_t upieces_j h0 n0 _ T8.heap _; rw [e8]; exact ⟨rfl, N8⟩) (fun fs hr => retN X8 hx (t := .boolean) hret (by simp) (hb hby at_315) hr)

def own_Q73 (Z : State) (A0 : Slot) (A1 : Slot) (A2 : Slot) (A3 : Slot) (A4 : Slot) (A5 : Slot) (A6 : Slot) (A7 : Slot) (s3 : Addr) (B0 : Slot) (A8 : Slot) (B1 : Slot) (B2 : Slot) (A9 : Slot) (j : Addr) (t : Addr) (zaa : Int32) (zab : Value) (y0 : Int32) (y1 : Int32) (y2 : Int32) (y3 : Int32) (wvalue_s3 : Addr) (k_wvalue_s3 : ClassId) (x0 : Int32) (u1 : Int32) (u2 : Int32) (u3 : Int32) (wvalue_t : Addr) (k_wvalue_t : ClassId) (upieces_j : Value) (h0 : Heap) (n0 : Nat) (v : Option Value) (h : Heap) (L : List Loc) : Prop := v = some (.int 1) ∧ Fr n0 L
set_option maxRecDepth 65536 in
set_option maxHeartbeats 40000000 in
theorem own_rm73 (l : Launch) (Z : State) (a0 : Array Value) (hw : ∀ d ∈ tables_1, d.before a0 Z = true) (hs : ∀ d ∈ jdkStatics_1, d.before a0 Z = true) {p : Program} {e : Env} {s : State} {m : MethodId} {args : Array Value} {below : List Frame} {meth : Method} {c : Code} (hx : p.tables.exec = Jvm.exec) (hby : c.code = code) (hlk : meth.locks = false) (hml : c.maxLocals = 19) (hret : meth.sig.returnType = ret) (A0 : Slot) (A1 : Slot) (A2 : Slot) (A3 : Slot) (A4 : Slot) (A5 : Slot) (A6 : Slot) (A7 : Slot) (s3 : Addr) (B0 : Slot) (A8 : Slot) (B1 : Slot) (B2 : Slot) (A9 : Slot) (j : Addr) (t : Addr) (zaa : Int32) (zab : Value) (y0 : Int32) (y1 : Int32) (y2 : Int32) (y3 : Int32) (wvalue_s3 : Addr) (k_wvalue_s3 : ClassId) (x0 : Int32) (u1 : Int32) (u2 : Int32) (u3 : Int32) (wvalue_t : Addr) (k_wvalue_t : ClassId) (upieces_j : Value) (h0 : Heap) (n0 : Nat) (Z0 : n0 ≤ h0.size) {vm0 : Vm} {s₁ : State} {locs : List Loc} (X0 : Stand p l e room_1 (s.setVm vm0) m args below meth c s₁ locs 38 180) (e0 : s₁.heap = h0) (N0 : Fr n0 locs) {k0 : Nat} (hS0 : s.Since vm0 k0) (hk0 : k0 ≤ h0.size) (hZ : Z.Warmed39 (s.setVm vm0).vm) (hown : (s.setVm vm0).vm.findClass "com/example/nearfield/nearfield/JoinedTextClearPinLaw" = some m.cls) (zac : Sta Z h0 cN0 "COMPACT_STRINGS" "Z" (.int zaa)) (hcs : ¬ (zaa = (0 : Int32))) (zaf : zab.isRef = true) (zan : Sta Z h0 "jdk/internal/util/Preconditions" "SIOOBE_FORMATTER" "Ljava/util/function/BiFunction;" zab) (E_s3 : Exa Z h0 s3 cN0) (F_value_s3 : Fld Z h0 s3 cN0 "value" "[B" (.ref wvalue_s3)) (F_coder_s3 : Fld Z h0 s3 cN0 "coder" "B" J0) (A_wvalue_s3 : Arv Z h0 wvalue_s3 k_wvalue_s3 .byte (0 : Int32) [(.int y0), (.int y1), (.int y2), (.int y3)] J0) (E_t : Exa Z h0 t cN0) (F_value_t : Fld Z h0 t cN0 "value" "[B" (.ref wvalue_t)) (F_coder_t : Fld Z h0 t cN0 "coder" "B" J0) (A_wvalue_t : Arv Z h0 wvalue_t k_wvalue_t .byte (1 : Int32) [(.int x0), (.int u1), (.int u2), (.int u3)] J0) (E_j : Exa Z h0 j cN3) (F_joined_j : Fld Z h0 j cN3 "joined" "Z" J0) (F_piece_j : Fld Z h0 j cN3 "piece" "Ljava/lang/String;" (.ref t)) (F_pieces_j : Fld Z h0 j cN3 "pieces" "Ljava/lang/StringBuilder;" upieces_j) :
    own_FinW p e below s room_1.cells room_1.slots (own_Q73 Z A0 A1 A2 A3 A4 A5 A6 A7 s3 B0 A8 B1 B2 A9 j t zaa zab y0 y1 y2 y3 wvalue_s3 k_wvalue_s3 x0 u1 u2 u3 wvalue_t k_wvalue_t upieces_j h0 n0) (s₁.setTop (mkF m 199 #[A0, A1, A2, A3, A4, A5, A6, A7, rv s3, B0, A8, B1, B2, A9, rv j, iv (1 : Int32), rv t, .unset, .unset] [])) := by
  have KR : Keep h0 h0 [] := Keep.refl _ _
  refine xaloadW X0 hx (hb hby at_199) rfl rfl rfl ?_
  refine oVW X0 hx hZ hown hml (w_ hw 167 rfl) (w_ hw 168 rfl) (w_ hw 170 rfl) (w_ hw 169 rfl) (own_rm63 hw hs j t h0 n0 Z0 F_joined_j F_piece_j) (w_ hw 171 rfl) (w_ hw 32 rfl) e0 E_j [] [] 0 (lenOf own_pd30 rfl) rfl (hb hby at_201) rfl rfl rfl fun T1 L1 v1 X1 hQ1 => ?_
  obtain ⟨rfl, N1q, e1⟩ := hQ1
  have N1 := Fr.app N0 N1q
  refine xastoreW X1 hx (hb hby at_204) rfl rfl (l' := #[A0, A1, A2, A3, A4, A5, A6, A7, rv s3, B0, A8, B1, B2, A9, rv j, iv (1 : Int32), rv t, rv t, .unset]) rfl rfl ?_
  refine xaloadW X1 hx (hb hby at_206) rfl rfl rfl ?_
  refine oVW X1 hx hZ hown hml (w_ hw 224 rfl) (w_ hw 108 rfl) (w_ hw 110 rfl) (w_ hw 109 rfl) (own_rm4 hw hs s3 wvalue_s3 k_wvalue_s3 ([(.int y0), (.int y1), (.int y2), (.int y3)]) ((0 : Int32)) zaa h0 n0 Z0 ⟨E_s3, F_value_s3, F_coder_s3, A_wvalue_s3⟩ zac hcs) (w_ hw 111 rfl) (w_ hw 10 rfl) e1 E_s3 [] [] 0 (lenOf own_pd18 rfl) rfl (hb hby at_208) rfl rfl rfl fun T2 L2 v2 X2 hQ2 => ?_
  obtain ⟨rfl, N2q, e2⟩ := hQ2
  have N2 := Fr.app N1 N2q
  refine xaloadW X2 hx (hb hby at_211) rfl rfl rfl ?_
  refine oVW X2 hx hZ hown hml (w_ hw 224 rfl) (w_ hw 108 rfl) (w_ hw 110 rfl) (w_ hw 109 rfl) (own_rm4 hw hs t wvalue_t k_wvalue_t ([(.int x0), (.int u1), (.int u2), (.int u3)]) ((1 : Int32)) zaa h0 n0 Z0 ⟨E_t, F_value_t, F_coder_t, A_wvalue_t⟩ zac hcs) (w_ hw 111 rfl) (w_ hw 10 rfl) e2 E_t [] [J0] 1 (lenOf own_pd18 rfl) rfl (hb hby at_213) rfl rfl rfl fun T3 L3 v3 X3 hQ3 => ?_
  obtain ⟨rfl, N3q, e3⟩ := hQ3
  have N3 := Fr.app N2 N3q
  refine xiaddW X3 hx (hb hby at_216) rfl rfl ?_
  show own_FinW p e below s _ _ _ (T3.setTop (mkF m 217 #[A0, A1, A2, A3, A4, A5, A6, A7, rv s3, B0, A8, B1, B2, A9, rv j, iv (1 : Int32), rv t, rv t, .unset] [(.int ((0 : Int32) + (1 : Int32)))]))
  rw [show ((0 : Int32) + (1 : Int32)) = (1 : Int32) from by decide]
  show own_FinW p e below s _ _ _ (T3.setTop (mkF m 217 #[A0, A1, A2, A3, A4, A5, A6, A7, rv s3, B0, A8, B1, B2, A9, rv j, iv (1 : Int32), rv t, rv t, .unset] [J1]))
  refine xistoreW X3 hx (hb hby at_217) rfl (l' := #[A0, A1, A2, A3, A4, A5, A6, A7, rv s3, B0, A8, B1, B2, A9, rv j, iv (1 : Int32), rv t, rv t, iv (1 : Int32)]) rfl rfl ?_
  refine xiloadW X3 hx (hb hby at_219) rfl rfl ?_
  refine xifNoW X3 hx (hb hby at_221) rfl ((if0 _ _).trans (feq (by decide : ¬ ((1 : Int32) = (0 : Int32)))).1) rfl ?_
  refine xaloadW X3 hx (hb hby at_224) rfl rfl rfl ?_
  refine oVW X3 hx hZ hown hml (w_ hw 161 rfl) (w_ hw 162 rfl) (w_ hw 164 rfl) (w_ hw 163 rfl) (own_rm61 hw hs j t wvalue_t k_wvalue_t ([(.int x0), (.int u1), (.int u2), (.int u3)]) ((1 : Int32)) upieces_j zaa h0 n0 Z0 E_j F_joined_j F_piece_j ⟨E_t, F_value_t, F_coder_t, A_wvalue_t⟩ F_pieces_j zac hcs) (w_ hw 165 rfl) (w_ hw 32 rfl) e3 E_j [] [] 0 (lenOf own_pd18 rfl) rfl (hb hby at_226) rfl rfl rfl fun T4 L4 v4 X4 hQ4 => ?_
  obtain ⟨rfl, N4q, e4⟩ := hQ4
  have N4 := Fr.app N3 N4q
  refine xiloadW X4 hx (hb hby at_229) rfl rfl ?_
  refine xicmpNoW X4 hx (hb hby at_231) rfl (teq (by decide : (1 : Int32) = (1 : Int32))).2 rfl ?_
  refine xiconstW X4 hx (hb hby at_234) rfl ?_
  refine xgotoW X4 hx 235 239 rfl (hb hby at_235) rfl ?_
  refine xistoreW X4 hx (hb hby at_239) rfl (l' := #[A0, A1, A2, A3, A4, A5, A6, A7, rv s3, B0, A8, B1, B2, A9, rv j, iv (1 : Int32), rv t, rv t, iv (1 : Int32)]) rfl rfl ?_
  show own_FinW p e below s _ _ _ (T4.setTop (mkF m 241 #[A0, A1, A2, A3, A4, A5, A6, A7, rv s3, B0, A8, B1, B2, A9, rv j, iv (1 : Int32), rv t, rv t, iv (1 : Int32)] []))
  refine xiloadW X4 hx (hb hby at_241) rfl rfl ?_
  refine xifNoW X4 hx (hb hby at_243) rfl ((if0 _ _).trans (feq (by decide : ¬ ((1 : Int32) = (0 : Int32)))).1) rfl ?_
  refine xaloadW X4 hx (hb hby at_246) rfl rfl rfl ?_
  refine oVW X4 hx hZ hown hml (w_ hw 224 rfl) (w_ hw 108 rfl) (w_ hw 110 rfl) (w_ hw 109 rfl) (own_rm4 hw hs t wvalue_t k_wvalue_t ([(.int x0), (.int u1), (.int u2), (.int u3)]) ((1 : Int32)) zaa h0 n0 Z0 ⟨E_t, F_value_t, F_coder_t, A_wvalue_t⟩ zac hcs) (w_ hw 111 rfl) (w_ hw 10 rfl) e4 E_t [] [] 0 (lenOf own_pd18 rfl) rfl (hb hby at_248) rfl rfl rfl fun T5 L5 v5 X5 hQ5 => ?_
  obtain ⟨rfl, N5q, e5⟩ := hQ5
  have N5 := Fr.app N4 N5q
  refine xiloadW X5 hx (hb hby at_251) rfl rfl ?_
  refine xicmpNoW X5 hx (hb hby at_253) rfl (teq (by decide : (1 : Int32) = (1 : Int32))).2 rfl ?_
  refine xiconstW X5 hx (hb hby at_256) rfl ?_
  refine xgotoW X5 hx 257 261 rfl (hb hby at_257) rfl ?_
  refine xistoreW X5 hx (hb hby at_261) rfl (l' := #[A0, A1, A2, A3, A4, A5, A6, A7, rv s3, B0, A8, B1, B2, A9, rv j, iv (1 : Int32), rv t, rv t, iv (1 : Int32)]) rfl rfl ?_
  refine xiloadW X5 hx (hb hby at_263) rfl rfl ?_
  show own_FinW p e below s _ _ _ (T5.setTop (mkF m 265 #[A0, A1, A2, A3, A4, A5, A6, A7, rv s3, B0, A8, B1, B2, A9, rv j, iv (1 : Int32), rv t, rv t, iv (1 : Int32)] [J1]))
  refine xifNoW X5 hx (hb hby at_265) rfl ((if0 _ _).trans (feq (by decide : ¬ ((1 : Int32) = (0 : Int32)))).1) rfl ?_
  refine xaloadW X5 hx (hb hby at_268) rfl rfl rfl ?_
  refine xiconstW X5 hx (hb hby at_270) rfl ?_
  refine xaloadW X5 hx (hb hby at_271) rfl rfl rfl ?_
  refine oCW X5 hx hZ hown hml (w_ hw 228 rfl) (w_ hw 229 rfl) (own_rm71 hw hs t ((0 : Int32)) s3 zaa zab y0 y1 y2 y3 wvalue_s3 k_wvalue_s3 h0 n0 Z0 zac zaf zan ⟨E_s3, F_value_s3, F_coder_s3, A_wvalue_s3⟩ hcs) (w_ hw 230 rfl) (w_ hw 2 rfl) e5 [(.ref t), J0, (.ref s3)] [] 0 (lenOf own_pd32 rfl) rfl (hb hby at_273) rfl rfl rfl fun T6 L6 v6 X6 hQ6 => ?_
  obtain ⟨rfl, N6q, e6⟩ := hQ6
  have N6 := Fr.app N5 N6q
  refine xifNoW X6 hx (hb hby at_276) rfl ((if0 _ _).trans (feq (by decide : ¬ ((1 : Int32) = (0 : Int32)))).1) rfl ?_
  refine xiconstW X6 hx (hb hby at_279) rfl ?_
  refine xgotoW X6 hx 280 284 rfl (hb hby at_280) rfl ?_
  refine xistoreW X6 hx (hb hby at_284) rfl (l' := #[A0, A1, A2, A3, A4, A5, A6, A7, rv s3, B0, A8, B1, B2, A9, rv j, iv (1 : Int32), rv t, rv t, iv (1 : Int32)]) rfl rfl ?_
  refine xiloadW X6 hx (hb hby at_286) rfl rfl ?_
  show own_FinW p e below s _ _ _ (T6.setTop (mkF m 288 #[A0, A1, A2, A3, A4, A5, A6, A7, rv s3, B0, A8, B1, B2, A9, rv j, iv (1 : Int32), rv t, rv t, iv (1 : Int32)] [J1]))
  refine xifNoW X6 hx (hb hby at_288) rfl ((if0 _ _).trans (feq (by decide : ¬ ((1 : Int32) = (0 : Int32)))).1) rfl ?_
  refine xaloadW X6 hx (hb hby at_291) rfl rfl rfl ?_
  refine xaloadW X6 hx (hb hby at_293) rfl rfl rfl ?_
  refine oVW X6 hx hZ hown hml (w_ hw 224 rfl) (w_ hw 108 rfl) (w_ hw 110 rfl) (w_ hw 109 rfl) (own_rm4 hw hs s3 wvalue_s3 k_wvalue_s3 ([(.int y0), (.int y1), (.int y2), (.int y3)]) ((0 : Int32)) zaa h0 n0 Z0 ⟨E_s3, F_value_s3, F_coder_s3, A_wvalue_s3⟩ zac hcs) (w_ hw 111 rfl) (w_ hw 10 rfl) e6 E_s3 [] [(.ref t)] 1 (lenOf own_pd18 rfl) rfl (hb hby at_295) rfl rfl rfl fun T7 L7 v7 X7 hQ7 => ?_
  obtain ⟨rfl, N7q, e7⟩ := hQ7
  have N7 := Fr.app N6 N7q
  refine xaloadW X7 hx (hb hby at_298) rfl rfl rfl ?_
  refine oCW X7 hx hZ hown hml (w_ hw 228 rfl) (w_ hw 229 rfl) (own_rm65 hw hs t t zaa zab x0 u1 u2 u3 u1 u2 u3 wvalue_t k_wvalue_t ((1 : Int32)) wvalue_t k_wvalue_t h0 n0 Z0 zac zaf zan ⟨E_t, F_value_t, F_coder_t, A_wvalue_t⟩ (show ¬ ((1 : Int32) < (1 : Int32)) from (by first | decide | assumption | exact Nat.le_of_ble_eq_true rfl)) ⟨E_t, F_value_t, F_coder_t, A_wvalue_t⟩ hcs) (w_ hw 230 rfl) (w_ hw 2 rfl) e7 [(.ref t), J0, (.ref t)] [] 0 (lenOf own_pd32 rfl) rfl (hb hby at_300) rfl rfl rfl fun T8 L8 v8 X8 hQ8 => ?_
  obtain ⟨rfl, N8q, e8⟩ := hQ8
  have N8 := Fr.app N7 N8q
  refine xifNoW X8 hx (hb hby at_303) rfl ((if0 _ _).trans (feq (by decide : ¬ ((1 : Int32) = (0 : Int32)))).1) rfl ?_
  refine xiconstW X8 hx (hb hby at_306) rfl ?_
  refine xgotoW X8 hx 307 311 rfl (hb hby at_307) rfl ?_
  show own_FinW p e below s _ _ _ (T8.setTop (mkF m 311 #[A0, A1, A2, A3, A4, A5, A6, A7, rv s3, B0, A8, B1, B2, A9, rv j, iv (1 : Int32), rv t, rv t, iv (1 : Int32)] [J1]))
  refine xistoreW X8 hx (hb hby at_311) rfl (l' := #[A0, A1, A2, A3, A4, A5, A6, A7, rv s3, B0, A8, B1, B2, A9, rv j, iv (1 : Int32), rv t, rv t, iv (1 : Int32)]) rfl rfl ?_
  refine xiloadW X8 hx (hb hby at_313) rfl rfl ?_
  exact own_retW X8 hlk hS0 e8 hk0 (v := some J1) (fun h => by rw [hret] at h; cases h) (by decide) (by decide) (by show own_Q73 Z A0 A1 A2 A3 A4 A5 A6 A7 s3 B0 A8 B1 B2 A9 j t zaa zab y0 y1 y2 y3 wvalue_s3 k_wvalue_s3 x0 u1 u2 u3 wvalue_t k_wvalue_t upieces_j h0 n0 _ T8.heap _; rw [e8]; exact ⟨rfl, N8⟩) (fun fs hr => retN X8 hx (t := .boolean) hret (by simp) (hb hby at_315) hr)

def own_Q74 (Z : State) (A0 : Slot) (A1 : Slot) (A2 : Slot) (A3 : Slot) (A4 : Slot) (A5 : Slot) (A6 : Slot) (A7 : Slot) (s3 : Addr) (B0 : Slot) (A8 : Slot) (B1 : Slot) (B2 : Slot) (A9 : Slot) (j : Addr) (t : Addr) (zaa : Int32) (zab : Value) (x0 : Int32) (x1 : Int32) (x2 : Int32) (x3 : Int32) (y0 : Int32) (y1 : Int32) (y2 : Int32) (y3 : Int32) (wvalue_s3 : Addr) (k_wvalue_s3 : ClassId) (u1 : Int32) (u2 : Int32) (u3 : Int32) (wvalue_t : Addr) (k_wvalue_t : ClassId) (upiece_j : Value) (wpieces_j : Addr) (wvalue_wpieces_j : Addr) (umaybeLatin1_wpieces_j : Value) (k_wvalue_wpieces_j : ClassId) (h0 : Heap) (n0 : Nat) (v : Option Value) (h : Heap) (L : List Loc) : Prop := v = some (.int 1) ∧ Fr n0 L
set_option maxRecDepth 65536 in
set_option maxHeartbeats 40000000 in
theorem own_rm74 (l : Launch) (Z : State) (a0 : Array Value) (hw : ∀ d ∈ tables_1, d.before a0 Z = true) (hs : ∀ d ∈ jdkStatics_1, d.before a0 Z = true) {p : Program} {e : Env} {s : State} {m : MethodId} {args : Array Value} {below : List Frame} {meth : Method} {c : Code} (hx : p.tables.exec = Jvm.exec) (hby : c.code = code) (hlk : meth.locks = false) (hml : c.maxLocals = 19) (hret : meth.sig.returnType = ret) (A0 : Slot) (A1 : Slot) (A2 : Slot) (A3 : Slot) (A4 : Slot) (A5 : Slot) (A6 : Slot) (A7 : Slot) (s3 : Addr) (B0 : Slot) (A8 : Slot) (B1 : Slot) (B2 : Slot) (A9 : Slot) (j : Addr) (t : Addr) (zaa : Int32) (zab : Value) (x0 : Int32) (x1 : Int32) (x2 : Int32) (x3 : Int32) (y0 : Int32) (y1 : Int32) (y2 : Int32) (y3 : Int32) (wvalue_s3 : Addr) (k_wvalue_s3 : ClassId) (u1 : Int32) (u2 : Int32) (u3 : Int32) (wvalue_t : Addr) (k_wvalue_t : ClassId) (upiece_j : Value) (wpieces_j : Addr) (wvalue_wpieces_j : Addr) (umaybeLatin1_wpieces_j : Value) (k_wvalue_wpieces_j : ClassId) (h0 : Heap) (n0 : Nat) (Z0 : n0 ≤ h0.size) {vm0 : Vm} {s₁ : State} {locs : List Loc} (X0 : Stand p l e room_1 (s.setVm vm0) m args below meth c s₁ locs 38 180) (e0 : s₁.heap = h0) (N0 : Fr n0 locs) {k0 : Nat} (hS0 : s.Since vm0 k0) (hk0 : k0 ≤ h0.size) (hZ : Z.Warmed39 (s.setVm vm0).vm) (hown : (s.setVm vm0).vm.findClass "com/example/nearfield/nearfield/JoinedTextClearPinLaw" = some m.cls) (zac : Sta Z h0 cN0 "COMPACT_STRINGS" "Z" (.int zaa)) (hcs : ¬ (zaa = (0 : Int32))) (zaf : zab.isRef = true) (zan : Sta Z h0 "jdk/internal/util/Preconditions" "SIOOBE_FORMATTER" "Ljava/util/function/BiFunction;" zab) (E_s3 : Exa Z h0 s3 cN0) (F_value_s3 : Fld Z h0 s3 cN0 "value" "[B" (.ref wvalue_s3)) (F_coder_s3 : Fld Z h0 s3 cN0 "coder" "B" J0) (A_wvalue_s3 : Arv Z h0 wvalue_s3 k_wvalue_s3 .byte (0 : Int32) [(.int y0), (.int y1), (.int y2), (.int y3)] J0) (E_t : Exa Z h0 t cN0) (F_value_t : Fld Z h0 t cN0 "value" "[B" (.ref wvalue_t)) (F_coder_t : Fld Z h0 t cN0 "coder" "B" J0) (A_wvalue_t : Arv Z h0 wvalue_t k_wvalue_t .byte (1 : Int32) [(.int x0), (.int u1), (.int u2), (.int u3)] J0) (E_j : Exa Z h0 j cN3) (F_joined_j : Fld Z h0 j cN3 "joined" "Z" J1) (F_piece_j : Fld Z h0 j cN3 "piece" "Ljava/lang/String;" upiece_j) (F_pieces_j : Fld Z h0 j cN3 "pieces" "Ljava/lang/StringBuilder;" (.ref wpieces_j)) (E_wpieces_j : Exa Z h0 wpieces_j cN1) (F_value_wpieces_j : Fld Z h0 wpieces_j cN2 "value" "[B" (.ref wvalue_wpieces_j)) (F_coder_wpieces_j : Fld Z h0 wpieces_j cN2 "coder" "B" J0) (F_count_wpieces_j : Fld Z h0 wpieces_j cN2 "count" "I" J1) (F_maybeLatin1_wpieces_j : Fld Z h0 wpieces_j cN2 "maybeLatin1" "Z" umaybeLatin1_wpieces_j) (A_wvalue_wpieces_j : Arv Z h0 wvalue_wpieces_j k_wvalue_wpieces_j .byte (16 : Int32) [(.int x0), (.int x1), (.int x2), (.int x3)] J0) :
    own_FinW p e below s room_1.cells room_1.slots (own_Q74 Z A0 A1 A2 A3 A4 A5 A6 A7 s3 B0 A8 B1 B2 A9 j t zaa zab x0 x1 x2 x3 y0 y1 y2 y3 wvalue_s3 k_wvalue_s3 u1 u2 u3 wvalue_t k_wvalue_t upiece_j wpieces_j wvalue_wpieces_j umaybeLatin1_wpieces_j k_wvalue_wpieces_j h0 n0) (s₁.setTop (mkF m 199 #[A0, A1, A2, A3, A4, A5, A6, A7, rv s3, B0, A8, B1, B2, A9, rv j, iv (1 : Int32), rv t, .unset, .unset] [])) := by
  have KR : Keep h0 h0 [] := Keep.refl _ _
  refine xaloadW X0 hx (hb hby at_199) rfl rfl rfl ?_
  refine oVW X0 hx hZ hown hml (w_ hw 167 rfl) (w_ hw 168 rfl) (w_ hw 170 rfl) (w_ hw 169 rfl) (own_rm64 hw hs j upiece_j wpieces_j wvalue_wpieces_j ((1 : Int32)) umaybeLatin1_wpieces_j k_wvalue_wpieces_j ([(.int x0), (.int x1), (.int x2), (.int x3)]) zaa h0 n0 Z0 E_j F_joined_j F_piece_j F_pieces_j ⟨E_wpieces_j, F_value_wpieces_j, F_coder_wpieces_j, F_count_wpieces_j, F_maybeLatin1_wpieces_j, A_wvalue_wpieces_j⟩ zac hcs (show ¬ ((1 : Int32) = (16 : Int32)) from (by first | decide | assumption | exact Nat.le_of_ble_eq_true rfl)) (show ¬ ((1 : Int32) < (0 : Int32)) from (by first | decide | assumption | exact Nat.le_of_ble_eq_true rfl)) (show (1 : Int32).toNatClampNeg ≤ 4 from (by first | decide | assumption | exact Nat.le_of_ble_eq_true rfl)) (show (1 : Int32) < (16 : Int32) from (by first | decide | assumption | exact Nat.le_of_ble_eq_true rfl)) (show (0 : Int32).toNatClampNeg + (1 : Int32).toNatClampNeg ≤ (16 : Int32).toNatClampNeg from (by first | decide | assumption | exact Nat.le_of_ble_eq_true rfl)) (show (0 : Int32).toNatClampNeg + (1 : Int32).toNatClampNeg ≤ [J0, J0, J0, J0].length from (by first | decide | assumption | exact Nat.le_of_ble_eq_true rfl))) (w_ hw 171 rfl) (w_ hw 32 rfl) e0 E_j [] [] 0 (lenOf own_pd30 rfl) rfl (hb hby at_201) rfl rfl rfl fun T1 L1 v1 X1 hQ1 => ?_
  obtain ⟨N1q, K1q, b1_o0, gg1_o0, sz1_o0, b1_o1, gg1_o1, sz1_o1, ko0_1, rfl, G2, G3, G4, G5⟩ := hQ1
  have N1 := Fr.app N0 N1q
  have ne1_o0_s3 : s3 ≠ b1_o0 := Nat.ne_of_lt (Nat.lt_of_lt_of_le E_s3.lt sz1_o0)
  have ne1_o0_t : t ≠ b1_o0 := Nat.ne_of_lt (Nat.lt_of_lt_of_le E_t.lt sz1_o0)
  have ne1_o1_wvalue_s3 : wvalue_s3 ≠ b1_o1 := Nat.ne_of_lt (Nat.lt_of_lt_of_le A_wvalue_s3.lt sz1_o1)
  have ne1_o1_wvalue_t : wvalue_t ≠ b1_o1 := Nat.ne_of_lt (Nat.lt_of_lt_of_le A_wvalue_t.lt sz1_o1)
  have ne1_o1_wvalue_wpieces_j : wvalue_wpieces_j ≠ b1_o1 := Nat.ne_of_lt (Nat.lt_of_lt_of_le A_wvalue_wpieces_j.lt sz1_o1)
  have K1 := KR.trans K1q own_a0
  have Z1 := Nat.le_trans Z0 K1q.1
  have sy1_o0 : h0.size ≤ b1_o0 := Nat.le_trans KR.1 sz1_o0
  have sy1_o1 : h0.size ≤ b1_o1 := Nat.le_trans KR.1 sz1_o1
  have hk1 := Nat.le_trans hk0 K1q.1
  obtain ⟨G6, G7, G8⟩ := own_k2 K1q nin0 E_s3 F_value_s3 F_coder_s3
  obtain ⟨G9, G10, G11⟩ := own_k2 K1q nin0 E_t F_value_t F_coder_t
  obtain ⟨G12, G13, G14, G15⟩ := own_k3 K1q nin0 E_j F_joined_j F_piece_j F_pieces_j
  obtain ⟨G16, G17, G18, G19, G20⟩ := own_k4 K1q nin0 E_wpieces_j F_value_wpieces_j F_coder_wpieces_j F_count_wpieces_j F_maybeLatin1_wpieces_j
  have G21 := (own_sta_keep0 zac K1q)
  have G22 := (own_sta_keep0 zan K1q)
  have G23 := (A_wvalue_s3.keep K1q nin0)
  have G24 := (A_wvalue_t.keep K1q nin0)
  have G25 := (A_wvalue_wpieces_j.keep K1q nin0)
  have G26 : Arv Z T1.heap b1_o1 ko0_1 .byte (1 : Int32) [(.int x0), J0, J0, J0] J0 := G5
  refine xastoreW X1 hx (hb hby at_204) rfl rfl (l' := #[A0, A1, A2, A3, A4, A5, A6, A7, rv s3, B0, A8, B1, B2, A9, rv j, iv (1 : Int32), rv t, rv b1_o0, .unset]) rfl rfl ?_
  refine xaloadW X1 hx (hb hby at_206) rfl rfl rfl ?_
  refine oVW X1 hx hZ hown hml (w_ hw 224 rfl) (w_ hw 108 rfl) (w_ hw 110 rfl) (w_ hw 109 rfl) (own_rm4 hw hs s3 wvalue_s3 k_wvalue_s3 ([(.int y0), (.int y1), (.int y2), (.int y3)]) ((0 : Int32)) zaa T1.heap n0 Z1 ⟨G6, G7, G8, G23⟩ G21 hcs) (w_ hw 111 rfl) (w_ hw 10 rfl) rfl G6 [] [] 0 (lenOf own_pd18 rfl) rfl (hb hby at_208) rfl rfl rfl fun T27 L27 v27 X27 hQ27 => ?_
  obtain ⟨rfl, N27q, e27⟩ := hQ27
  have N27 := Fr.app N1 N27q
  refine xaloadW X27 hx (hb hby at_211) rfl rfl rfl ?_
  refine oVW X27 hx hZ hown hml (w_ hw 224 rfl) (w_ hw 108 rfl) (w_ hw 110 rfl) (w_ hw 109 rfl) (own_rm4 hw hs t wvalue_t k_wvalue_t ([(.int x0), (.int u1), (.int u2), (.int u3)]) ((1 : Int32)) zaa T1.heap n0 Z1 ⟨G9, G10, G11, G24⟩ G21 hcs) (w_ hw 111 rfl) (w_ hw 10 rfl) e27 G9 [] [J0] 1 (lenOf own_pd18 rfl) rfl (hb hby at_213) rfl rfl rfl fun T28 L28 v28 X28 hQ28 => ?_
  obtain ⟨rfl, N28q, e28⟩ := hQ28
  have N28 := Fr.app N27 N28q
  refine xiaddW X28 hx (hb hby at_216) rfl rfl ?_
  show own_FinW p e below s _ _ _ (T28.setTop (mkF m 217 #[A0, A1, A2, A3, A4, A5, A6, A7, rv s3, B0, A8, B1, B2, A9, rv j, iv (1 : Int32), rv t, rv b1_o0, .unset] [(.int ((0 : Int32) + (1 : Int32)))]))
  rw [show ((0 : Int32) + (1 : Int32)) = (1 : Int32) from by decide]
  show own_FinW p e below s _ _ _ (T28.setTop (mkF m 217 #[A0, A1, A2, A3, A4, A5, A6, A7, rv s3, B0, A8, B1, B2, A9, rv j, iv (1 : Int32), rv t, rv b1_o0, .unset] [J1]))
  refine xistoreW X28 hx (hb hby at_217) rfl (l' := #[A0, A1, A2, A3, A4, A5, A6, A7, rv s3, B0, A8, B1, B2, A9, rv j, iv (1 : Int32), rv t, rv b1_o0, iv (1 : Int32)]) rfl rfl ?_
  refine xiloadW X28 hx (hb hby at_219) rfl rfl ?_
  refine xifNoW X28 hx (hb hby at_221) rfl ((if0 _ _).trans (feq (by decide : ¬ ((1 : Int32) = (0 : Int32)))).1) rfl ?_
  refine xaloadW X28 hx (hb hby at_224) rfl rfl rfl ?_
  refine oVW X28 hx hZ hown hml (w_ hw 161 rfl) (w_ hw 162 rfl) (w_ hw 164 rfl) (w_ hw 163 rfl) (own_rm62 hw hs j wpieces_j ((1 : Int32)) T1.heap n0 Z1 G12 G13 G15 G16 G19) (w_ hw 165 rfl) (w_ hw 32 rfl) e28 G12 [] [] 0 (lenOf own_pd18 rfl) rfl (hb hby at_226) rfl rfl rfl fun T29 L29 v29 X29 hQ29 => ?_
  obtain ⟨rfl, N29q, e29⟩ := hQ29
  have N29 := Fr.app N28 N29q
  refine xiloadW X29 hx (hb hby at_229) rfl rfl ?_
  refine xicmpNoW X29 hx (hb hby at_231) rfl (teq (by decide : (1 : Int32) = (1 : Int32))).2 rfl ?_
  refine xiconstW X29 hx (hb hby at_234) rfl ?_
  refine xgotoW X29 hx 235 239 rfl (hb hby at_235) rfl ?_
  refine xistoreW X29 hx (hb hby at_239) rfl (l' := #[A0, A1, A2, A3, A4, A5, A6, A7, rv s3, B0, A8, B1, B2, A9, rv j, iv (1 : Int32), rv t, rv b1_o0, iv (1 : Int32)]) rfl rfl ?_
  show own_FinW p e below s _ _ _ (T29.setTop (mkF m 241 #[A0, A1, A2, A3, A4, A5, A6, A7, rv s3, B0, A8, B1, B2, A9, rv j, iv (1 : Int32), rv t, rv b1_o0, iv (1 : Int32)] []))
  refine xiloadW X29 hx (hb hby at_241) rfl rfl ?_
  refine xifNoW X29 hx (hb hby at_243) rfl ((if0 _ _).trans (feq (by decide : ¬ ((1 : Int32) = (0 : Int32)))).1) rfl ?_
  refine xaloadW X29 hx (hb hby at_246) rfl rfl rfl ?_
  refine oVW X29 hx hZ hown hml (w_ hw 224 rfl) (w_ hw 108 rfl) (w_ hw 110 rfl) (w_ hw 109 rfl) (own_rm4 hw hs b1_o0 b1_o1 ko0_1 ([(.int x0), J0, J0, J0]) ((1 : Int32)) zaa T1.heap n0 Z1 ⟨G2, G4, G3, G26⟩ G21 hcs) (w_ hw 111 rfl) (w_ hw 10 rfl) e29 G2 [] [] 0 (lenOf own_pd18 rfl) rfl (hb hby at_248) rfl rfl rfl fun T30 L30 v30 X30 hQ30 => ?_
  obtain ⟨rfl, N30q, e30⟩ := hQ30
  have N30 := Fr.app N29 N30q
  refine xiloadW X30 hx (hb hby at_251) rfl rfl ?_
  refine xicmpNoW X30 hx (hb hby at_253) rfl (teq (by decide : (1 : Int32) = (1 : Int32))).2 rfl ?_
  refine xiconstW X30 hx (hb hby at_256) rfl ?_
  refine xgotoW X30 hx 257 261 rfl (hb hby at_257) rfl ?_
  refine xistoreW X30 hx (hb hby at_261) rfl (l' := #[A0, A1, A2, A3, A4, A5, A6, A7, rv s3, B0, A8, B1, B2, A9, rv j, iv (1 : Int32), rv t, rv b1_o0, iv (1 : Int32)]) rfl rfl ?_
  refine xiloadW X30 hx (hb hby at_263) rfl rfl ?_
  show own_FinW p e below s _ _ _ (T30.setTop (mkF m 265 #[A0, A1, A2, A3, A4, A5, A6, A7, rv s3, B0, A8, B1, B2, A9, rv j, iv (1 : Int32), rv t, rv b1_o0, iv (1 : Int32)] [J1]))
  refine xifNoW X30 hx (hb hby at_265) rfl ((if0 _ _).trans (feq (by decide : ¬ ((1 : Int32) = (0 : Int32)))).1) rfl ?_
  refine xaloadW X30 hx (hb hby at_268) rfl rfl rfl ?_
  refine xiconstW X30 hx (hb hby at_270) rfl ?_
  refine xaloadW X30 hx (hb hby at_271) rfl rfl rfl ?_
  refine oCW X30 hx hZ hown hml (w_ hw 228 rfl) (w_ hw 229 rfl) (own_rm71 hw hs b1_o0 ((0 : Int32)) s3 zaa zab y0 y1 y2 y3 wvalue_s3 k_wvalue_s3 T1.heap n0 Z1 G21 zaf G22 ⟨G6, G7, G8, G23⟩ hcs) (w_ hw 230 rfl) (w_ hw 2 rfl) e30 [(.ref b1_o0), J0, (.ref s3)] [] 0 (lenOf own_pd32 rfl) rfl (hb hby at_273) rfl rfl rfl fun T31 L31 v31 X31 hQ31 => ?_
  obtain ⟨rfl, N31q, e31⟩ := hQ31
  have N31 := Fr.app N30 N31q
  refine xifNoW X31 hx (hb hby at_276) rfl ((if0 _ _).trans (feq (by decide : ¬ ((1 : Int32) = (0 : Int32)))).1) rfl ?_
  refine xiconstW X31 hx (hb hby at_279) rfl ?_
  refine xgotoW X31 hx 280 284 rfl (hb hby at_280) rfl ?_
  refine xistoreW X31 hx (hb hby at_284) rfl (l' := #[A0, A1, A2, A3, A4, A5, A6, A7, rv s3, B0, A8, B1, B2, A9, rv j, iv (1 : Int32), rv t, rv b1_o0, iv (1 : Int32)]) rfl rfl ?_
  refine xiloadW X31 hx (hb hby at_286) rfl rfl ?_
  show own_FinW p e below s _ _ _ (T31.setTop (mkF m 288 #[A0, A1, A2, A3, A4, A5, A6, A7, rv s3, B0, A8, B1, B2, A9, rv j, iv (1 : Int32), rv t, rv b1_o0, iv (1 : Int32)] [J1]))
  refine xifNoW X31 hx (hb hby at_288) rfl ((if0 _ _).trans (feq (by decide : ¬ ((1 : Int32) = (0 : Int32)))).1) rfl ?_
  refine xaloadW X31 hx (hb hby at_291) rfl rfl rfl ?_
  refine xaloadW X31 hx (hb hby at_293) rfl rfl rfl ?_
  refine oVW X31 hx hZ hown hml (w_ hw 224 rfl) (w_ hw 108 rfl) (w_ hw 110 rfl) (w_ hw 109 rfl) (own_rm4 hw hs s3 wvalue_s3 k_wvalue_s3 ([(.int y0), (.int y1), (.int y2), (.int y3)]) ((0 : Int32)) zaa T1.heap n0 Z1 ⟨G6, G7, G8, G23⟩ G21 hcs) (w_ hw 111 rfl) (w_ hw 10 rfl) e31 G6 [] [(.ref b1_o0)] 1 (lenOf own_pd18 rfl) rfl (hb hby at_295) rfl rfl rfl fun T32 L32 v32 X32 hQ32 => ?_
  obtain ⟨rfl, N32q, e32⟩ := hQ32
  have N32 := Fr.app N31 N32q
  refine xaloadW X32 hx (hb hby at_298) rfl rfl rfl ?_
  refine oCW X32 hx hZ hown hml (w_ hw 228 rfl) (w_ hw 229 rfl) (own_rm65 hw hs b1_o0 t zaa zab x0 ((0 : Int32)) ((0 : Int32)) ((0 : Int32)) u1 u2 u3 b1_o1 ko0_1 ((1 : Int32)) wvalue_t k_wvalue_t T1.heap n0 Z1 G21 zaf G22 ⟨G2, G4, G3, G26⟩ (show ¬ ((1 : Int32) < (1 : Int32)) from (by first | decide | assumption | exact Nat.le_of_ble_eq_true rfl)) ⟨G9, G10, G11, G24⟩ hcs) (w_ hw 230 rfl) (w_ hw 2 rfl) e32 [(.ref b1_o0), J0, (.ref t)] [] 0 (lenOf own_pd32 rfl) rfl (hb hby at_300) rfl rfl rfl fun T33 L33 v33 X33 hQ33 => ?_
  obtain ⟨rfl, N33q, e33⟩ := hQ33
  have N33 := Fr.app N32 N33q
  refine xifNoW X33 hx (hb hby at_303) rfl ((if0 _ _).trans (feq (by decide : ¬ ((1 : Int32) = (0 : Int32)))).1) rfl ?_
  refine xiconstW X33 hx (hb hby at_306) rfl ?_
  refine xgotoW X33 hx 307 311 rfl (hb hby at_307) rfl ?_
  show own_FinW p e below s _ _ _ (T33.setTop (mkF m 311 #[A0, A1, A2, A3, A4, A5, A6, A7, rv s3, B0, A8, B1, B2, A9, rv j, iv (1 : Int32), rv t, rv b1_o0, iv (1 : Int32)] [J1]))
  refine xistoreW X33 hx (hb hby at_311) rfl (l' := #[A0, A1, A2, A3, A4, A5, A6, A7, rv s3, B0, A8, B1, B2, A9, rv j, iv (1 : Int32), rv t, rv b1_o0, iv (1 : Int32)]) rfl rfl ?_
  refine xiloadW X33 hx (hb hby at_313) rfl rfl ?_
  exact own_retW X33 hlk hS0 e33 hk1 (v := some J1) (fun h => by rw [hret] at h; cases h) (by decide) (by decide) (by show own_Q74 Z A0 A1 A2 A3 A4 A5 A6 A7 s3 B0 A8 B1 B2 A9 j t zaa zab x0 x1 x2 x3 y0 y1 y2 y3 wvalue_s3 k_wvalue_s3 u1 u2 u3 wvalue_t k_wvalue_t upiece_j wpieces_j wvalue_wpieces_j umaybeLatin1_wpieces_j k_wvalue_wpieces_j h0 n0 _ T33.heap _; rw [e33]; exact ⟨rfl, N33⟩) (fun fs hr => retN X33 hx (t := .boolean) hret (by simp) (hb hby at_315) hr)

def own_Q75 (Z : State) (A0 : Slot) (A1 : Slot) (A2 : Slot) (A3 : Slot) (A4 : Slot) (A5 : Slot) (A6 : Slot) (A7 : Slot) (s3 : Addr) (B0 : Slot) (A8 : Slot) (B1 : Slot) (B2 : Slot) (A9 : Slot) (j : Addr) (t : Addr) (zaa : Int32) (zab : Value) (y0 : Int32) (y1 : Int32) (y2 : Int32) (y3 : Int32) (wvalue_s3 : Addr) (k_wvalue_s3 : ClassId) (x0 : Int32) (x1 : Int32) (u2 : Int32) (u3 : Int32) (wvalue_t : Addr) (k_wvalue_t : ClassId) (upieces_j : Value) (h0 : Heap) (n0 : Nat) (v : Option Value) (h : Heap) (L : List Loc) : Prop := v = some (.int 1) ∧ Fr n0 L
set_option maxRecDepth 65536 in
set_option maxHeartbeats 40000000 in
theorem own_rm75 (l : Launch) (Z : State) (a0 : Array Value) (hw : ∀ d ∈ tables_1, d.before a0 Z = true) (hs : ∀ d ∈ jdkStatics_1, d.before a0 Z = true) {p : Program} {e : Env} {s : State} {m : MethodId} {args : Array Value} {below : List Frame} {meth : Method} {c : Code} (hx : p.tables.exec = Jvm.exec) (hby : c.code = code) (hlk : meth.locks = false) (hml : c.maxLocals = 19) (hret : meth.sig.returnType = ret) (A0 : Slot) (A1 : Slot) (A2 : Slot) (A3 : Slot) (A4 : Slot) (A5 : Slot) (A6 : Slot) (A7 : Slot) (s3 : Addr) (B0 : Slot) (A8 : Slot) (B1 : Slot) (B2 : Slot) (A9 : Slot) (j : Addr) (t : Addr) (zaa : Int32) (zab : Value) (y0 : Int32) (y1 : Int32) (y2 : Int32) (y3 : Int32) (wvalue_s3 : Addr) (k_wvalue_s3 : ClassId) (x0 : Int32) (x1 : Int32) (u2 : Int32) (u3 : Int32) (wvalue_t : Addr) (k_wvalue_t : ClassId) (upieces_j : Value) (h0 : Heap) (n0 : Nat) (Z0 : n0 ≤ h0.size) {vm0 : Vm} {s₁ : State} {locs : List Loc} (X0 : Stand p l e room_1 (s.setVm vm0) m args below meth c s₁ locs 38 180) (e0 : s₁.heap = h0) (N0 : Fr n0 locs) {k0 : Nat} (hS0 : s.Since vm0 k0) (hk0 : k0 ≤ h0.size) (hZ : Z.Warmed39 (s.setVm vm0).vm) (hown : (s.setVm vm0).vm.findClass "com/example/nearfield/nearfield/JoinedTextClearPinLaw" = some m.cls) (zac : Sta Z h0 cN0 "COMPACT_STRINGS" "Z" (.int zaa)) (hcs : ¬ (zaa = (0 : Int32))) (zaf : zab.isRef = true) (zan : Sta Z h0 "jdk/internal/util/Preconditions" "SIOOBE_FORMATTER" "Ljava/util/function/BiFunction;" zab) (E_s3 : Exa Z h0 s3 cN0) (F_value_s3 : Fld Z h0 s3 cN0 "value" "[B" (.ref wvalue_s3)) (F_coder_s3 : Fld Z h0 s3 cN0 "coder" "B" J0) (A_wvalue_s3 : Arv Z h0 wvalue_s3 k_wvalue_s3 .byte (0 : Int32) [(.int y0), (.int y1), (.int y2), (.int y3)] J0) (E_t : Exa Z h0 t cN0) (F_value_t : Fld Z h0 t cN0 "value" "[B" (.ref wvalue_t)) (F_coder_t : Fld Z h0 t cN0 "coder" "B" J0) (A_wvalue_t : Arv Z h0 wvalue_t k_wvalue_t .byte (2 : Int32) [(.int x0), (.int x1), (.int u2), (.int u3)] J0) (E_j : Exa Z h0 j cN3) (F_joined_j : Fld Z h0 j cN3 "joined" "Z" J0) (F_piece_j : Fld Z h0 j cN3 "piece" "Ljava/lang/String;" (.ref t)) (F_pieces_j : Fld Z h0 j cN3 "pieces" "Ljava/lang/StringBuilder;" upieces_j) :
    own_FinW p e below s room_1.cells room_1.slots (own_Q75 Z A0 A1 A2 A3 A4 A5 A6 A7 s3 B0 A8 B1 B2 A9 j t zaa zab y0 y1 y2 y3 wvalue_s3 k_wvalue_s3 x0 x1 u2 u3 wvalue_t k_wvalue_t upieces_j h0 n0) (s₁.setTop (mkF m 199 #[A0, A1, A2, A3, A4, A5, A6, A7, rv s3, B0, A8, B1, B2, A9, rv j, iv (1 : Int32), rv t, .unset, .unset] [])) := by
  have KR : Keep h0 h0 [] := Keep.refl _ _
  refine xaloadW X0 hx (hb hby at_199) rfl rfl rfl ?_
  refine oVW X0 hx hZ hown hml (w_ hw 167 rfl) (w_ hw 168 rfl) (w_ hw 170 rfl) (w_ hw 169 rfl) (own_rm63 hw hs j t h0 n0 Z0 F_joined_j F_piece_j) (w_ hw 171 rfl) (w_ hw 32 rfl) e0 E_j [] [] 0 (lenOf own_pd30 rfl) rfl (hb hby at_201) rfl rfl rfl fun T1 L1 v1 X1 hQ1 => ?_
  obtain ⟨rfl, N1q, e1⟩ := hQ1
  have N1 := Fr.app N0 N1q
  refine xastoreW X1 hx (hb hby at_204) rfl rfl (l' := #[A0, A1, A2, A3, A4, A5, A6, A7, rv s3, B0, A8, B1, B2, A9, rv j, iv (1 : Int32), rv t, rv t, .unset]) rfl rfl ?_
  refine xaloadW X1 hx (hb hby at_206) rfl rfl rfl ?_
  refine oVW X1 hx hZ hown hml (w_ hw 224 rfl) (w_ hw 108 rfl) (w_ hw 110 rfl) (w_ hw 109 rfl) (own_rm4 hw hs s3 wvalue_s3 k_wvalue_s3 ([(.int y0), (.int y1), (.int y2), (.int y3)]) ((0 : Int32)) zaa h0 n0 Z0 ⟨E_s3, F_value_s3, F_coder_s3, A_wvalue_s3⟩ zac hcs) (w_ hw 111 rfl) (w_ hw 10 rfl) e1 E_s3 [] [] 0 (lenOf own_pd18 rfl) rfl (hb hby at_208) rfl rfl rfl fun T2 L2 v2 X2 hQ2 => ?_
  obtain ⟨rfl, N2q, e2⟩ := hQ2
  have N2 := Fr.app N1 N2q
  refine xaloadW X2 hx (hb hby at_211) rfl rfl rfl ?_
  refine oVW X2 hx hZ hown hml (w_ hw 224 rfl) (w_ hw 108 rfl) (w_ hw 110 rfl) (w_ hw 109 rfl) (own_rm4 hw hs t wvalue_t k_wvalue_t ([(.int x0), (.int x1), (.int u2), (.int u3)]) ((2 : Int32)) zaa h0 n0 Z0 ⟨E_t, F_value_t, F_coder_t, A_wvalue_t⟩ zac hcs) (w_ hw 111 rfl) (w_ hw 10 rfl) e2 E_t [] [J0] 1 (lenOf own_pd18 rfl) rfl (hb hby at_213) rfl rfl rfl fun T3 L3 v3 X3 hQ3 => ?_
  obtain ⟨rfl, N3q, e3⟩ := hQ3
  have N3 := Fr.app N2 N3q
  refine xiaddW X3 hx (hb hby at_216) rfl rfl ?_
  show own_FinW p e below s _ _ _ (T3.setTop (mkF m 217 #[A0, A1, A2, A3, A4, A5, A6, A7, rv s3, B0, A8, B1, B2, A9, rv j, iv (1 : Int32), rv t, rv t, .unset] [(.int ((0 : Int32) + (2 : Int32)))]))
  rw [show ((0 : Int32) + (2 : Int32)) = (2 : Int32) from by decide]
  show own_FinW p e below s _ _ _ (T3.setTop (mkF m 217 #[A0, A1, A2, A3, A4, A5, A6, A7, rv s3, B0, A8, B1, B2, A9, rv j, iv (1 : Int32), rv t, rv t, .unset] [J2]))
  refine xistoreW X3 hx (hb hby at_217) rfl (l' := #[A0, A1, A2, A3, A4, A5, A6, A7, rv s3, B0, A8, B1, B2, A9, rv j, iv (1 : Int32), rv t, rv t, iv (2 : Int32)]) rfl rfl ?_
  refine xiloadW X3 hx (hb hby at_219) rfl rfl ?_
  refine xifNoW X3 hx (hb hby at_221) rfl ((if0 _ _).trans (feq (by decide : ¬ ((1 : Int32) = (0 : Int32)))).1) rfl ?_
  refine xaloadW X3 hx (hb hby at_224) rfl rfl rfl ?_
  refine oVW X3 hx hZ hown hml (w_ hw 161 rfl) (w_ hw 162 rfl) (w_ hw 164 rfl) (w_ hw 163 rfl) (own_rm61 hw hs j t wvalue_t k_wvalue_t ([(.int x0), (.int x1), (.int u2), (.int u3)]) ((2 : Int32)) upieces_j zaa h0 n0 Z0 E_j F_joined_j F_piece_j ⟨E_t, F_value_t, F_coder_t, A_wvalue_t⟩ F_pieces_j zac hcs) (w_ hw 165 rfl) (w_ hw 32 rfl) e3 E_j [] [] 0 (lenOf own_pd18 rfl) rfl (hb hby at_226) rfl rfl rfl fun T4 L4 v4 X4 hQ4 => ?_
  obtain ⟨rfl, N4q, e4⟩ := hQ4
  have N4 := Fr.app N3 N4q
  refine xiloadW X4 hx (hb hby at_229) rfl rfl ?_
  refine xicmpNoW X4 hx (hb hby at_231) rfl (teq (by decide : (2 : Int32) = (2 : Int32))).2 rfl ?_
  refine xiconstW X4 hx (hb hby at_234) rfl ?_
  refine xgotoW X4 hx 235 239 rfl (hb hby at_235) rfl ?_
  refine xistoreW X4 hx (hb hby at_239) rfl (l' := #[A0, A1, A2, A3, A4, A5, A6, A7, rv s3, B0, A8, B1, B2, A9, rv j, iv (1 : Int32), rv t, rv t, iv (2 : Int32)]) rfl rfl ?_
  show own_FinW p e below s _ _ _ (T4.setTop (mkF m 241 #[A0, A1, A2, A3, A4, A5, A6, A7, rv s3, B0, A8, B1, B2, A9, rv j, iv (1 : Int32), rv t, rv t, iv (2 : Int32)] []))
  refine xiloadW X4 hx (hb hby at_241) rfl rfl ?_
  refine xifNoW X4 hx (hb hby at_243) rfl ((if0 _ _).trans (feq (by decide : ¬ ((1 : Int32) = (0 : Int32)))).1) rfl ?_
  refine xaloadW X4 hx (hb hby at_246) rfl rfl rfl ?_
  refine oVW X4 hx hZ hown hml (w_ hw 224 rfl) (w_ hw 108 rfl) (w_ hw 110 rfl) (w_ hw 109 rfl) (own_rm4 hw hs t wvalue_t k_wvalue_t ([(.int x0), (.int x1), (.int u2), (.int u3)]) ((2 : Int32)) zaa h0 n0 Z0 ⟨E_t, F_value_t, F_coder_t, A_wvalue_t⟩ zac hcs) (w_ hw 111 rfl) (w_ hw 10 rfl) e4 E_t [] [] 0 (lenOf own_pd18 rfl) rfl (hb hby at_248) rfl rfl rfl fun T5 L5 v5 X5 hQ5 => ?_
  obtain ⟨rfl, N5q, e5⟩ := hQ5
  have N5 := Fr.app N4 N5q
  refine xiloadW X5 hx (hb hby at_251) rfl rfl ?_
  refine xicmpNoW X5 hx (hb hby at_253) rfl (teq (by decide : (2 : Int32) = (2 : Int32))).2 rfl ?_
  refine xiconstW X5 hx (hb hby at_256) rfl ?_
  refine xgotoW X5 hx 257 261 rfl (hb hby at_257) rfl ?_
  refine xistoreW X5 hx (hb hby at_261) rfl (l' := #[A0, A1, A2, A3, A4, A5, A6, A7, rv s3, B0, A8, B1, B2, A9, rv j, iv (1 : Int32), rv t, rv t, iv (2 : Int32)]) rfl rfl ?_
  refine xiloadW X5 hx (hb hby at_263) rfl rfl ?_
  show own_FinW p e below s _ _ _ (T5.setTop (mkF m 265 #[A0, A1, A2, A3, A4, A5, A6, A7, rv s3, B0, A8, B1, B2, A9, rv j, iv (1 : Int32), rv t, rv t, iv (2 : Int32)] [J1]))
  refine xifNoW X5 hx (hb hby at_265) rfl ((if0 _ _).trans (feq (by decide : ¬ ((1 : Int32) = (0 : Int32)))).1) rfl ?_
  refine xaloadW X5 hx (hb hby at_268) rfl rfl rfl ?_
  refine xiconstW X5 hx (hb hby at_270) rfl ?_
  refine xaloadW X5 hx (hb hby at_271) rfl rfl rfl ?_
  refine oCW X5 hx hZ hown hml (w_ hw 228 rfl) (w_ hw 229 rfl) (own_rm71 hw hs t ((0 : Int32)) s3 zaa zab y0 y1 y2 y3 wvalue_s3 k_wvalue_s3 h0 n0 Z0 zac zaf zan ⟨E_s3, F_value_s3, F_coder_s3, A_wvalue_s3⟩ hcs) (w_ hw 230 rfl) (w_ hw 2 rfl) e5 [(.ref t), J0, (.ref s3)] [] 0 (lenOf own_pd32 rfl) rfl (hb hby at_273) rfl rfl rfl fun T6 L6 v6 X6 hQ6 => ?_
  obtain ⟨rfl, N6q, e6⟩ := hQ6
  have N6 := Fr.app N5 N6q
  refine xifNoW X6 hx (hb hby at_276) rfl ((if0 _ _).trans (feq (by decide : ¬ ((1 : Int32) = (0 : Int32)))).1) rfl ?_
  refine xiconstW X6 hx (hb hby at_279) rfl ?_
  refine xgotoW X6 hx 280 284 rfl (hb hby at_280) rfl ?_
  refine xistoreW X6 hx (hb hby at_284) rfl (l' := #[A0, A1, A2, A3, A4, A5, A6, A7, rv s3, B0, A8, B1, B2, A9, rv j, iv (1 : Int32), rv t, rv t, iv (2 : Int32)]) rfl rfl ?_
  refine xiloadW X6 hx (hb hby at_286) rfl rfl ?_
  show own_FinW p e below s _ _ _ (T6.setTop (mkF m 288 #[A0, A1, A2, A3, A4, A5, A6, A7, rv s3, B0, A8, B1, B2, A9, rv j, iv (1 : Int32), rv t, rv t, iv (2 : Int32)] [J1]))
  refine xifNoW X6 hx (hb hby at_288) rfl ((if0 _ _).trans (feq (by decide : ¬ ((1 : Int32) = (0 : Int32)))).1) rfl ?_
  refine xaloadW X6 hx (hb hby at_291) rfl rfl rfl ?_
  refine xaloadW X6 hx (hb hby at_293) rfl rfl rfl ?_
  refine oVW X6 hx hZ hown hml (w_ hw 224 rfl) (w_ hw 108 rfl) (w_ hw 110 rfl) (w_ hw 109 rfl) (own_rm4 hw hs s3 wvalue_s3 k_wvalue_s3 ([(.int y0), (.int y1), (.int y2), (.int y3)]) ((0 : Int32)) zaa h0 n0 Z0 ⟨E_s3, F_value_s3, F_coder_s3, A_wvalue_s3⟩ zac hcs) (w_ hw 111 rfl) (w_ hw 10 rfl) e6 E_s3 [] [(.ref t)] 1 (lenOf own_pd18 rfl) rfl (hb hby at_295) rfl rfl rfl fun T7 L7 v7 X7 hQ7 => ?_
  obtain ⟨rfl, N7q, e7⟩ := hQ7
  have N7 := Fr.app N6 N7q
  refine xaloadW X7 hx (hb hby at_298) rfl rfl rfl ?_
  refine oCW X7 hx hZ hown hml (w_ hw 228 rfl) (w_ hw 229 rfl) (own_rm66 hw hs t t zaa zab x0 x1 u2 u3 u2 u3 wvalue_t k_wvalue_t ((2 : Int32)) wvalue_t k_wvalue_t h0 n0 Z0 zac zaf zan ⟨E_t, F_value_t, F_coder_t, A_wvalue_t⟩ (show ¬ ((2 : Int32) < (2 : Int32)) from (by first | decide | assumption | exact Nat.le_of_ble_eq_true rfl)) ⟨E_t, F_value_t, F_coder_t, A_wvalue_t⟩ hcs) (w_ hw 230 rfl) (w_ hw 2 rfl) e7 [(.ref t), J0, (.ref t)] [] 0 (lenOf own_pd32 rfl) rfl (hb hby at_300) rfl rfl rfl fun T8 L8 v8 X8 hQ8 => ?_
  obtain ⟨rfl, N8q, e8⟩ := hQ8
  have N8 := Fr.app N7 N8q
  refine xifNoW X8 hx (hb hby at_303) rfl ((if0 _ _).trans (feq (by decide : ¬ ((1 : Int32) = (0 : Int32)))).1) rfl ?_
  refine xiconstW X8 hx (hb hby at_306) rfl ?_
  refine xgotoW X8 hx 307 311 rfl (hb hby at_307) rfl ?_
  show own_FinW p e below s _ _ _ (T8.setTop (mkF m 311 #[A0, A1, A2, A3, A4, A5, A6, A7, rv s3, B0, A8, B1, B2, A9, rv j, iv (1 : Int32), rv t, rv t, iv (2 : Int32)] [J1]))
  refine xistoreW X8 hx (hb hby at_311) rfl (l' := #[A0, A1, A2, A3, A4, A5, A6, A7, rv s3, B0, A8, B1, B2, A9, rv j, iv (1 : Int32), rv t, rv t, iv (2 : Int32)]) rfl rfl ?_
  refine xiloadW X8 hx (hb hby at_313) rfl rfl ?_
  exact own_retW X8 hlk hS0 e8 hk0 (v := some J1) (fun h => by rw [hret] at h; cases h) (by decide) (by decide) (by show own_Q75 Z A0 A1 A2 A3 A4 A5 A6 A7 s3 B0 A8 B1 B2 A9 j t zaa zab y0 y1 y2 y3 wvalue_s3 k_wvalue_s3 x0 x1 u2 u3 wvalue_t k_wvalue_t upieces_j h0 n0 _ T8.heap _; rw [e8]; exact ⟨rfl, N8⟩) (fun fs hr => retN X8 hx (t := .boolean) hret (by simp) (hb hby at_315) hr)

def own_Q76 (Z : State) (A0 : Slot) (A1 : Slot) (A2 : Slot) (A3 : Slot) (A4 : Slot) (A5 : Slot) (A6 : Slot) (A7 : Slot) (s3 : Addr) (B0 : Slot) (A8 : Slot) (B1 : Slot) (B2 : Slot) (A9 : Slot) (j : Addr) (t : Addr) (zaa : Int32) (zab : Value) (x0 : Int32) (x1 : Int32) (x2 : Int32) (x3 : Int32) (y0 : Int32) (y1 : Int32) (y2 : Int32) (y3 : Int32) (wvalue_s3 : Addr) (k_wvalue_s3 : ClassId) (u2 : Int32) (u3 : Int32) (wvalue_t : Addr) (k_wvalue_t : ClassId) (upiece_j : Value) (wpieces_j : Addr) (wvalue_wpieces_j : Addr) (umaybeLatin1_wpieces_j : Value) (k_wvalue_wpieces_j : ClassId) (h0 : Heap) (n0 : Nat) (v : Option Value) (h : Heap) (L : List Loc) : Prop := v = some (.int 1) ∧ Fr n0 L
set_option maxRecDepth 65536 in
set_option maxHeartbeats 40000000 in
theorem own_rm76 (l : Launch) (Z : State) (a0 : Array Value) (hw : ∀ d ∈ tables_1, d.before a0 Z = true) (hs : ∀ d ∈ jdkStatics_1, d.before a0 Z = true) {p : Program} {e : Env} {s : State} {m : MethodId} {args : Array Value} {below : List Frame} {meth : Method} {c : Code} (hx : p.tables.exec = Jvm.exec) (hby : c.code = code) (hlk : meth.locks = false) (hml : c.maxLocals = 19) (hret : meth.sig.returnType = ret) (A0 : Slot) (A1 : Slot) (A2 : Slot) (A3 : Slot) (A4 : Slot) (A5 : Slot) (A6 : Slot) (A7 : Slot) (s3 : Addr) (B0 : Slot) (A8 : Slot) (B1 : Slot) (B2 : Slot) (A9 : Slot) (j : Addr) (t : Addr) (zaa : Int32) (zab : Value) (x0 : Int32) (x1 : Int32) (x2 : Int32) (x3 : Int32) (y0 : Int32) (y1 : Int32) (y2 : Int32) (y3 : Int32) (wvalue_s3 : Addr) (k_wvalue_s3 : ClassId) (u2 : Int32) (u3 : Int32) (wvalue_t : Addr) (k_wvalue_t : ClassId) (upiece_j : Value) (wpieces_j : Addr) (wvalue_wpieces_j : Addr) (umaybeLatin1_wpieces_j : Value) (k_wvalue_wpieces_j : ClassId) (h0 : Heap) (n0 : Nat) (Z0 : n0 ≤ h0.size) {vm0 : Vm} {s₁ : State} {locs : List Loc} (X0 : Stand p l e room_1 (s.setVm vm0) m args below meth c s₁ locs 38 180) (e0 : s₁.heap = h0) (N0 : Fr n0 locs) {k0 : Nat} (hS0 : s.Since vm0 k0) (hk0 : k0 ≤ h0.size) (hZ : Z.Warmed39 (s.setVm vm0).vm) (hown : (s.setVm vm0).vm.findClass "com/example/nearfield/nearfield/JoinedTextClearPinLaw" = some m.cls) (zac : Sta Z h0 cN0 "COMPACT_STRINGS" "Z" (.int zaa)) (hcs : ¬ (zaa = (0 : Int32))) (zaf : zab.isRef = true) (zan : Sta Z h0 "jdk/internal/util/Preconditions" "SIOOBE_FORMATTER" "Ljava/util/function/BiFunction;" zab) (E_s3 : Exa Z h0 s3 cN0) (F_value_s3 : Fld Z h0 s3 cN0 "value" "[B" (.ref wvalue_s3)) (F_coder_s3 : Fld Z h0 s3 cN0 "coder" "B" J0) (A_wvalue_s3 : Arv Z h0 wvalue_s3 k_wvalue_s3 .byte (0 : Int32) [(.int y0), (.int y1), (.int y2), (.int y3)] J0) (E_t : Exa Z h0 t cN0) (F_value_t : Fld Z h0 t cN0 "value" "[B" (.ref wvalue_t)) (F_coder_t : Fld Z h0 t cN0 "coder" "B" J0) (A_wvalue_t : Arv Z h0 wvalue_t k_wvalue_t .byte (2 : Int32) [(.int x0), (.int x1), (.int u2), (.int u3)] J0) (E_j : Exa Z h0 j cN3) (F_joined_j : Fld Z h0 j cN3 "joined" "Z" J1) (F_piece_j : Fld Z h0 j cN3 "piece" "Ljava/lang/String;" upiece_j) (F_pieces_j : Fld Z h0 j cN3 "pieces" "Ljava/lang/StringBuilder;" (.ref wpieces_j)) (E_wpieces_j : Exa Z h0 wpieces_j cN1) (F_value_wpieces_j : Fld Z h0 wpieces_j cN2 "value" "[B" (.ref wvalue_wpieces_j)) (F_coder_wpieces_j : Fld Z h0 wpieces_j cN2 "coder" "B" J0) (F_count_wpieces_j : Fld Z h0 wpieces_j cN2 "count" "I" J2) (F_maybeLatin1_wpieces_j : Fld Z h0 wpieces_j cN2 "maybeLatin1" "Z" umaybeLatin1_wpieces_j) (A_wvalue_wpieces_j : Arv Z h0 wvalue_wpieces_j k_wvalue_wpieces_j .byte (16 : Int32) [(.int x0), (.int x1), (.int x2), (.int x3)] J0) :
    own_FinW p e below s room_1.cells room_1.slots (own_Q76 Z A0 A1 A2 A3 A4 A5 A6 A7 s3 B0 A8 B1 B2 A9 j t zaa zab x0 x1 x2 x3 y0 y1 y2 y3 wvalue_s3 k_wvalue_s3 u2 u3 wvalue_t k_wvalue_t upiece_j wpieces_j wvalue_wpieces_j umaybeLatin1_wpieces_j k_wvalue_wpieces_j h0 n0) (s₁.setTop (mkF m 199 #[A0, A1, A2, A3, A4, A5, A6, A7, rv s3, B0, A8, B1, B2, A9, rv j, iv (1 : Int32), rv t, .unset, .unset] [])) := by
  have KR : Keep h0 h0 [] := Keep.refl _ _
  refine xaloadW X0 hx (hb hby at_199) rfl rfl rfl ?_
  refine oVW X0 hx hZ hown hml (w_ hw 167 rfl) (w_ hw 168 rfl) (w_ hw 170 rfl) (w_ hw 169 rfl) (own_rm64 hw hs j upiece_j wpieces_j wvalue_wpieces_j ((2 : Int32)) umaybeLatin1_wpieces_j k_wvalue_wpieces_j ([(.int x0), (.int x1), (.int x2), (.int x3)]) zaa h0 n0 Z0 E_j F_joined_j F_piece_j F_pieces_j ⟨E_wpieces_j, F_value_wpieces_j, F_coder_wpieces_j, F_count_wpieces_j, F_maybeLatin1_wpieces_j, A_wvalue_wpieces_j⟩ zac hcs (show ¬ ((2 : Int32) = (16 : Int32)) from (by first | decide | assumption | exact Nat.le_of_ble_eq_true rfl)) (show ¬ ((2 : Int32) < (0 : Int32)) from (by first | decide | assumption | exact Nat.le_of_ble_eq_true rfl)) (show (2 : Int32).toNatClampNeg ≤ 4 from (by first | decide | assumption | exact Nat.le_of_ble_eq_true rfl)) (show (2 : Int32) < (16 : Int32) from (by first | decide | assumption | exact Nat.le_of_ble_eq_true rfl)) (show (0 : Int32).toNatClampNeg + (2 : Int32).toNatClampNeg ≤ (16 : Int32).toNatClampNeg from (by first | decide | assumption | exact Nat.le_of_ble_eq_true rfl)) (show (0 : Int32).toNatClampNeg + (2 : Int32).toNatClampNeg ≤ [J0, J0, J0, J0].length from (by first | decide | assumption | exact Nat.le_of_ble_eq_true rfl))) (w_ hw 171 rfl) (w_ hw 32 rfl) e0 E_j [] [] 0 (lenOf own_pd30 rfl) rfl (hb hby at_201) rfl rfl rfl fun T1 L1 v1 X1 hQ1 => ?_
  obtain ⟨N1q, K1q, b1_o0, gg1_o0, sz1_o0, b1_o1, gg1_o1, sz1_o1, ko0_1, rfl, G2, G3, G4, G5⟩ := hQ1
  have N1 := Fr.app N0 N1q
  have ne1_o0_s3 : s3 ≠ b1_o0 := Nat.ne_of_lt (Nat.lt_of_lt_of_le E_s3.lt sz1_o0)
  have ne1_o0_t : t ≠ b1_o0 := Nat.ne_of_lt (Nat.lt_of_lt_of_le E_t.lt sz1_o0)
  have ne1_o1_wvalue_s3 : wvalue_s3 ≠ b1_o1 := Nat.ne_of_lt (Nat.lt_of_lt_of_le A_wvalue_s3.lt sz1_o1)
  have ne1_o1_wvalue_t : wvalue_t ≠ b1_o1 := Nat.ne_of_lt (Nat.lt_of_lt_of_le A_wvalue_t.lt sz1_o1)
  have ne1_o1_wvalue_wpieces_j : wvalue_wpieces_j ≠ b1_o1 := Nat.ne_of_lt (Nat.lt_of_lt_of_le A_wvalue_wpieces_j.lt sz1_o1)
  have K1 := KR.trans K1q own_a0
  have Z1 := Nat.le_trans Z0 K1q.1
  have sy1_o0 : h0.size ≤ b1_o0 := Nat.le_trans KR.1 sz1_o0
  have sy1_o1 : h0.size ≤ b1_o1 := Nat.le_trans KR.1 sz1_o1
  have hk1 := Nat.le_trans hk0 K1q.1
  obtain ⟨G6, G7, G8⟩ := own_k2 K1q nin0 E_s3 F_value_s3 F_coder_s3
  obtain ⟨G9, G10, G11⟩ := own_k2 K1q nin0 E_t F_value_t F_coder_t
  obtain ⟨G12, G13, G14, G15⟩ := own_k3 K1q nin0 E_j F_joined_j F_piece_j F_pieces_j
  obtain ⟨G16, G17, G18, G19, G20⟩ := own_k4 K1q nin0 E_wpieces_j F_value_wpieces_j F_coder_wpieces_j F_count_wpieces_j F_maybeLatin1_wpieces_j
  have G21 := (own_sta_keep0 zac K1q)
  have G22 := (own_sta_keep0 zan K1q)
  have G23 := (A_wvalue_s3.keep K1q nin0)
  have G24 := (A_wvalue_t.keep K1q nin0)
  have G25 := (A_wvalue_wpieces_j.keep K1q nin0)
  have G26 : Arv Z T1.heap b1_o1 ko0_1 .byte (2 : Int32) [(.int x0), (.int x1), J0, J0] J0 := G5
  refine xastoreW X1 hx (hb hby at_204) rfl rfl (l' := #[A0, A1, A2, A3, A4, A5, A6, A7, rv s3, B0, A8, B1, B2, A9, rv j, iv (1 : Int32), rv t, rv b1_o0, .unset]) rfl rfl ?_
  refine xaloadW X1 hx (hb hby at_206) rfl rfl rfl ?_
  refine oVW X1 hx hZ hown hml (w_ hw 224 rfl) (w_ hw 108 rfl) (w_ hw 110 rfl) (w_ hw 109 rfl) (own_rm4 hw hs s3 wvalue_s3 k_wvalue_s3 ([(.int y0), (.int y1), (.int y2), (.int y3)]) ((0 : Int32)) zaa T1.heap n0 Z1 ⟨G6, G7, G8, G23⟩ G21 hcs) (w_ hw 111 rfl) (w_ hw 10 rfl) rfl G6 [] [] 0 (lenOf own_pd18 rfl) rfl (hb hby at_208) rfl rfl rfl fun T27 L27 v27 X27 hQ27 => ?_
  obtain ⟨rfl, N27q, e27⟩ := hQ27
  have N27 := Fr.app N1 N27q
  refine xaloadW X27 hx (hb hby at_211) rfl rfl rfl ?_
  refine oVW X27 hx hZ hown hml (w_ hw 224 rfl) (w_ hw 108 rfl) (w_ hw 110 rfl) (w_ hw 109 rfl) (own_rm4 hw hs t wvalue_t k_wvalue_t ([(.int x0), (.int x1), (.int u2), (.int u3)]) ((2 : Int32)) zaa T1.heap n0 Z1 ⟨G9, G10, G11, G24⟩ G21 hcs) (w_ hw 111 rfl) (w_ hw 10 rfl) e27 G9 [] [J0] 1 (lenOf own_pd18 rfl) rfl (hb hby at_213) rfl rfl rfl fun T28 L28 v28 X28 hQ28 => ?_
  obtain ⟨rfl, N28q, e28⟩ := hQ28
  have N28 := Fr.app N27 N28q
  refine xiaddW X28 hx (hb hby at_216) rfl rfl ?_
  show own_FinW p e below s _ _ _ (T28.setTop (mkF m 217 #[A0, A1, A2, A3, A4, A5, A6, A7, rv s3, B0, A8, B1, B2, A9, rv j, iv (1 : Int32), rv t, rv b1_o0, .unset] [(.int ((0 : Int32) + (2 : Int32)))]))
  rw [show ((0 : Int32) + (2 : Int32)) = (2 : Int32) from by decide]
  show own_FinW p e below s _ _ _ (T28.setTop (mkF m 217 #[A0, A1, A2, A3, A4, A5, A6, A7, rv s3, B0, A8, B1, B2, A9, rv j, iv (1 : Int32), rv t, rv b1_o0, .unset] [J2]))
  refine xistoreW X28 hx (hb hby at_217) rfl (l' := #[A0, A1, A2, A3, A4, A5, A6, A7, rv s3, B0, A8, B1, B2, A9, rv j, iv (1 : Int32), rv t, rv b1_o0, iv (2 : Int32)]) rfl rfl ?_
  refine xiloadW X28 hx (hb hby at_219) rfl rfl ?_
  refine xifNoW X28 hx (hb hby at_221) rfl ((if0 _ _).trans (feq (by decide : ¬ ((1 : Int32) = (0 : Int32)))).1) rfl ?_
  refine xaloadW X28 hx (hb hby at_224) rfl rfl rfl ?_
  refine oVW X28 hx hZ hown hml (w_ hw 161 rfl) (w_ hw 162 rfl) (w_ hw 164 rfl) (w_ hw 163 rfl) (own_rm62 hw hs j wpieces_j ((2 : Int32)) T1.heap n0 Z1 G12 G13 G15 G16 G19) (w_ hw 165 rfl) (w_ hw 32 rfl) e28 G12 [] [] 0 (lenOf own_pd18 rfl) rfl (hb hby at_226) rfl rfl rfl fun T29 L29 v29 X29 hQ29 => ?_
  obtain ⟨rfl, N29q, e29⟩ := hQ29
  have N29 := Fr.app N28 N29q
  refine xiloadW X29 hx (hb hby at_229) rfl rfl ?_
  refine xicmpNoW X29 hx (hb hby at_231) rfl (teq (by decide : (2 : Int32) = (2 : Int32))).2 rfl ?_
  refine xiconstW X29 hx (hb hby at_234) rfl ?_
  refine xgotoW X29 hx 235 239 rfl (hb hby at_235) rfl ?_
  refine xistoreW X29 hx (hb hby at_239) rfl (l' := #[A0, A1, A2, A3, A4, A5, A6, A7, rv s3, B0, A8, B1, B2, A9, rv j, iv (1 : Int32), rv t, rv b1_o0, iv (2 : Int32)]) rfl rfl ?_
  show own_FinW p e below s _ _ _ (T29.setTop (mkF m 241 #[A0, A1, A2, A3, A4, A5, A6, A7, rv s3, B0, A8, B1, B2, A9, rv j, iv (1 : Int32), rv t, rv b1_o0, iv (2 : Int32)] []))
  refine xiloadW X29 hx (hb hby at_241) rfl rfl ?_
  refine xifNoW X29 hx (hb hby at_243) rfl ((if0 _ _).trans (feq (by decide : ¬ ((1 : Int32) = (0 : Int32)))).1) rfl ?_
  refine xaloadW X29 hx (hb hby at_246) rfl rfl rfl ?_
  refine oVW X29 hx hZ hown hml (w_ hw 224 rfl) (w_ hw 108 rfl) (w_ hw 110 rfl) (w_ hw 109 rfl) (own_rm4 hw hs b1_o0 b1_o1 ko0_1 ([(.int x0), (.int x1), J0, J0]) ((2 : Int32)) zaa T1.heap n0 Z1 ⟨G2, G4, G3, G26⟩ G21 hcs) (w_ hw 111 rfl) (w_ hw 10 rfl) e29 G2 [] [] 0 (lenOf own_pd18 rfl) rfl (hb hby at_248) rfl rfl rfl fun T30 L30 v30 X30 hQ30 => ?_
  obtain ⟨rfl, N30q, e30⟩ := hQ30
  have N30 := Fr.app N29 N30q
  refine xiloadW X30 hx (hb hby at_251) rfl rfl ?_
  refine xicmpNoW X30 hx (hb hby at_253) rfl (teq (by decide : (2 : Int32) = (2 : Int32))).2 rfl ?_
  refine xiconstW X30 hx (hb hby at_256) rfl ?_
  refine xgotoW X30 hx 257 261 rfl (hb hby at_257) rfl ?_
  refine xistoreW X30 hx (hb hby at_261) rfl (l' := #[A0, A1, A2, A3, A4, A5, A6, A7, rv s3, B0, A8, B1, B2, A9, rv j, iv (1 : Int32), rv t, rv b1_o0, iv (2 : Int32)]) rfl rfl ?_
  refine xiloadW X30 hx (hb hby at_263) rfl rfl ?_
  show own_FinW p e below s _ _ _ (T30.setTop (mkF m 265 #[A0, A1, A2, A3, A4, A5, A6, A7, rv s3, B0, A8, B1, B2, A9, rv j, iv (1 : Int32), rv t, rv b1_o0, iv (2 : Int32)] [J1]))
  refine xifNoW X30 hx (hb hby at_265) rfl ((if0 _ _).trans (feq (by decide : ¬ ((1 : Int32) = (0 : Int32)))).1) rfl ?_
  refine xaloadW X30 hx (hb hby at_268) rfl rfl rfl ?_
  refine xiconstW X30 hx (hb hby at_270) rfl ?_
  refine xaloadW X30 hx (hb hby at_271) rfl rfl rfl ?_
  refine oCW X30 hx hZ hown hml (w_ hw 228 rfl) (w_ hw 229 rfl) (own_rm71 hw hs b1_o0 ((0 : Int32)) s3 zaa zab y0 y1 y2 y3 wvalue_s3 k_wvalue_s3 T1.heap n0 Z1 G21 zaf G22 ⟨G6, G7, G8, G23⟩ hcs) (w_ hw 230 rfl) (w_ hw 2 rfl) e30 [(.ref b1_o0), J0, (.ref s3)] [] 0 (lenOf own_pd32 rfl) rfl (hb hby at_273) rfl rfl rfl fun T31 L31 v31 X31 hQ31 => ?_
  obtain ⟨rfl, N31q, e31⟩ := hQ31
  have N31 := Fr.app N30 N31q
  refine xifNoW X31 hx (hb hby at_276) rfl ((if0 _ _).trans (feq (by decide : ¬ ((1 : Int32) = (0 : Int32)))).1) rfl ?_
  refine xiconstW X31 hx (hb hby at_279) rfl ?_
  refine xgotoW X31 hx 280 284 rfl (hb hby at_280) rfl ?_
  refine xistoreW X31 hx (hb hby at_284) rfl (l' := #[A0, A1, A2, A3, A4, A5, A6, A7, rv s3, B0, A8, B1, B2, A9, rv j, iv (1 : Int32), rv t, rv b1_o0, iv (2 : Int32)]) rfl rfl ?_
  refine xiloadW X31 hx (hb hby at_286) rfl rfl ?_
  show own_FinW p e below s _ _ _ (T31.setTop (mkF m 288 #[A0, A1, A2, A3, A4, A5, A6, A7, rv s3, B0, A8, B1, B2, A9, rv j, iv (1 : Int32), rv t, rv b1_o0, iv (2 : Int32)] [J1]))
  refine xifNoW X31 hx (hb hby at_288) rfl ((if0 _ _).trans (feq (by decide : ¬ ((1 : Int32) = (0 : Int32)))).1) rfl ?_
  refine xaloadW X31 hx (hb hby at_291) rfl rfl rfl ?_
  refine xaloadW X31 hx (hb hby at_293) rfl rfl rfl ?_
  refine oVW X31 hx hZ hown hml (w_ hw 224 rfl) (w_ hw 108 rfl) (w_ hw 110 rfl) (w_ hw 109 rfl) (own_rm4 hw hs s3 wvalue_s3 k_wvalue_s3 ([(.int y0), (.int y1), (.int y2), (.int y3)]) ((0 : Int32)) zaa T1.heap n0 Z1 ⟨G6, G7, G8, G23⟩ G21 hcs) (w_ hw 111 rfl) (w_ hw 10 rfl) e31 G6 [] [(.ref b1_o0)] 1 (lenOf own_pd18 rfl) rfl (hb hby at_295) rfl rfl rfl fun T32 L32 v32 X32 hQ32 => ?_
  obtain ⟨rfl, N32q, e32⟩ := hQ32
  have N32 := Fr.app N31 N32q
  refine xaloadW X32 hx (hb hby at_298) rfl rfl rfl ?_
  refine oCW X32 hx hZ hown hml (w_ hw 228 rfl) (w_ hw 229 rfl) (own_rm66 hw hs b1_o0 t zaa zab x0 x1 ((0 : Int32)) ((0 : Int32)) u2 u3 b1_o1 ko0_1 ((2 : Int32)) wvalue_t k_wvalue_t T1.heap n0 Z1 G21 zaf G22 ⟨G2, G4, G3, G26⟩ (show ¬ ((2 : Int32) < (2 : Int32)) from (by first | decide | assumption | exact Nat.le_of_ble_eq_true rfl)) ⟨G9, G10, G11, G24⟩ hcs) (w_ hw 230 rfl) (w_ hw 2 rfl) e32 [(.ref b1_o0), J0, (.ref t)] [] 0 (lenOf own_pd32 rfl) rfl (hb hby at_300) rfl rfl rfl fun T33 L33 v33 X33 hQ33 => ?_
  obtain ⟨rfl, N33q, e33⟩ := hQ33
  have N33 := Fr.app N32 N33q
  refine xifNoW X33 hx (hb hby at_303) rfl ((if0 _ _).trans (feq (by decide : ¬ ((1 : Int32) = (0 : Int32)))).1) rfl ?_
  refine xiconstW X33 hx (hb hby at_306) rfl ?_
  refine xgotoW X33 hx 307 311 rfl (hb hby at_307) rfl ?_
  show own_FinW p e below s _ _ _ (T33.setTop (mkF m 311 #[A0, A1, A2, A3, A4, A5, A6, A7, rv s3, B0, A8, B1, B2, A9, rv j, iv (1 : Int32), rv t, rv b1_o0, iv (2 : Int32)] [J1]))
  refine xistoreW X33 hx (hb hby at_311) rfl (l' := #[A0, A1, A2, A3, A4, A5, A6, A7, rv s3, B0, A8, B1, B2, A9, rv j, iv (1 : Int32), rv t, rv b1_o0, iv (2 : Int32)]) rfl rfl ?_
  refine xiloadW X33 hx (hb hby at_313) rfl rfl ?_
  exact own_retW X33 hlk hS0 e33 hk1 (v := some J1) (fun h => by rw [hret] at h; cases h) (by decide) (by decide) (by show own_Q76 Z A0 A1 A2 A3 A4 A5 A6 A7 s3 B0 A8 B1 B2 A9 j t zaa zab x0 x1 x2 x3 y0 y1 y2 y3 wvalue_s3 k_wvalue_s3 u2 u3 wvalue_t k_wvalue_t upiece_j wpieces_j wvalue_wpieces_j umaybeLatin1_wpieces_j k_wvalue_wpieces_j h0 n0 _ T33.heap _; rw [e33]; exact ⟨rfl, N33⟩) (fun fs hr => retN X33 hx (t := .boolean) hret (by simp) (hb hby at_315) hr)

def own_Q77 (Z : State) (A0 : Slot) (A1 : Slot) (A2 : Slot) (A3 : Slot) (A4 : Slot) (A5 : Slot) (A6 : Slot) (A7 : Slot) (s3 : Addr) (B0 : Slot) (A8 : Slot) (B1 : Slot) (B2 : Slot) (A9 : Slot) (j : Addr) (t : Addr) (zaa : Int32) (zab : Value) (x0 : Int32) (y1 : Int32) (y2 : Int32) (y3 : Int32) (wvalue_s3 : Addr) (k_wvalue_s3 : ClassId) (u0 : Int32) (u1 : Int32) (u2 : Int32) (u3 : Int32) (wvalue_t : Addr) (k_wvalue_t : ClassId) (upieces_j : Value) (h0 : Heap) (n0 : Nat) (v : Option Value) (h : Heap) (L : List Loc) : Prop := v = some (.int 1) ∧ Fr n0 L
set_option maxRecDepth 65536 in
set_option maxHeartbeats 40000000 in
theorem own_rm77 (l : Launch) (Z : State) (a0 : Array Value) (hw : ∀ d ∈ tables_1, d.before a0 Z = true) (hs : ∀ d ∈ jdkStatics_1, d.before a0 Z = true) {p : Program} {e : Env} {s : State} {m : MethodId} {args : Array Value} {below : List Frame} {meth : Method} {c : Code} (hx : p.tables.exec = Jvm.exec) (hby : c.code = code) (hlk : meth.locks = false) (hml : c.maxLocals = 19) (hret : meth.sig.returnType = ret) (A0 : Slot) (A1 : Slot) (A2 : Slot) (A3 : Slot) (A4 : Slot) (A5 : Slot) (A6 : Slot) (A7 : Slot) (s3 : Addr) (B0 : Slot) (A8 : Slot) (B1 : Slot) (B2 : Slot) (A9 : Slot) (j : Addr) (t : Addr) (zaa : Int32) (zab : Value) (x0 : Int32) (y1 : Int32) (y2 : Int32) (y3 : Int32) (wvalue_s3 : Addr) (k_wvalue_s3 : ClassId) (u0 : Int32) (u1 : Int32) (u2 : Int32) (u3 : Int32) (wvalue_t : Addr) (k_wvalue_t : ClassId) (upieces_j : Value) (h0 : Heap) (n0 : Nat) (Z0 : n0 ≤ h0.size) {vm0 : Vm} {s₁ : State} {locs : List Loc} (X0 : Stand p l e room_1 (s.setVm vm0) m args below meth c s₁ locs 38 180) (e0 : s₁.heap = h0) (N0 : Fr n0 locs) {k0 : Nat} (hS0 : s.Since vm0 k0) (hk0 : k0 ≤ h0.size) (hZ : Z.Warmed39 (s.setVm vm0).vm) (hown : (s.setVm vm0).vm.findClass "com/example/nearfield/nearfield/JoinedTextClearPinLaw" = some m.cls) (zac : Sta Z h0 cN0 "COMPACT_STRINGS" "Z" (.int zaa)) (hcs : ¬ (zaa = (0 : Int32))) (zaf : zab.isRef = true) (zan : Sta Z h0 "jdk/internal/util/Preconditions" "SIOOBE_FORMATTER" "Ljava/util/function/BiFunction;" zab) (E_s3 : Exa Z h0 s3 cN0) (F_value_s3 : Fld Z h0 s3 cN0 "value" "[B" (.ref wvalue_s3)) (F_coder_s3 : Fld Z h0 s3 cN0 "coder" "B" J0) (A_wvalue_s3 : Arv Z h0 wvalue_s3 k_wvalue_s3 .byte (1 : Int32) [(.int x0), (.int y1), (.int y2), (.int y3)] J0) (E_t : Exa Z h0 t cN0) (F_value_t : Fld Z h0 t cN0 "value" "[B" (.ref wvalue_t)) (F_coder_t : Fld Z h0 t cN0 "coder" "B" J0) (A_wvalue_t : Arv Z h0 wvalue_t k_wvalue_t .byte (0 : Int32) [(.int u0), (.int u1), (.int u2), (.int u3)] J0) (E_j : Exa Z h0 j cN3) (F_joined_j : Fld Z h0 j cN3 "joined" "Z" J0) (F_piece_j : Fld Z h0 j cN3 "piece" "Ljava/lang/String;" (.ref s3)) (F_pieces_j : Fld Z h0 j cN3 "pieces" "Ljava/lang/StringBuilder;" upieces_j) :
    own_FinW p e below s room_1.cells room_1.slots (own_Q77 Z A0 A1 A2 A3 A4 A5 A6 A7 s3 B0 A8 B1 B2 A9 j t zaa zab x0 y1 y2 y3 wvalue_s3 k_wvalue_s3 u0 u1 u2 u3 wvalue_t k_wvalue_t upieces_j h0 n0) (s₁.setTop (mkF m 199 #[A0, A1, A2, A3, A4, A5, A6, A7, rv s3, B0, A8, B1, B2, A9, rv j, iv (1 : Int32), rv t, .unset, .unset] [])) := by
  have KR : Keep h0 h0 [] := Keep.refl _ _
  refine xaloadW X0 hx (hb hby at_199) rfl rfl rfl ?_
  refine oVW X0 hx hZ hown hml (w_ hw 167 rfl) (w_ hw 168 rfl) (w_ hw 170 rfl) (w_ hw 169 rfl) (own_rm63 hw hs j s3 h0 n0 Z0 F_joined_j F_piece_j) (w_ hw 171 rfl) (w_ hw 32 rfl) e0 E_j [] [] 0 (lenOf own_pd30 rfl) rfl (hb hby at_201) rfl rfl rfl fun T1 L1 v1 X1 hQ1 => ?_
  obtain ⟨rfl, N1q, e1⟩ := hQ1
  have N1 := Fr.app N0 N1q
  refine xastoreW X1 hx (hb hby at_204) rfl rfl (l' := #[A0, A1, A2, A3, A4, A5, A6, A7, rv s3, B0, A8, B1, B2, A9, rv j, iv (1 : Int32), rv t, rv s3, .unset]) rfl rfl ?_
  refine xaloadW X1 hx (hb hby at_206) rfl rfl rfl ?_
  refine oVW X1 hx hZ hown hml (w_ hw 224 rfl) (w_ hw 108 rfl) (w_ hw 110 rfl) (w_ hw 109 rfl) (own_rm4 hw hs s3 wvalue_s3 k_wvalue_s3 ([(.int x0), (.int y1), (.int y2), (.int y3)]) ((1 : Int32)) zaa h0 n0 Z0 ⟨E_s3, F_value_s3, F_coder_s3, A_wvalue_s3⟩ zac hcs) (w_ hw 111 rfl) (w_ hw 10 rfl) e1 E_s3 [] [] 0 (lenOf own_pd18 rfl) rfl (hb hby at_208) rfl rfl rfl fun T2 L2 v2 X2 hQ2 => ?_
  obtain ⟨rfl, N2q, e2⟩ := hQ2
  have N2 := Fr.app N1 N2q
  refine xaloadW X2 hx (hb hby at_211) rfl rfl rfl ?_
  refine oVW X2 hx hZ hown hml (w_ hw 224 rfl) (w_ hw 108 rfl) (w_ hw 110 rfl) (w_ hw 109 rfl) (own_rm4 hw hs t wvalue_t k_wvalue_t ([(.int u0), (.int u1), (.int u2), (.int u3)]) ((0 : Int32)) zaa h0 n0 Z0 ⟨E_t, F_value_t, F_coder_t, A_wvalue_t⟩ zac hcs) (w_ hw 111 rfl) (w_ hw 10 rfl) e2 E_t [] [J1] 1 (lenOf own_pd18 rfl) rfl (hb hby at_213) rfl rfl rfl fun T3 L3 v3 X3 hQ3 => ?_
  obtain ⟨rfl, N3q, e3⟩ := hQ3
  have N3 := Fr.app N2 N3q
  refine xiaddW X3 hx (hb hby at_216) rfl rfl ?_
  show own_FinW p e below s _ _ _ (T3.setTop (mkF m 217 #[A0, A1, A2, A3, A4, A5, A6, A7, rv s3, B0, A8, B1, B2, A9, rv j, iv (1 : Int32), rv t, rv s3, .unset] [(.int ((1 : Int32) + (0 : Int32)))]))
  rw [show ((1 : Int32) + (0 : Int32)) = (1 : Int32) from by decide]
  show own_FinW p e below s _ _ _ (T3.setTop (mkF m 217 #[A0, A1, A2, A3, A4, A5, A6, A7, rv s3, B0, A8, B1, B2, A9, rv j, iv (1 : Int32), rv t, rv s3, .unset] [J1]))
  refine xistoreW X3 hx (hb hby at_217) rfl (l' := #[A0, A1, A2, A3, A4, A5, A6, A7, rv s3, B0, A8, B1, B2, A9, rv j, iv (1 : Int32), rv t, rv s3, iv (1 : Int32)]) rfl rfl ?_
  refine xiloadW X3 hx (hb hby at_219) rfl rfl ?_
  refine xifNoW X3 hx (hb hby at_221) rfl ((if0 _ _).trans (feq (by decide : ¬ ((1 : Int32) = (0 : Int32)))).1) rfl ?_
  refine xaloadW X3 hx (hb hby at_224) rfl rfl rfl ?_
  refine oVW X3 hx hZ hown hml (w_ hw 161 rfl) (w_ hw 162 rfl) (w_ hw 164 rfl) (w_ hw 163 rfl) (own_rm61 hw hs j s3 wvalue_s3 k_wvalue_s3 ([(.int x0), (.int y1), (.int y2), (.int y3)]) ((1 : Int32)) upieces_j zaa h0 n0 Z0 E_j F_joined_j F_piece_j ⟨E_s3, F_value_s3, F_coder_s3, A_wvalue_s3⟩ F_pieces_j zac hcs) (w_ hw 165 rfl) (w_ hw 32 rfl) e3 E_j [] [] 0 (lenOf own_pd18 rfl) rfl (hb hby at_226) rfl rfl rfl fun T4 L4 v4 X4 hQ4 => ?_
  obtain ⟨rfl, N4q, e4⟩ := hQ4
  have N4 := Fr.app N3 N4q
  refine xiloadW X4 hx (hb hby at_229) rfl rfl ?_
  refine xicmpNoW X4 hx (hb hby at_231) rfl (teq (by decide : (1 : Int32) = (1 : Int32))).2 rfl ?_
  refine xiconstW X4 hx (hb hby at_234) rfl ?_
  refine xgotoW X4 hx 235 239 rfl (hb hby at_235) rfl ?_
  refine xistoreW X4 hx (hb hby at_239) rfl (l' := #[A0, A1, A2, A3, A4, A5, A6, A7, rv s3, B0, A8, B1, B2, A9, rv j, iv (1 : Int32), rv t, rv s3, iv (1 : Int32)]) rfl rfl ?_
  show own_FinW p e below s _ _ _ (T4.setTop (mkF m 241 #[A0, A1, A2, A3, A4, A5, A6, A7, rv s3, B0, A8, B1, B2, A9, rv j, iv (1 : Int32), rv t, rv s3, iv (1 : Int32)] []))
  refine xiloadW X4 hx (hb hby at_241) rfl rfl ?_
  refine xifNoW X4 hx (hb hby at_243) rfl ((if0 _ _).trans (feq (by decide : ¬ ((1 : Int32) = (0 : Int32)))).1) rfl ?_
  refine xaloadW X4 hx (hb hby at_246) rfl rfl rfl ?_
  refine oVW X4 hx hZ hown hml (w_ hw 224 rfl) (w_ hw 108 rfl) (w_ hw 110 rfl) (w_ hw 109 rfl) (own_rm4 hw hs s3 wvalue_s3 k_wvalue_s3 ([(.int x0), (.int y1), (.int y2), (.int y3)]) ((1 : Int32)) zaa h0 n0 Z0 ⟨E_s3, F_value_s3, F_coder_s3, A_wvalue_s3⟩ zac hcs) (w_ hw 111 rfl) (w_ hw 10 rfl) e4 E_s3 [] [] 0 (lenOf own_pd18 rfl) rfl (hb hby at_248) rfl rfl rfl fun T5 L5 v5 X5 hQ5 => ?_
  obtain ⟨rfl, N5q, e5⟩ := hQ5
  have N5 := Fr.app N4 N5q
  refine xiloadW X5 hx (hb hby at_251) rfl rfl ?_
  refine xicmpNoW X5 hx (hb hby at_253) rfl (teq (by decide : (1 : Int32) = (1 : Int32))).2 rfl ?_
  refine xiconstW X5 hx (hb hby at_256) rfl ?_
  refine xgotoW X5 hx 257 261 rfl (hb hby at_257) rfl ?_
  refine xistoreW X5 hx (hb hby at_261) rfl (l' := #[A0, A1, A2, A3, A4, A5, A6, A7, rv s3, B0, A8, B1, B2, A9, rv j, iv (1 : Int32), rv t, rv s3, iv (1 : Int32)]) rfl rfl ?_
  refine xiloadW X5 hx (hb hby at_263) rfl rfl ?_
  show own_FinW p e below s _ _ _ (T5.setTop (mkF m 265 #[A0, A1, A2, A3, A4, A5, A6, A7, rv s3, B0, A8, B1, B2, A9, rv j, iv (1 : Int32), rv t, rv s3, iv (1 : Int32)] [J1]))
  refine xifNoW X5 hx (hb hby at_265) rfl ((if0 _ _).trans (feq (by decide : ¬ ((1 : Int32) = (0 : Int32)))).1) rfl ?_
  refine xaloadW X5 hx (hb hby at_268) rfl rfl rfl ?_
  refine xiconstW X5 hx (hb hby at_270) rfl ?_
  refine xaloadW X5 hx (hb hby at_271) rfl rfl rfl ?_
  refine oCW X5 hx hZ hown hml (w_ hw 228 rfl) (w_ hw 229 rfl) (own_rm65 hw hs s3 s3 zaa zab x0 y1 y2 y3 y1 y2 y3 wvalue_s3 k_wvalue_s3 ((1 : Int32)) wvalue_s3 k_wvalue_s3 h0 n0 Z0 zac zaf zan ⟨E_s3, F_value_s3, F_coder_s3, A_wvalue_s3⟩ (show ¬ ((1 : Int32) < (1 : Int32)) from (by first | decide | assumption | exact Nat.le_of_ble_eq_true rfl)) ⟨E_s3, F_value_s3, F_coder_s3, A_wvalue_s3⟩ hcs) (w_ hw 230 rfl) (w_ hw 2 rfl) e5 [(.ref s3), J0, (.ref s3)] [] 0 (lenOf own_pd32 rfl) rfl (hb hby at_273) rfl rfl rfl fun T6 L6 v6 X6 hQ6 => ?_
  obtain ⟨rfl, N6q, e6⟩ := hQ6
  have N6 := Fr.app N5 N6q
  refine xifNoW X6 hx (hb hby at_276) rfl ((if0 _ _).trans (feq (by decide : ¬ ((1 : Int32) = (0 : Int32)))).1) rfl ?_
  refine xiconstW X6 hx (hb hby at_279) rfl ?_
  refine xgotoW X6 hx 280 284 rfl (hb hby at_280) rfl ?_
  refine xistoreW X6 hx (hb hby at_284) rfl (l' := #[A0, A1, A2, A3, A4, A5, A6, A7, rv s3, B0, A8, B1, B2, A9, rv j, iv (1 : Int32), rv t, rv s3, iv (1 : Int32)]) rfl rfl ?_
  refine xiloadW X6 hx (hb hby at_286) rfl rfl ?_
  show own_FinW p e below s _ _ _ (T6.setTop (mkF m 288 #[A0, A1, A2, A3, A4, A5, A6, A7, rv s3, B0, A8, B1, B2, A9, rv j, iv (1 : Int32), rv t, rv s3, iv (1 : Int32)] [J1]))
  refine xifNoW X6 hx (hb hby at_288) rfl ((if0 _ _).trans (feq (by decide : ¬ ((1 : Int32) = (0 : Int32)))).1) rfl ?_
  refine xaloadW X6 hx (hb hby at_291) rfl rfl rfl ?_
  refine xaloadW X6 hx (hb hby at_293) rfl rfl rfl ?_
  refine oVW X6 hx hZ hown hml (w_ hw 224 rfl) (w_ hw 108 rfl) (w_ hw 110 rfl) (w_ hw 109 rfl) (own_rm4 hw hs s3 wvalue_s3 k_wvalue_s3 ([(.int x0), (.int y1), (.int y2), (.int y3)]) ((1 : Int32)) zaa h0 n0 Z0 ⟨E_s3, F_value_s3, F_coder_s3, A_wvalue_s3⟩ zac hcs) (w_ hw 111 rfl) (w_ hw 10 rfl) e6 E_s3 [] [(.ref s3)] 1 (lenOf own_pd18 rfl) rfl (hb hby at_295) rfl rfl rfl fun T7 L7 v7 X7 hQ7 => ?_
  obtain ⟨rfl, N7q, e7⟩ := hQ7
  have N7 := Fr.app N6 N7q
  refine xaloadW X7 hx (hb hby at_298) rfl rfl rfl ?_
  refine oCW X7 hx hZ hown hml (w_ hw 228 rfl) (w_ hw 229 rfl) (own_rm71 hw hs s3 ((1 : Int32)) t zaa zab u0 u1 u2 u3 wvalue_t k_wvalue_t h0 n0 Z0 zac zaf zan ⟨E_t, F_value_t, F_coder_t, A_wvalue_t⟩ hcs) (w_ hw 230 rfl) (w_ hw 2 rfl) e7 [(.ref s3), J1, (.ref t)] [] 0 (lenOf own_pd32 rfl) rfl (hb hby at_300) rfl rfl rfl fun T8 L8 v8 X8 hQ8 => ?_
  obtain ⟨rfl, N8q, e8⟩ := hQ8
  have N8 := Fr.app N7 N8q
  refine xifNoW X8 hx (hb hby at_303) rfl ((if0 _ _).trans (feq (by decide : ¬ ((1 : Int32) = (0 : Int32)))).1) rfl ?_
  refine xiconstW X8 hx (hb hby at_306) rfl ?_
  refine xgotoW X8 hx 307 311 rfl (hb hby at_307) rfl ?_
  show own_FinW p e below s _ _ _ (T8.setTop (mkF m 311 #[A0, A1, A2, A3, A4, A5, A6, A7, rv s3, B0, A8, B1, B2, A9, rv j, iv (1 : Int32), rv t, rv s3, iv (1 : Int32)] [J1]))
  refine xistoreW X8 hx (hb hby at_311) rfl (l' := #[A0, A1, A2, A3, A4, A5, A6, A7, rv s3, B0, A8, B1, B2, A9, rv j, iv (1 : Int32), rv t, rv s3, iv (1 : Int32)]) rfl rfl ?_
  refine xiloadW X8 hx (hb hby at_313) rfl rfl ?_
  exact own_retW X8 hlk hS0 e8 hk0 (v := some J1) (fun h => by rw [hret] at h; cases h) (by decide) (by decide) (by show own_Q77 Z A0 A1 A2 A3 A4 A5 A6 A7 s3 B0 A8 B1 B2 A9 j t zaa zab x0 y1 y2 y3 wvalue_s3 k_wvalue_s3 u0 u1 u2 u3 wvalue_t k_wvalue_t upieces_j h0 n0 _ T8.heap _; rw [e8]; exact ⟨rfl, N8⟩) (fun fs hr => retN X8 hx (t := .boolean) hret (by simp) (hb hby at_315) hr)

def own_Q78 (Z : State) (A0 : Slot) (A1 : Slot) (A2 : Slot) (A3 : Slot) (A4 : Slot) (A5 : Slot) (A6 : Slot) (A7 : Slot) (s3 : Addr) (B0 : Slot) (A8 : Slot) (B1 : Slot) (B2 : Slot) (A9 : Slot) (j : Addr) (t : Addr) (zaa : Int32) (zab : Value) (x0 : Int32) (x1 : Int32) (x2 : Int32) (x3 : Int32) (y1 : Int32) (y2 : Int32) (y3 : Int32) (wvalue_s3 : Addr) (k_wvalue_s3 : ClassId) (u1 : Int32) (u2 : Int32) (u3 : Int32) (wvalue_t : Addr) (k_wvalue_t : ClassId) (upiece_j : Value) (wpieces_j : Addr) (wvalue_wpieces_j : Addr) (umaybeLatin1_wpieces_j : Value) (k_wvalue_wpieces_j : ClassId) (h0 : Heap) (n0 : Nat) (v : Option Value) (h : Heap) (L : List Loc) : Prop := v = some (.int 1) ∧ Fr n0 L
set_option maxRecDepth 65536 in
set_option maxHeartbeats 40000000 in
theorem own_rm78 (l : Launch) (Z : State) (a0 : Array Value) (hw : ∀ d ∈ tables_1, d.before a0 Z = true) (hs : ∀ d ∈ jdkStatics_1, d.before a0 Z = true) {p : Program} {e : Env} {s : State} {m : MethodId} {args : Array Value} {below : List Frame} {meth : Method} {c : Code} (hx : p.tables.exec = Jvm.exec) (hby : c.code = code) (hlk : meth.locks = false) (hml : c.maxLocals = 19) (hret : meth.sig.returnType = ret) (A0 : Slot) (A1 : Slot) (A2 : Slot) (A3 : Slot) (A4 : Slot) (A5 : Slot) (A6 : Slot) (A7 : Slot) (s3 : Addr) (B0 : Slot) (A8 : Slot) (B1 : Slot) (B2 : Slot) (A9 : Slot) (j : Addr) (t : Addr) (zaa : Int32) (zab : Value) (x0 : Int32) (x1 : Int32) (x2 : Int32) (x3 : Int32) (y1 : Int32) (y2 : Int32) (y3 : Int32) (wvalue_s3 : Addr) (k_wvalue_s3 : ClassId) (u1 : Int32) (u2 : Int32) (u3 : Int32) (wvalue_t : Addr) (k_wvalue_t : ClassId) (upiece_j : Value) (wpieces_j : Addr) (wvalue_wpieces_j : Addr) (umaybeLatin1_wpieces_j : Value) (k_wvalue_wpieces_j : ClassId) (h0 : Heap) (n0 : Nat) (Z0 : n0 ≤ h0.size) {vm0 : Vm} {s₁ : State} {locs : List Loc} (X0 : Stand p l e room_1 (s.setVm vm0) m args below meth c s₁ locs 38 180) (e0 : s₁.heap = h0) (N0 : Fr n0 locs) {k0 : Nat} (hS0 : s.Since vm0 k0) (hk0 : k0 ≤ h0.size) (hZ : Z.Warmed39 (s.setVm vm0).vm) (hown : (s.setVm vm0).vm.findClass "com/example/nearfield/nearfield/JoinedTextClearPinLaw" = some m.cls) (zac : Sta Z h0 cN0 "COMPACT_STRINGS" "Z" (.int zaa)) (hcs : ¬ (zaa = (0 : Int32))) (zaf : zab.isRef = true) (zan : Sta Z h0 "jdk/internal/util/Preconditions" "SIOOBE_FORMATTER" "Ljava/util/function/BiFunction;" zab) (E_s3 : Exa Z h0 s3 cN0) (F_value_s3 : Fld Z h0 s3 cN0 "value" "[B" (.ref wvalue_s3)) (F_coder_s3 : Fld Z h0 s3 cN0 "coder" "B" J0) (A_wvalue_s3 : Arv Z h0 wvalue_s3 k_wvalue_s3 .byte (1 : Int32) [(.int x0), (.int y1), (.int y2), (.int y3)] J0) (E_t : Exa Z h0 t cN0) (F_value_t : Fld Z h0 t cN0 "value" "[B" (.ref wvalue_t)) (F_coder_t : Fld Z h0 t cN0 "coder" "B" J0) (A_wvalue_t : Arv Z h0 wvalue_t k_wvalue_t .byte (1 : Int32) [(.int x1), (.int u1), (.int u2), (.int u3)] J0) (E_j : Exa Z h0 j cN3) (F_joined_j : Fld Z h0 j cN3 "joined" "Z" J1) (F_piece_j : Fld Z h0 j cN3 "piece" "Ljava/lang/String;" upiece_j) (F_pieces_j : Fld Z h0 j cN3 "pieces" "Ljava/lang/StringBuilder;" (.ref wpieces_j)) (E_wpieces_j : Exa Z h0 wpieces_j cN1) (F_value_wpieces_j : Fld Z h0 wpieces_j cN2 "value" "[B" (.ref wvalue_wpieces_j)) (F_coder_wpieces_j : Fld Z h0 wpieces_j cN2 "coder" "B" J0) (F_count_wpieces_j : Fld Z h0 wpieces_j cN2 "count" "I" J2) (F_maybeLatin1_wpieces_j : Fld Z h0 wpieces_j cN2 "maybeLatin1" "Z" umaybeLatin1_wpieces_j) (A_wvalue_wpieces_j : Arv Z h0 wvalue_wpieces_j k_wvalue_wpieces_j .byte (16 : Int32) [(.int x0), (.int x1), (.int x2), (.int x3)] J0) :
    own_FinW p e below s room_1.cells room_1.slots (own_Q78 Z A0 A1 A2 A3 A4 A5 A6 A7 s3 B0 A8 B1 B2 A9 j t zaa zab x0 x1 x2 x3 y1 y2 y3 wvalue_s3 k_wvalue_s3 u1 u2 u3 wvalue_t k_wvalue_t upiece_j wpieces_j wvalue_wpieces_j umaybeLatin1_wpieces_j k_wvalue_wpieces_j h0 n0) (s₁.setTop (mkF m 199 #[A0, A1, A2, A3, A4, A5, A6, A7, rv s3, B0, A8, B1, B2, A9, rv j, iv (1 : Int32), rv t, .unset, .unset] [])) := by
  have KR : Keep h0 h0 [] := Keep.refl _ _
  refine xaloadW X0 hx (hb hby at_199) rfl rfl rfl ?_
  refine oVW X0 hx hZ hown hml (w_ hw 167 rfl) (w_ hw 168 rfl) (w_ hw 170 rfl) (w_ hw 169 rfl) (own_rm64 hw hs j upiece_j wpieces_j wvalue_wpieces_j ((2 : Int32)) umaybeLatin1_wpieces_j k_wvalue_wpieces_j ([(.int x0), (.int x1), (.int x2), (.int x3)]) zaa h0 n0 Z0 E_j F_joined_j F_piece_j F_pieces_j ⟨E_wpieces_j, F_value_wpieces_j, F_coder_wpieces_j, F_count_wpieces_j, F_maybeLatin1_wpieces_j, A_wvalue_wpieces_j⟩ zac hcs (show ¬ ((2 : Int32) = (16 : Int32)) from (by first | decide | assumption | exact Nat.le_of_ble_eq_true rfl)) (show ¬ ((2 : Int32) < (0 : Int32)) from (by first | decide | assumption | exact Nat.le_of_ble_eq_true rfl)) (show (2 : Int32).toNatClampNeg ≤ 4 from (by first | decide | assumption | exact Nat.le_of_ble_eq_true rfl)) (show (2 : Int32) < (16 : Int32) from (by first | decide | assumption | exact Nat.le_of_ble_eq_true rfl)) (show (0 : Int32).toNatClampNeg + (2 : Int32).toNatClampNeg ≤ (16 : Int32).toNatClampNeg from (by first | decide | assumption | exact Nat.le_of_ble_eq_true rfl)) (show (0 : Int32).toNatClampNeg + (2 : Int32).toNatClampNeg ≤ [J0, J0, J0, J0].length from (by first | decide | assumption | exact Nat.le_of_ble_eq_true rfl))) (w_ hw 171 rfl) (w_ hw 32 rfl) e0 E_j [] [] 0 (lenOf own_pd30 rfl) rfl (hb hby at_201) rfl rfl rfl fun T1 L1 v1 X1 hQ1 => ?_
  obtain ⟨N1q, K1q, b1_o0, gg1_o0, sz1_o0, b1_o1, gg1_o1, sz1_o1, ko0_1, rfl, G2, G3, G4, G5⟩ := hQ1
  have N1 := Fr.app N0 N1q
  have ne1_o0_s3 : s3 ≠ b1_o0 := Nat.ne_of_lt (Nat.lt_of_lt_of_le E_s3.lt sz1_o0)
  have ne1_o0_t : t ≠ b1_o0 := Nat.ne_of_lt (Nat.lt_of_lt_of_le E_t.lt sz1_o0)
  have ne1_o1_wvalue_s3 : wvalue_s3 ≠ b1_o1 := Nat.ne_of_lt (Nat.lt_of_lt_of_le A_wvalue_s3.lt sz1_o1)
  have ne1_o1_wvalue_t : wvalue_t ≠ b1_o1 := Nat.ne_of_lt (Nat.lt_of_lt_of_le A_wvalue_t.lt sz1_o1)
  have ne1_o1_wvalue_wpieces_j : wvalue_wpieces_j ≠ b1_o1 := Nat.ne_of_lt (Nat.lt_of_lt_of_le A_wvalue_wpieces_j.lt sz1_o1)
  have K1 := KR.trans K1q own_a0
  have Z1 := Nat.le_trans Z0 K1q.1
  have sy1_o0 : h0.size ≤ b1_o0 := Nat.le_trans KR.1 sz1_o0
  have sy1_o1 : h0.size ≤ b1_o1 := Nat.le_trans KR.1 sz1_o1
  have hk1 := Nat.le_trans hk0 K1q.1
  obtain ⟨G6, G7, G8⟩ := own_k2 K1q nin0 E_s3 F_value_s3 F_coder_s3
  obtain ⟨G9, G10, G11⟩ := own_k2 K1q nin0 E_t F_value_t F_coder_t
  obtain ⟨G12, G13, G14, G15⟩ := own_k3 K1q nin0 E_j F_joined_j F_piece_j F_pieces_j
  obtain ⟨G16, G17, G18, G19, G20⟩ := own_k4 K1q nin0 E_wpieces_j F_value_wpieces_j F_coder_wpieces_j F_count_wpieces_j F_maybeLatin1_wpieces_j
  have G21 := (own_sta_keep0 zac K1q)
  have G22 := (own_sta_keep0 zan K1q)
  have G23 := (A_wvalue_s3.keep K1q nin0)
  have G24 := (A_wvalue_t.keep K1q nin0)
  have G25 := (A_wvalue_wpieces_j.keep K1q nin0)
  have G26 : Arv Z T1.heap b1_o1 ko0_1 .byte (2 : Int32) [(.int x0), (.int x1), J0, J0] J0 := G5
  refine xastoreW X1 hx (hb hby at_204) rfl rfl (l' := #[A0, A1, A2, A3, A4, A5, A6, A7, rv s3, B0, A8, B1, B2, A9, rv j, iv (1 : Int32), rv t, rv b1_o0, .unset]) rfl rfl ?_
  refine xaloadW X1 hx (hb hby at_206) rfl rfl rfl ?_
  refine oVW X1 hx hZ hown hml (w_ hw 224 rfl) (w_ hw 108 rfl) (w_ hw 110 rfl) (w_ hw 109 rfl) (own_rm4 hw hs s3 wvalue_s3 k_wvalue_s3 ([(.int x0), (.int y1), (.int y2), (.int y3)]) ((1 : Int32)) zaa T1.heap n0 Z1 ⟨G6, G7, G8, G23⟩ G21 hcs) (w_ hw 111 rfl) (w_ hw 10 rfl) rfl G6 [] [] 0 (lenOf own_pd18 rfl) rfl (hb hby at_208) rfl rfl rfl fun T27 L27 v27 X27 hQ27 => ?_
  obtain ⟨rfl, N27q, e27⟩ := hQ27
  have N27 := Fr.app N1 N27q
  refine xaloadW X27 hx (hb hby at_211) rfl rfl rfl ?_
  refine oVW X27 hx hZ hown hml (w_ hw 224 rfl) (w_ hw 108 rfl) (w_ hw 110 rfl) (w_ hw 109 rfl) (own_rm4 hw hs t wvalue_t k_wvalue_t ([(.int x1), (.int u1), (.int u2), (.int u3)]) ((1 : Int32)) zaa T1.heap n0 Z1 ⟨G9, G10, G11, G24⟩ G21 hcs) (w_ hw 111 rfl) (w_ hw 10 rfl) e27 G9 [] [J1] 1 (lenOf own_pd18 rfl) rfl (hb hby at_213) rfl rfl rfl fun T28 L28 v28 X28 hQ28 => ?_
  obtain ⟨rfl, N28q, e28⟩ := hQ28
  have N28 := Fr.app N27 N28q
  refine xiaddW X28 hx (hb hby at_216) rfl rfl ?_
  show own_FinW p e below s _ _ _ (T28.setTop (mkF m 217 #[A0, A1, A2, A3, A4, A5, A6, A7, rv s3, B0, A8, B1, B2, A9, rv j, iv (1 : Int32), rv t, rv b1_o0, .unset] [(.int ((1 : Int32) + (1 : Int32)))]))
  rw [show ((1 : Int32) + (1 : Int32)) = (2 : Int32) from by decide]
  show own_FinW p e below s _ _ _ (T28.setTop (mkF m 217 #[A0, A1, A2, A3, A4, A5, A6, A7, rv s3, B0, A8, B1, B2, A9, rv j, iv (1 : Int32), rv t, rv b1_o0, .unset] [J2]))
  refine xistoreW X28 hx (hb hby at_217) rfl (l' := #[A0, A1, A2, A3, A4, A5, A6, A7, rv s3, B0, A8, B1, B2, A9, rv j, iv (1 : Int32), rv t, rv b1_o0, iv (2 : Int32)]) rfl rfl ?_
  refine xiloadW X28 hx (hb hby at_219) rfl rfl ?_
  refine xifNoW X28 hx (hb hby at_221) rfl ((if0 _ _).trans (feq (by decide : ¬ ((1 : Int32) = (0 : Int32)))).1) rfl ?_
  refine xaloadW X28 hx (hb hby at_224) rfl rfl rfl ?_
  refine oVW X28 hx hZ hown hml (w_ hw 161 rfl) (w_ hw 162 rfl) (w_ hw 164 rfl) (w_ hw 163 rfl) (own_rm62 hw hs j wpieces_j ((2 : Int32)) T1.heap n0 Z1 G12 G13 G15 G16 G19) (w_ hw 165 rfl) (w_ hw 32 rfl) e28 G12 [] [] 0 (lenOf own_pd18 rfl) rfl (hb hby at_226) rfl rfl rfl fun T29 L29 v29 X29 hQ29 => ?_
  obtain ⟨rfl, N29q, e29⟩ := hQ29
  have N29 := Fr.app N28 N29q
  refine xiloadW X29 hx (hb hby at_229) rfl rfl ?_
  refine xicmpNoW X29 hx (hb hby at_231) rfl (teq (by decide : (2 : Int32) = (2 : Int32))).2 rfl ?_
  refine xiconstW X29 hx (hb hby at_234) rfl ?_
  refine xgotoW X29 hx 235 239 rfl (hb hby at_235) rfl ?_
  refine xistoreW X29 hx (hb hby at_239) rfl (l' := #[A0, A1, A2, A3, A4, A5, A6, A7, rv s3, B0, A8, B1, B2, A9, rv j, iv (1 : Int32), rv t, rv b1_o0, iv (2 : Int32)]) rfl rfl ?_
  show own_FinW p e below s _ _ _ (T29.setTop (mkF m 241 #[A0, A1, A2, A3, A4, A5, A6, A7, rv s3, B0, A8, B1, B2, A9, rv j, iv (1 : Int32), rv t, rv b1_o0, iv (2 : Int32)] []))
  refine xiloadW X29 hx (hb hby at_241) rfl rfl ?_
  refine xifNoW X29 hx (hb hby at_243) rfl ((if0 _ _).trans (feq (by decide : ¬ ((1 : Int32) = (0 : Int32)))).1) rfl ?_
  refine xaloadW X29 hx (hb hby at_246) rfl rfl rfl ?_
  refine oVW X29 hx hZ hown hml (w_ hw 224 rfl) (w_ hw 108 rfl) (w_ hw 110 rfl) (w_ hw 109 rfl) (own_rm4 hw hs b1_o0 b1_o1 ko0_1 ([(.int x0), (.int x1), J0, J0]) ((2 : Int32)) zaa T1.heap n0 Z1 ⟨G2, G4, G3, G26⟩ G21 hcs) (w_ hw 111 rfl) (w_ hw 10 rfl) e29 G2 [] [] 0 (lenOf own_pd18 rfl) rfl (hb hby at_248) rfl rfl rfl fun T30 L30 v30 X30 hQ30 => ?_
  obtain ⟨rfl, N30q, e30⟩ := hQ30
  have N30 := Fr.app N29 N30q
  refine xiloadW X30 hx (hb hby at_251) rfl rfl ?_
  refine xicmpNoW X30 hx (hb hby at_253) rfl (teq (by decide : (2 : Int32) = (2 : Int32))).2 rfl ?_
  refine xiconstW X30 hx (hb hby at_256) rfl ?_
  refine xgotoW X30 hx 257 261 rfl (hb hby at_257) rfl ?_
  refine xistoreW X30 hx (hb hby at_261) rfl (l' := #[A0, A1, A2, A3, A4, A5, A6, A7, rv s3, B0, A8, B1, B2, A9, rv j, iv (1 : Int32), rv t, rv b1_o0, iv (2 : Int32)]) rfl rfl ?_
  refine xiloadW X30 hx (hb hby at_263) rfl rfl ?_
  show own_FinW p e below s _ _ _ (T30.setTop (mkF m 265 #[A0, A1, A2, A3, A4, A5, A6, A7, rv s3, B0, A8, B1, B2, A9, rv j, iv (1 : Int32), rv t, rv b1_o0, iv (2 : Int32)] [J1]))
  refine xifNoW X30 hx (hb hby at_265) rfl ((if0 _ _).trans (feq (by decide : ¬ ((1 : Int32) = (0 : Int32)))).1) rfl ?_
  refine xaloadW X30 hx (hb hby at_268) rfl rfl rfl ?_
  refine xiconstW X30 hx (hb hby at_270) rfl ?_
  refine xaloadW X30 hx (hb hby at_271) rfl rfl rfl ?_
  refine oCW X30 hx hZ hown hml (w_ hw 228 rfl) (w_ hw 229 rfl) (own_rm65 hw hs b1_o0 s3 zaa zab x0 x1 ((0 : Int32)) ((0 : Int32)) y1 y2 y3 b1_o1 ko0_1 ((2 : Int32)) wvalue_s3 k_wvalue_s3 T1.heap n0 Z1 G21 zaf G22 ⟨G2, G4, G3, G26⟩ (show ¬ ((2 : Int32) < (1 : Int32)) from (by first | decide | assumption | exact Nat.le_of_ble_eq_true rfl)) ⟨G6, G7, G8, G23⟩ hcs) (w_ hw 230 rfl) (w_ hw 2 rfl) e30 [(.ref b1_o0), J0, (.ref s3)] [] 0 (lenOf own_pd32 rfl) rfl (hb hby at_273) rfl rfl rfl fun T31 L31 v31 X31 hQ31 => ?_
  obtain ⟨rfl, N31q, e31⟩ := hQ31
  have N31 := Fr.app N30 N31q
  refine xifNoW X31 hx (hb hby at_276) rfl ((if0 _ _).trans (feq (by decide : ¬ ((1 : Int32) = (0 : Int32)))).1) rfl ?_
  refine xiconstW X31 hx (hb hby at_279) rfl ?_
  refine xgotoW X31 hx 280 284 rfl (hb hby at_280) rfl ?_
  refine xistoreW X31 hx (hb hby at_284) rfl (l' := #[A0, A1, A2, A3, A4, A5, A6, A7, rv s3, B0, A8, B1, B2, A9, rv j, iv (1 : Int32), rv t, rv b1_o0, iv (2 : Int32)]) rfl rfl ?_
  refine xiloadW X31 hx (hb hby at_286) rfl rfl ?_
  show own_FinW p e below s _ _ _ (T31.setTop (mkF m 288 #[A0, A1, A2, A3, A4, A5, A6, A7, rv s3, B0, A8, B1, B2, A9, rv j, iv (1 : Int32), rv t, rv b1_o0, iv (2 : Int32)] [J1]))
  refine xifNoW X31 hx (hb hby at_288) rfl ((if0 _ _).trans (feq (by decide : ¬ ((1 : Int32) = (0 : Int32)))).1) rfl ?_
  refine xaloadW X31 hx (hb hby at_291) rfl rfl rfl ?_
  refine xaloadW X31 hx (hb hby at_293) rfl rfl rfl ?_
  refine oVW X31 hx hZ hown hml (w_ hw 224 rfl) (w_ hw 108 rfl) (w_ hw 110 rfl) (w_ hw 109 rfl) (own_rm4 hw hs s3 wvalue_s3 k_wvalue_s3 ([(.int x0), (.int y1), (.int y2), (.int y3)]) ((1 : Int32)) zaa T1.heap n0 Z1 ⟨G6, G7, G8, G23⟩ G21 hcs) (w_ hw 111 rfl) (w_ hw 10 rfl) e31 G6 [] [(.ref b1_o0)] 1 (lenOf own_pd18 rfl) rfl (hb hby at_295) rfl rfl rfl fun T32 L32 v32 X32 hQ32 => ?_
  obtain ⟨rfl, N32q, e32⟩ := hQ32
  have N32 := Fr.app N31 N32q
  refine xaloadW X32 hx (hb hby at_298) rfl rfl rfl ?_
  refine oCW X32 hx hZ hown hml (w_ hw 228 rfl) (w_ hw 229 rfl) (own_rm67 hw hs b1_o0 t zaa zab x0 x1 ((0 : Int32)) ((0 : Int32)) u1 u2 u3 b1_o1 ko0_1 ((2 : Int32)) wvalue_t k_wvalue_t T1.heap n0 Z1 G21 zaf G22 ⟨G2, G4, G3, G26⟩ (show ¬ ((2 : Int32) < (2 : Int32)) from (by first | decide | assumption | exact Nat.le_of_ble_eq_true rfl)) ⟨G9, G10, G11, G24⟩ hcs) (w_ hw 230 rfl) (w_ hw 2 rfl) e32 [(.ref b1_o0), J1, (.ref t)] [] 0 (lenOf own_pd32 rfl) rfl (hb hby at_300) rfl rfl rfl fun T33 L33 v33 X33 hQ33 => ?_
  obtain ⟨rfl, N33q, e33⟩ := hQ33
  have N33 := Fr.app N32 N33q
  refine xifNoW X33 hx (hb hby at_303) rfl ((if0 _ _).trans (feq (by decide : ¬ ((1 : Int32) = (0 : Int32)))).1) rfl ?_
  refine xiconstW X33 hx (hb hby at_306) rfl ?_
  refine xgotoW X33 hx 307 311 rfl (hb hby at_307) rfl ?_
  show own_FinW p e below s _ _ _ (T33.setTop (mkF m 311 #[A0, A1, A2, A3, A4, A5, A6, A7, rv s3, B0, A8, B1, B2, A9, rv j, iv (1 : Int32), rv t, rv b1_o0, iv (2 : Int32)] [J1]))
  refine xistoreW X33 hx (hb hby at_311) rfl (l' := #[A0, A1, A2, A3, A4, A5, A6, A7, rv s3, B0, A8, B1, B2, A9, rv j, iv (1 : Int32), rv t, rv b1_o0, iv (2 : Int32)]) rfl rfl ?_
  refine xiloadW X33 hx (hb hby at_313) rfl rfl ?_
  exact own_retW X33 hlk hS0 e33 hk1 (v := some J1) (fun h => by rw [hret] at h; cases h) (by decide) (by decide) (by show own_Q78 Z A0 A1 A2 A3 A4 A5 A6 A7 s3 B0 A8 B1 B2 A9 j t zaa zab x0 x1 x2 x3 y1 y2 y3 wvalue_s3 k_wvalue_s3 u1 u2 u3 wvalue_t k_wvalue_t upiece_j wpieces_j wvalue_wpieces_j umaybeLatin1_wpieces_j k_wvalue_wpieces_j h0 n0 _ T33.heap _; rw [e33]; exact ⟨rfl, N33⟩) (fun fs hr => retN X33 hx (t := .boolean) hret (by simp) (hb hby at_315) hr)

def own_Q79 (Z : State) (A0 : Slot) (A1 : Slot) (A2 : Slot) (A3 : Slot) (A4 : Slot) (A5 : Slot) (A6 : Slot) (A7 : Slot) (s3 : Addr) (B0 : Slot) (A8 : Slot) (B1 : Slot) (B2 : Slot) (A9 : Slot) (j : Addr) (t : Addr) (zaa : Int32) (zab : Value) (x0 : Int32) (x1 : Int32) (x2 : Int32) (x3 : Int32) (y1 : Int32) (y2 : Int32) (y3 : Int32) (wvalue_s3 : Addr) (k_wvalue_s3 : ClassId) (u2 : Int32) (u3 : Int32) (wvalue_t : Addr) (k_wvalue_t : ClassId) (upiece_j : Value) (wpieces_j : Addr) (wvalue_wpieces_j : Addr) (umaybeLatin1_wpieces_j : Value) (k_wvalue_wpieces_j : ClassId) (h0 : Heap) (n0 : Nat) (v : Option Value) (h : Heap) (L : List Loc) : Prop := v = some (.int 1) ∧ Fr n0 L
set_option maxRecDepth 65536 in
set_option maxHeartbeats 40000000 in
theorem own_rm79 (l : Launch) (Z : State) (a0 : Array Value) (hw : ∀ d ∈ tables_1, d.before a0 Z = true) (hs : ∀ d ∈ jdkStatics_1, d.before a0 Z = true) {p : Program} {e : Env} {s : State} {m : MethodId} {args : Array Value} {below : List Frame} {meth : Method} {c : Code} (hx : p.tables.exec = Jvm.exec) (hby : c.code = code) (hlk : meth.locks = false) (hml : c.maxLocals = 19) (hret : meth.sig.returnType = ret) (A0 : Slot) (A1 : Slot) (A2 : Slot) (A3 : Slot) (A4 : Slot) (A5 : Slot) (A6 : Slot) (A7 : Slot) (s3 : Addr) (B0 : Slot) (A8 : Slot) (B1 : Slot) (B2 : Slot) (A9 : Slot) (j : Addr) (t : Addr) (zaa : Int32) (zab : Value) (x0 : Int32) (x1 : Int32) (x2 : Int32) (x3 : Int32) (y1 : Int32) (y2 : Int32) (y3 : Int32) (wvalue_s3 : Addr) (k_wvalue_s3 : ClassId) (u2 : Int32) (u3 : Int32) (wvalue_t : Addr) (k_wvalue_t : ClassId) (upiece_j : Value) (wpieces_j : Addr) (wvalue_wpieces_j : Addr) (umaybeLatin1_wpieces_j : Value) (k_wvalue_wpieces_j : ClassId) (h0 : Heap) (n0 : Nat) (Z0 : n0 ≤ h0.size) {vm0 : Vm} {s₁ : State} {locs : List Loc} (X0 : Stand p l e room_1 (s.setVm vm0) m args below meth c s₁ locs 38 180) (e0 : s₁.heap = h0) (N0 : Fr n0 locs) {k0 : Nat} (hS0 : s.Since vm0 k0) (hk0 : k0 ≤ h0.size) (hZ : Z.Warmed39 (s.setVm vm0).vm) (hown : (s.setVm vm0).vm.findClass "com/example/nearfield/nearfield/JoinedTextClearPinLaw" = some m.cls) (zac : Sta Z h0 cN0 "COMPACT_STRINGS" "Z" (.int zaa)) (hcs : ¬ (zaa = (0 : Int32))) (zaf : zab.isRef = true) (zan : Sta Z h0 "jdk/internal/util/Preconditions" "SIOOBE_FORMATTER" "Ljava/util/function/BiFunction;" zab) (E_s3 : Exa Z h0 s3 cN0) (F_value_s3 : Fld Z h0 s3 cN0 "value" "[B" (.ref wvalue_s3)) (F_coder_s3 : Fld Z h0 s3 cN0 "coder" "B" J0) (A_wvalue_s3 : Arv Z h0 wvalue_s3 k_wvalue_s3 .byte (1 : Int32) [(.int x0), (.int y1), (.int y2), (.int y3)] J0) (E_t : Exa Z h0 t cN0) (F_value_t : Fld Z h0 t cN0 "value" "[B" (.ref wvalue_t)) (F_coder_t : Fld Z h0 t cN0 "coder" "B" J0) (A_wvalue_t : Arv Z h0 wvalue_t k_wvalue_t .byte (2 : Int32) [(.int x1), (.int x2), (.int u2), (.int u3)] J0) (E_j : Exa Z h0 j cN3) (F_joined_j : Fld Z h0 j cN3 "joined" "Z" J1) (F_piece_j : Fld Z h0 j cN3 "piece" "Ljava/lang/String;" upiece_j) (F_pieces_j : Fld Z h0 j cN3 "pieces" "Ljava/lang/StringBuilder;" (.ref wpieces_j)) (E_wpieces_j : Exa Z h0 wpieces_j cN1) (F_value_wpieces_j : Fld Z h0 wpieces_j cN2 "value" "[B" (.ref wvalue_wpieces_j)) (F_coder_wpieces_j : Fld Z h0 wpieces_j cN2 "coder" "B" J0) (F_count_wpieces_j : Fld Z h0 wpieces_j cN2 "count" "I" J3) (F_maybeLatin1_wpieces_j : Fld Z h0 wpieces_j cN2 "maybeLatin1" "Z" umaybeLatin1_wpieces_j) (A_wvalue_wpieces_j : Arv Z h0 wvalue_wpieces_j k_wvalue_wpieces_j .byte (16 : Int32) [(.int x0), (.int x1), (.int x2), (.int x3)] J0) :
    own_FinW p e below s room_1.cells room_1.slots (own_Q79 Z A0 A1 A2 A3 A4 A5 A6 A7 s3 B0 A8 B1 B2 A9 j t zaa zab x0 x1 x2 x3 y1 y2 y3 wvalue_s3 k_wvalue_s3 u2 u3 wvalue_t k_wvalue_t upiece_j wpieces_j wvalue_wpieces_j umaybeLatin1_wpieces_j k_wvalue_wpieces_j h0 n0) (s₁.setTop (mkF m 199 #[A0, A1, A2, A3, A4, A5, A6, A7, rv s3, B0, A8, B1, B2, A9, rv j, iv (1 : Int32), rv t, .unset, .unset] [])) := by
  have KR : Keep h0 h0 [] := Keep.refl _ _
  refine xaloadW X0 hx (hb hby at_199) rfl rfl rfl ?_
  refine oVW X0 hx hZ hown hml (w_ hw 167 rfl) (w_ hw 168 rfl) (w_ hw 170 rfl) (w_ hw 169 rfl) (own_rm64 hw hs j upiece_j wpieces_j wvalue_wpieces_j ((3 : Int32)) umaybeLatin1_wpieces_j k_wvalue_wpieces_j ([(.int x0), (.int x1), (.int x2), (.int x3)]) zaa h0 n0 Z0 E_j F_joined_j F_piece_j F_pieces_j ⟨E_wpieces_j, F_value_wpieces_j, F_coder_wpieces_j, F_count_wpieces_j, F_maybeLatin1_wpieces_j, A_wvalue_wpieces_j⟩ zac hcs (show ¬ ((3 : Int32) = (16 : Int32)) from (by first | decide | assumption | exact Nat.le_of_ble_eq_true rfl)) (show ¬ ((3 : Int32) < (0 : Int32)) from (by first | decide | assumption | exact Nat.le_of_ble_eq_true rfl)) (show (3 : Int32).toNatClampNeg ≤ 4 from (by first | decide | assumption | exact Nat.le_of_ble_eq_true rfl)) (show (3 : Int32) < (16 : Int32) from (by first | decide | assumption | exact Nat.le_of_ble_eq_true rfl)) (show (0 : Int32).toNatClampNeg + (3 : Int32).toNatClampNeg ≤ (16 : Int32).toNatClampNeg from (by first | decide | assumption | exact Nat.le_of_ble_eq_true rfl)) (show (0 : Int32).toNatClampNeg + (3 : Int32).toNatClampNeg ≤ [J0, J0, J0, J0].length from (by first | decide | assumption | exact Nat.le_of_ble_eq_true rfl))) (w_ hw 171 rfl) (w_ hw 32 rfl) e0 E_j [] [] 0 (lenOf own_pd30 rfl) rfl (hb hby at_201) rfl rfl rfl fun T1 L1 v1 X1 hQ1 => ?_
  obtain ⟨N1q, K1q, b1_o0, gg1_o0, sz1_o0, b1_o1, gg1_o1, sz1_o1, ko0_1, rfl, G2, G3, G4, G5⟩ := hQ1
  have N1 := Fr.app N0 N1q
  have ne1_o0_s3 : s3 ≠ b1_o0 := Nat.ne_of_lt (Nat.lt_of_lt_of_le E_s3.lt sz1_o0)
  have ne1_o0_t : t ≠ b1_o0 := Nat.ne_of_lt (Nat.lt_of_lt_of_le E_t.lt sz1_o0)
  have ne1_o1_wvalue_s3 : wvalue_s3 ≠ b1_o1 := Nat.ne_of_lt (Nat.lt_of_lt_of_le A_wvalue_s3.lt sz1_o1)
  have ne1_o1_wvalue_t : wvalue_t ≠ b1_o1 := Nat.ne_of_lt (Nat.lt_of_lt_of_le A_wvalue_t.lt sz1_o1)
  have ne1_o1_wvalue_wpieces_j : wvalue_wpieces_j ≠ b1_o1 := Nat.ne_of_lt (Nat.lt_of_lt_of_le A_wvalue_wpieces_j.lt sz1_o1)
  have K1 := KR.trans K1q own_a0
  have Z1 := Nat.le_trans Z0 K1q.1
  have sy1_o0 : h0.size ≤ b1_o0 := Nat.le_trans KR.1 sz1_o0
  have sy1_o1 : h0.size ≤ b1_o1 := Nat.le_trans KR.1 sz1_o1
  have hk1 := Nat.le_trans hk0 K1q.1
  obtain ⟨G6, G7, G8⟩ := own_k2 K1q nin0 E_s3 F_value_s3 F_coder_s3
  obtain ⟨G9, G10, G11⟩ := own_k2 K1q nin0 E_t F_value_t F_coder_t
  obtain ⟨G12, G13, G14, G15⟩ := own_k3 K1q nin0 E_j F_joined_j F_piece_j F_pieces_j
  obtain ⟨G16, G17, G18, G19, G20⟩ := own_k4 K1q nin0 E_wpieces_j F_value_wpieces_j F_coder_wpieces_j F_count_wpieces_j F_maybeLatin1_wpieces_j
  have G21 := (own_sta_keep0 zac K1q)
  have G22 := (own_sta_keep0 zan K1q)
  have G23 := (A_wvalue_s3.keep K1q nin0)
  have G24 := (A_wvalue_t.keep K1q nin0)
  have G25 := (A_wvalue_wpieces_j.keep K1q nin0)
  have G26 : Arv Z T1.heap b1_o1 ko0_1 .byte (3 : Int32) [(.int x0), (.int x1), (.int x2), J0] J0 := G5
  refine xastoreW X1 hx (hb hby at_204) rfl rfl (l' := #[A0, A1, A2, A3, A4, A5, A6, A7, rv s3, B0, A8, B1, B2, A9, rv j, iv (1 : Int32), rv t, rv b1_o0, .unset]) rfl rfl ?_
  refine xaloadW X1 hx (hb hby at_206) rfl rfl rfl ?_
  refine oVW X1 hx hZ hown hml (w_ hw 224 rfl) (w_ hw 108 rfl) (w_ hw 110 rfl) (w_ hw 109 rfl) (own_rm4 hw hs s3 wvalue_s3 k_wvalue_s3 ([(.int x0), (.int y1), (.int y2), (.int y3)]) ((1 : Int32)) zaa T1.heap n0 Z1 ⟨G6, G7, G8, G23⟩ G21 hcs) (w_ hw 111 rfl) (w_ hw 10 rfl) rfl G6 [] [] 0 (lenOf own_pd18 rfl) rfl (hb hby at_208) rfl rfl rfl fun T27 L27 v27 X27 hQ27 => ?_
  obtain ⟨rfl, N27q, e27⟩ := hQ27
  have N27 := Fr.app N1 N27q
  refine xaloadW X27 hx (hb hby at_211) rfl rfl rfl ?_
  refine oVW X27 hx hZ hown hml (w_ hw 224 rfl) (w_ hw 108 rfl) (w_ hw 110 rfl) (w_ hw 109 rfl) (own_rm4 hw hs t wvalue_t k_wvalue_t ([(.int x1), (.int x2), (.int u2), (.int u3)]) ((2 : Int32)) zaa T1.heap n0 Z1 ⟨G9, G10, G11, G24⟩ G21 hcs) (w_ hw 111 rfl) (w_ hw 10 rfl) e27 G9 [] [J1] 1 (lenOf own_pd18 rfl) rfl (hb hby at_213) rfl rfl rfl fun T28 L28 v28 X28 hQ28 => ?_
  obtain ⟨rfl, N28q, e28⟩ := hQ28
  have N28 := Fr.app N27 N28q
  refine xiaddW X28 hx (hb hby at_216) rfl rfl ?_
  show own_FinW p e below s _ _ _ (T28.setTop (mkF m 217 #[A0, A1, A2, A3, A4, A5, A6, A7, rv s3, B0, A8, B1, B2, A9, rv j, iv (1 : Int32), rv t, rv b1_o0, .unset] [(.int ((1 : Int32) + (2 : Int32)))]))
  rw [show ((1 : Int32) + (2 : Int32)) = (3 : Int32) from by decide]
  show own_FinW p e below s _ _ _ (T28.setTop (mkF m 217 #[A0, A1, A2, A3, A4, A5, A6, A7, rv s3, B0, A8, B1, B2, A9, rv j, iv (1 : Int32), rv t, rv b1_o0, .unset] [J3]))
  refine xistoreW X28 hx (hb hby at_217) rfl (l' := #[A0, A1, A2, A3, A4, A5, A6, A7, rv s3, B0, A8, B1, B2, A9, rv j, iv (1 : Int32), rv t, rv b1_o0, iv (3 : Int32)]) rfl rfl ?_
  refine xiloadW X28 hx (hb hby at_219) rfl rfl ?_
  refine xifNoW X28 hx (hb hby at_221) rfl ((if0 _ _).trans (feq (by decide : ¬ ((1 : Int32) = (0 : Int32)))).1) rfl ?_
  refine xaloadW X28 hx (hb hby at_224) rfl rfl rfl ?_
  refine oVW X28 hx hZ hown hml (w_ hw 161 rfl) (w_ hw 162 rfl) (w_ hw 164 rfl) (w_ hw 163 rfl) (own_rm62 hw hs j wpieces_j ((3 : Int32)) T1.heap n0 Z1 G12 G13 G15 G16 G19) (w_ hw 165 rfl) (w_ hw 32 rfl) e28 G12 [] [] 0 (lenOf own_pd18 rfl) rfl (hb hby at_226) rfl rfl rfl fun T29 L29 v29 X29 hQ29 => ?_
  obtain ⟨rfl, N29q, e29⟩ := hQ29
  have N29 := Fr.app N28 N29q
  refine xiloadW X29 hx (hb hby at_229) rfl rfl ?_
  refine xicmpNoW X29 hx (hb hby at_231) rfl (teq (by decide : (3 : Int32) = (3 : Int32))).2 rfl ?_
  refine xiconstW X29 hx (hb hby at_234) rfl ?_
  refine xgotoW X29 hx 235 239 rfl (hb hby at_235) rfl ?_
  refine xistoreW X29 hx (hb hby at_239) rfl (l' := #[A0, A1, A2, A3, A4, A5, A6, A7, rv s3, B0, A8, B1, B2, A9, rv j, iv (1 : Int32), rv t, rv b1_o0, iv (3 : Int32)]) rfl rfl ?_
  show own_FinW p e below s _ _ _ (T29.setTop (mkF m 241 #[A0, A1, A2, A3, A4, A5, A6, A7, rv s3, B0, A8, B1, B2, A9, rv j, iv (1 : Int32), rv t, rv b1_o0, iv (3 : Int32)] []))
  refine xiloadW X29 hx (hb hby at_241) rfl rfl ?_
  refine xifNoW X29 hx (hb hby at_243) rfl ((if0 _ _).trans (feq (by decide : ¬ ((1 : Int32) = (0 : Int32)))).1) rfl ?_
  refine xaloadW X29 hx (hb hby at_246) rfl rfl rfl ?_
  refine oVW X29 hx hZ hown hml (w_ hw 224 rfl) (w_ hw 108 rfl) (w_ hw 110 rfl) (w_ hw 109 rfl) (own_rm4 hw hs b1_o0 b1_o1 ko0_1 ([(.int x0), (.int x1), (.int x2), J0]) ((3 : Int32)) zaa T1.heap n0 Z1 ⟨G2, G4, G3, G26⟩ G21 hcs) (w_ hw 111 rfl) (w_ hw 10 rfl) e29 G2 [] [] 0 (lenOf own_pd18 rfl) rfl (hb hby at_248) rfl rfl rfl fun T30 L30 v30 X30 hQ30 => ?_
  obtain ⟨rfl, N30q, e30⟩ := hQ30
  have N30 := Fr.app N29 N30q
  refine xiloadW X30 hx (hb hby at_251) rfl rfl ?_
  refine xicmpNoW X30 hx (hb hby at_253) rfl (teq (by decide : (3 : Int32) = (3 : Int32))).2 rfl ?_
  refine xiconstW X30 hx (hb hby at_256) rfl ?_
  refine xgotoW X30 hx 257 261 rfl (hb hby at_257) rfl ?_
  refine xistoreW X30 hx (hb hby at_261) rfl (l' := #[A0, A1, A2, A3, A4, A5, A6, A7, rv s3, B0, A8, B1, B2, A9, rv j, iv (1 : Int32), rv t, rv b1_o0, iv (3 : Int32)]) rfl rfl ?_
  refine xiloadW X30 hx (hb hby at_263) rfl rfl ?_
  show own_FinW p e below s _ _ _ (T30.setTop (mkF m 265 #[A0, A1, A2, A3, A4, A5, A6, A7, rv s3, B0, A8, B1, B2, A9, rv j, iv (1 : Int32), rv t, rv b1_o0, iv (3 : Int32)] [J1]))
  refine xifNoW X30 hx (hb hby at_265) rfl ((if0 _ _).trans (feq (by decide : ¬ ((1 : Int32) = (0 : Int32)))).1) rfl ?_
  refine xaloadW X30 hx (hb hby at_268) rfl rfl rfl ?_
  refine xiconstW X30 hx (hb hby at_270) rfl ?_
  refine xaloadW X30 hx (hb hby at_271) rfl rfl rfl ?_
  refine oCW X30 hx hZ hown hml (w_ hw 228 rfl) (w_ hw 229 rfl) (own_rm65 hw hs b1_o0 s3 zaa zab x0 x1 x2 ((0 : Int32)) y1 y2 y3 b1_o1 ko0_1 ((3 : Int32)) wvalue_s3 k_wvalue_s3 T1.heap n0 Z1 G21 zaf G22 ⟨G2, G4, G3, G26⟩ (show ¬ ((3 : Int32) < (1 : Int32)) from (by first | decide | assumption | exact Nat.le_of_ble_eq_true rfl)) ⟨G6, G7, G8, G23⟩ hcs) (w_ hw 230 rfl) (w_ hw 2 rfl) e30 [(.ref b1_o0), J0, (.ref s3)] [] 0 (lenOf own_pd32 rfl) rfl (hb hby at_273) rfl rfl rfl fun T31 L31 v31 X31 hQ31 => ?_
  obtain ⟨rfl, N31q, e31⟩ := hQ31
  have N31 := Fr.app N30 N31q
  refine xifNoW X31 hx (hb hby at_276) rfl ((if0 _ _).trans (feq (by decide : ¬ ((1 : Int32) = (0 : Int32)))).1) rfl ?_
  refine xiconstW X31 hx (hb hby at_279) rfl ?_
  refine xgotoW X31 hx 280 284 rfl (hb hby at_280) rfl ?_
  refine xistoreW X31 hx (hb hby at_284) rfl (l' := #[A0, A1, A2, A3, A4, A5, A6, A7, rv s3, B0, A8, B1, B2, A9, rv j, iv (1 : Int32), rv t, rv b1_o0, iv (3 : Int32)]) rfl rfl ?_
  refine xiloadW X31 hx (hb hby at_286) rfl rfl ?_
  show own_FinW p e below s _ _ _ (T31.setTop (mkF m 288 #[A0, A1, A2, A3, A4, A5, A6, A7, rv s3, B0, A8, B1, B2, A9, rv j, iv (1 : Int32), rv t, rv b1_o0, iv (3 : Int32)] [J1]))
  refine xifNoW X31 hx (hb hby at_288) rfl ((if0 _ _).trans (feq (by decide : ¬ ((1 : Int32) = (0 : Int32)))).1) rfl ?_
  refine xaloadW X31 hx (hb hby at_291) rfl rfl rfl ?_
  refine xaloadW X31 hx (hb hby at_293) rfl rfl rfl ?_
  refine oVW X31 hx hZ hown hml (w_ hw 224 rfl) (w_ hw 108 rfl) (w_ hw 110 rfl) (w_ hw 109 rfl) (own_rm4 hw hs s3 wvalue_s3 k_wvalue_s3 ([(.int x0), (.int y1), (.int y2), (.int y3)]) ((1 : Int32)) zaa T1.heap n0 Z1 ⟨G6, G7, G8, G23⟩ G21 hcs) (w_ hw 111 rfl) (w_ hw 10 rfl) e31 G6 [] [(.ref b1_o0)] 1 (lenOf own_pd18 rfl) rfl (hb hby at_295) rfl rfl rfl fun T32 L32 v32 X32 hQ32 => ?_
  obtain ⟨rfl, N32q, e32⟩ := hQ32
  have N32 := Fr.app N31 N32q
  refine xaloadW X32 hx (hb hby at_298) rfl rfl rfl ?_
  refine oCW X32 hx hZ hown hml (w_ hw 228 rfl) (w_ hw 229 rfl) (own_rm68 hw hs b1_o0 t zaa zab x0 x1 x2 ((0 : Int32)) u2 u3 b1_o1 ko0_1 ((3 : Int32)) wvalue_t k_wvalue_t T1.heap n0 Z1 G21 zaf G22 ⟨G2, G4, G3, G26⟩ (show ¬ ((3 : Int32) < (3 : Int32)) from (by first | decide | assumption | exact Nat.le_of_ble_eq_true rfl)) ⟨G9, G10, G11, G24⟩ hcs) (w_ hw 230 rfl) (w_ hw 2 rfl) e32 [(.ref b1_o0), J1, (.ref t)] [] 0 (lenOf own_pd32 rfl) rfl (hb hby at_300) rfl rfl rfl fun T33 L33 v33 X33 hQ33 => ?_
  obtain ⟨rfl, N33q, e33⟩ := hQ33
  have N33 := Fr.app N32 N33q
  refine xifNoW X33 hx (hb hby at_303) rfl ((if0 _ _).trans (feq (by decide : ¬ ((1 : Int32) = (0 : Int32)))).1) rfl ?_
  refine xiconstW X33 hx (hb hby at_306) rfl ?_
  refine xgotoW X33 hx 307 311 rfl (hb hby at_307) rfl ?_
  show own_FinW p e below s _ _ _ (T33.setTop (mkF m 311 #[A0, A1, A2, A3, A4, A5, A6, A7, rv s3, B0, A8, B1, B2, A9, rv j, iv (1 : Int32), rv t, rv b1_o0, iv (3 : Int32)] [J1]))
  refine xistoreW X33 hx (hb hby at_311) rfl (l' := #[A0, A1, A2, A3, A4, A5, A6, A7, rv s3, B0, A8, B1, B2, A9, rv j, iv (1 : Int32), rv t, rv b1_o0, iv (3 : Int32)]) rfl rfl ?_
  refine xiloadW X33 hx (hb hby at_313) rfl rfl ?_
  exact own_retW X33 hlk hS0 e33 hk1 (v := some J1) (fun h => by rw [hret] at h; cases h) (by decide) (by decide) (by show own_Q79 Z A0 A1 A2 A3 A4 A5 A6 A7 s3 B0 A8 B1 B2 A9 j t zaa zab x0 x1 x2 x3 y1 y2 y3 wvalue_s3 k_wvalue_s3 u2 u3 wvalue_t k_wvalue_t upiece_j wpieces_j wvalue_wpieces_j umaybeLatin1_wpieces_j k_wvalue_wpieces_j h0 n0 _ T33.heap _; rw [e33]; exact ⟨rfl, N33⟩) (fun fs hr => retN X33 hx (t := .boolean) hret (by simp) (hb hby at_315) hr)

def own_Q80 (Z : State) (A0 : Slot) (A1 : Slot) (A2 : Slot) (A3 : Slot) (A4 : Slot) (A5 : Slot) (A6 : Slot) (A7 : Slot) (s3 : Addr) (B0 : Slot) (A8 : Slot) (B1 : Slot) (B2 : Slot) (A9 : Slot) (j : Addr) (t : Addr) (zaa : Int32) (zab : Value) (x0 : Int32) (x1 : Int32) (y2 : Int32) (y3 : Int32) (wvalue_s3 : Addr) (k_wvalue_s3 : ClassId) (u0 : Int32) (u1 : Int32) (u2 : Int32) (u3 : Int32) (wvalue_t : Addr) (k_wvalue_t : ClassId) (upieces_j : Value) (h0 : Heap) (n0 : Nat) (v : Option Value) (h : Heap) (L : List Loc) : Prop := v = some (.int 1) ∧ Fr n0 L
set_option maxRecDepth 65536 in
set_option maxHeartbeats 40000000 in
theorem own_rm80 (l : Launch) (Z : State) (a0 : Array Value) (hw : ∀ d ∈ tables_1, d.before a0 Z = true) (hs : ∀ d ∈ jdkStatics_1, d.before a0 Z = true) {p : Program} {e : Env} {s : State} {m : MethodId} {args : Array Value} {below : List Frame} {meth : Method} {c : Code} (hx : p.tables.exec = Jvm.exec) (hby : c.code = code) (hlk : meth.locks = false) (hml : c.maxLocals = 19) (hret : meth.sig.returnType = ret) (A0 : Slot) (A1 : Slot) (A2 : Slot) (A3 : Slot) (A4 : Slot) (A5 : Slot) (A6 : Slot) (A7 : Slot) (s3 : Addr) (B0 : Slot) (A8 : Slot) (B1 : Slot) (B2 : Slot) (A9 : Slot) (j : Addr) (t : Addr) (zaa : Int32) (zab : Value) (x0 : Int32) (x1 : Int32) (y2 : Int32) (y3 : Int32) (wvalue_s3 : Addr) (k_wvalue_s3 : ClassId) (u0 : Int32) (u1 : Int32) (u2 : Int32) (u3 : Int32) (wvalue_t : Addr) (k_wvalue_t : ClassId) (upieces_j : Value) (h0 : Heap) (n0 : Nat) (Z0 : n0 ≤ h0.size) {vm0 : Vm} {s₁ : State} {locs : List Loc} (X0 : Stand p l e room_1 (s.setVm vm0) m args below meth c s₁ locs 38 180) (e0 : s₁.heap = h0) (N0 : Fr n0 locs) {k0 : Nat} (hS0 : s.Since vm0 k0) (hk0 : k0 ≤ h0.size) (hZ : Z.Warmed39 (s.setVm vm0).vm) (hown : (s.setVm vm0).vm.findClass "com/example/nearfield/nearfield/JoinedTextClearPinLaw" = some m.cls) (zac : Sta Z h0 cN0 "COMPACT_STRINGS" "Z" (.int zaa)) (hcs : ¬ (zaa = (0 : Int32))) (zaf : zab.isRef = true) (zan : Sta Z h0 "jdk/internal/util/Preconditions" "SIOOBE_FORMATTER" "Ljava/util/function/BiFunction;" zab) (E_s3 : Exa Z h0 s3 cN0) (F_value_s3 : Fld Z h0 s3 cN0 "value" "[B" (.ref wvalue_s3)) (F_coder_s3 : Fld Z h0 s3 cN0 "coder" "B" J0) (A_wvalue_s3 : Arv Z h0 wvalue_s3 k_wvalue_s3 .byte (2 : Int32) [(.int x0), (.int x1), (.int y2), (.int y3)] J0) (E_t : Exa Z h0 t cN0) (F_value_t : Fld Z h0 t cN0 "value" "[B" (.ref wvalue_t)) (F_coder_t : Fld Z h0 t cN0 "coder" "B" J0) (A_wvalue_t : Arv Z h0 wvalue_t k_wvalue_t .byte (0 : Int32) [(.int u0), (.int u1), (.int u2), (.int u3)] J0) (E_j : Exa Z h0 j cN3) (F_joined_j : Fld Z h0 j cN3 "joined" "Z" J0) (F_piece_j : Fld Z h0 j cN3 "piece" "Ljava/lang/String;" (.ref s3)) (F_pieces_j : Fld Z h0 j cN3 "pieces" "Ljava/lang/StringBuilder;" upieces_j) :
    own_FinW p e below s room_1.cells room_1.slots (own_Q80 Z A0 A1 A2 A3 A4 A5 A6 A7 s3 B0 A8 B1 B2 A9 j t zaa zab x0 x1 y2 y3 wvalue_s3 k_wvalue_s3 u0 u1 u2 u3 wvalue_t k_wvalue_t upieces_j h0 n0) (s₁.setTop (mkF m 199 #[A0, A1, A2, A3, A4, A5, A6, A7, rv s3, B0, A8, B1, B2, A9, rv j, iv (1 : Int32), rv t, .unset, .unset] [])) := by
  have KR : Keep h0 h0 [] := Keep.refl _ _
  refine xaloadW X0 hx (hb hby at_199) rfl rfl rfl ?_
  refine oVW X0 hx hZ hown hml (w_ hw 167 rfl) (w_ hw 168 rfl) (w_ hw 170 rfl) (w_ hw 169 rfl) (own_rm63 hw hs j s3 h0 n0 Z0 F_joined_j F_piece_j) (w_ hw 171 rfl) (w_ hw 32 rfl) e0 E_j [] [] 0 (lenOf own_pd30 rfl) rfl (hb hby at_201) rfl rfl rfl fun T1 L1 v1 X1 hQ1 => ?_
  obtain ⟨rfl, N1q, e1⟩ := hQ1
  have N1 := Fr.app N0 N1q
  refine xastoreW X1 hx (hb hby at_204) rfl rfl (l' := #[A0, A1, A2, A3, A4, A5, A6, A7, rv s3, B0, A8, B1, B2, A9, rv j, iv (1 : Int32), rv t, rv s3, .unset]) rfl rfl ?_
  refine xaloadW X1 hx (hb hby at_206) rfl rfl rfl ?_
  refine oVW X1 hx hZ hown hml (w_ hw 224 rfl) (w_ hw 108 rfl) (w_ hw 110 rfl) (w_ hw 109 rfl) (own_rm4 hw hs s3 wvalue_s3 k_wvalue_s3 ([(.int x0), (.int x1), (.int y2), (.int y3)]) ((2 : Int32)) zaa h0 n0 Z0 ⟨E_s3, F_value_s3, F_coder_s3, A_wvalue_s3⟩ zac hcs) (w_ hw 111 rfl) (w_ hw 10 rfl) e1 E_s3 [] [] 0 (lenOf own_pd18 rfl) rfl (hb hby at_208) rfl rfl rfl fun T2 L2 v2 X2 hQ2 => ?_
  obtain ⟨rfl, N2q, e2⟩ := hQ2
  have N2 := Fr.app N1 N2q
  refine xaloadW X2 hx (hb hby at_211) rfl rfl rfl ?_
  refine oVW X2 hx hZ hown hml (w_ hw 224 rfl) (w_ hw 108 rfl) (w_ hw 110 rfl) (w_ hw 109 rfl) (own_rm4 hw hs t wvalue_t k_wvalue_t ([(.int u0), (.int u1), (.int u2), (.int u3)]) ((0 : Int32)) zaa h0 n0 Z0 ⟨E_t, F_value_t, F_coder_t, A_wvalue_t⟩ zac hcs) (w_ hw 111 rfl) (w_ hw 10 rfl) e2 E_t [] [J2] 1 (lenOf own_pd18 rfl) rfl (hb hby at_213) rfl rfl rfl fun T3 L3 v3 X3 hQ3 => ?_
  obtain ⟨rfl, N3q, e3⟩ := hQ3
  have N3 := Fr.app N2 N3q
  refine xiaddW X3 hx (hb hby at_216) rfl rfl ?_
  show own_FinW p e below s _ _ _ (T3.setTop (mkF m 217 #[A0, A1, A2, A3, A4, A5, A6, A7, rv s3, B0, A8, B1, B2, A9, rv j, iv (1 : Int32), rv t, rv s3, .unset] [(.int ((2 : Int32) + (0 : Int32)))]))
  rw [show ((2 : Int32) + (0 : Int32)) = (2 : Int32) from by decide]
  show own_FinW p e below s _ _ _ (T3.setTop (mkF m 217 #[A0, A1, A2, A3, A4, A5, A6, A7, rv s3, B0, A8, B1, B2, A9, rv j, iv (1 : Int32), rv t, rv s3, .unset] [J2]))
  refine xistoreW X3 hx (hb hby at_217) rfl (l' := #[A0, A1, A2, A3, A4, A5, A6, A7, rv s3, B0, A8, B1, B2, A9, rv j, iv (1 : Int32), rv t, rv s3, iv (2 : Int32)]) rfl rfl ?_
  refine xiloadW X3 hx (hb hby at_219) rfl rfl ?_
  refine xifNoW X3 hx (hb hby at_221) rfl ((if0 _ _).trans (feq (by decide : ¬ ((1 : Int32) = (0 : Int32)))).1) rfl ?_
  refine xaloadW X3 hx (hb hby at_224) rfl rfl rfl ?_
  refine oVW X3 hx hZ hown hml (w_ hw 161 rfl) (w_ hw 162 rfl) (w_ hw 164 rfl) (w_ hw 163 rfl) (own_rm61 hw hs j s3 wvalue_s3 k_wvalue_s3 ([(.int x0), (.int x1), (.int y2), (.int y3)]) ((2 : Int32)) upieces_j zaa h0 n0 Z0 E_j F_joined_j F_piece_j ⟨E_s3, F_value_s3, F_coder_s3, A_wvalue_s3⟩ F_pieces_j zac hcs) (w_ hw 165 rfl) (w_ hw 32 rfl) e3 E_j [] [] 0 (lenOf own_pd18 rfl) rfl (hb hby at_226) rfl rfl rfl fun T4 L4 v4 X4 hQ4 => ?_
  obtain ⟨rfl, N4q, e4⟩ := hQ4
  have N4 := Fr.app N3 N4q
  refine xiloadW X4 hx (hb hby at_229) rfl rfl ?_
  refine xicmpNoW X4 hx (hb hby at_231) rfl (teq (by decide : (2 : Int32) = (2 : Int32))).2 rfl ?_
  refine xiconstW X4 hx (hb hby at_234) rfl ?_
  refine xgotoW X4 hx 235 239 rfl (hb hby at_235) rfl ?_
  refine xistoreW X4 hx (hb hby at_239) rfl (l' := #[A0, A1, A2, A3, A4, A5, A6, A7, rv s3, B0, A8, B1, B2, A9, rv j, iv (1 : Int32), rv t, rv s3, iv (2 : Int32)]) rfl rfl ?_
  show own_FinW p e below s _ _ _ (T4.setTop (mkF m 241 #[A0, A1, A2, A3, A4, A5, A6, A7, rv s3, B0, A8, B1, B2, A9, rv j, iv (1 : Int32), rv t, rv s3, iv (2 : Int32)] []))
  refine xiloadW X4 hx (hb hby at_241) rfl rfl ?_
  refine xifNoW X4 hx (hb hby at_243) rfl ((if0 _ _).trans (feq (by decide : ¬ ((1 : Int32) = (0 : Int32)))).1) rfl ?_
  refine xaloadW X4 hx (hb hby at_246) rfl rfl rfl ?_
  refine oVW X4 hx hZ hown hml (w_ hw 224 rfl) (w_ hw 108 rfl) (w_ hw 110 rfl) (w_ hw 109 rfl) (own_rm4 hw hs s3 wvalue_s3 k_wvalue_s3 ([(.int x0), (.int x1), (.int y2), (.int y3)]) ((2 : Int32)) zaa h0 n0 Z0 ⟨E_s3, F_value_s3, F_coder_s3, A_wvalue_s3⟩ zac hcs) (w_ hw 111 rfl) (w_ hw 10 rfl) e4 E_s3 [] [] 0 (lenOf own_pd18 rfl) rfl (hb hby at_248) rfl rfl rfl fun T5 L5 v5 X5 hQ5 => ?_
  obtain ⟨rfl, N5q, e5⟩ := hQ5
  have N5 := Fr.app N4 N5q
  refine xiloadW X5 hx (hb hby at_251) rfl rfl ?_
  refine xicmpNoW X5 hx (hb hby at_253) rfl (teq (by decide : (2 : Int32) = (2 : Int32))).2 rfl ?_
  refine xiconstW X5 hx (hb hby at_256) rfl ?_
  refine xgotoW X5 hx 257 261 rfl (hb hby at_257) rfl ?_
  refine xistoreW X5 hx (hb hby at_261) rfl (l' := #[A0, A1, A2, A3, A4, A5, A6, A7, rv s3, B0, A8, B1, B2, A9, rv j, iv (1 : Int32), rv t, rv s3, iv (2 : Int32)]) rfl rfl ?_
  refine xiloadW X5 hx (hb hby at_263) rfl rfl ?_
  show own_FinW p e below s _ _ _ (T5.setTop (mkF m 265 #[A0, A1, A2, A3, A4, A5, A6, A7, rv s3, B0, A8, B1, B2, A9, rv j, iv (1 : Int32), rv t, rv s3, iv (2 : Int32)] [J1]))
  refine xifNoW X5 hx (hb hby at_265) rfl ((if0 _ _).trans (feq (by decide : ¬ ((1 : Int32) = (0 : Int32)))).1) rfl ?_
  refine xaloadW X5 hx (hb hby at_268) rfl rfl rfl ?_
  refine xiconstW X5 hx (hb hby at_270) rfl ?_
  refine xaloadW X5 hx (hb hby at_271) rfl rfl rfl ?_
  refine oCW X5 hx hZ hown hml (w_ hw 228 rfl) (w_ hw 229 rfl) (own_rm66 hw hs s3 s3 zaa zab x0 x1 y2 y3 y2 y3 wvalue_s3 k_wvalue_s3 ((2 : Int32)) wvalue_s3 k_wvalue_s3 h0 n0 Z0 zac zaf zan ⟨E_s3, F_value_s3, F_coder_s3, A_wvalue_s3⟩ (show ¬ ((2 : Int32) < (2 : Int32)) from (by first | decide | assumption | exact Nat.le_of_ble_eq_true rfl)) ⟨E_s3, F_value_s3, F_coder_s3, A_wvalue_s3⟩ hcs) (w_ hw 230 rfl) (w_ hw 2 rfl) e5 [(.ref s3), J0, (.ref s3)] [] 0 (lenOf own_pd32 rfl) rfl (hb hby at_273) rfl rfl rfl fun T6 L6 v6 X6 hQ6 => ?_
  obtain ⟨rfl, N6q, e6⟩ := hQ6
  have N6 := Fr.app N5 N6q
  refine xifNoW X6 hx (hb hby at_276) rfl ((if0 _ _).trans (feq (by decide : ¬ ((1 : Int32) = (0 : Int32)))).1) rfl ?_
  refine xiconstW X6 hx (hb hby at_279) rfl ?_
  refine xgotoW X6 hx 280 284 rfl (hb hby at_280) rfl ?_
  refine xistoreW X6 hx (hb hby at_284) rfl (l' := #[A0, A1, A2, A3, A4, A5, A6, A7, rv s3, B0, A8, B1, B2, A9, rv j, iv (1 : Int32), rv t, rv s3, iv (2 : Int32)]) rfl rfl ?_
  refine xiloadW X6 hx (hb hby at_286) rfl rfl ?_
  show own_FinW p e below s _ _ _ (T6.setTop (mkF m 288 #[A0, A1, A2, A3, A4, A5, A6, A7, rv s3, B0, A8, B1, B2, A9, rv j, iv (1 : Int32), rv t, rv s3, iv (2 : Int32)] [J1]))
  refine xifNoW X6 hx (hb hby at_288) rfl ((if0 _ _).trans (feq (by decide : ¬ ((1 : Int32) = (0 : Int32)))).1) rfl ?_
  refine xaloadW X6 hx (hb hby at_291) rfl rfl rfl ?_
  refine xaloadW X6 hx (hb hby at_293) rfl rfl rfl ?_
  refine oVW X6 hx hZ hown hml (w_ hw 224 rfl) (w_ hw 108 rfl) (w_ hw 110 rfl) (w_ hw 109 rfl) (own_rm4 hw hs s3 wvalue_s3 k_wvalue_s3 ([(.int x0), (.int x1), (.int y2), (.int y3)]) ((2 : Int32)) zaa h0 n0 Z0 ⟨E_s3, F_value_s3, F_coder_s3, A_wvalue_s3⟩ zac hcs) (w_ hw 111 rfl) (w_ hw 10 rfl) e6 E_s3 [] [(.ref s3)] 1 (lenOf own_pd18 rfl) rfl (hb hby at_295) rfl rfl rfl fun T7 L7 v7 X7 hQ7 => ?_
  obtain ⟨rfl, N7q, e7⟩ := hQ7
  have N7 := Fr.app N6 N7q
  refine xaloadW X7 hx (hb hby at_298) rfl rfl rfl ?_
  refine oCW X7 hx hZ hown hml (w_ hw 228 rfl) (w_ hw 229 rfl) (own_rm71 hw hs s3 ((2 : Int32)) t zaa zab u0 u1 u2 u3 wvalue_t k_wvalue_t h0 n0 Z0 zac zaf zan ⟨E_t, F_value_t, F_coder_t, A_wvalue_t⟩ hcs) (w_ hw 230 rfl) (w_ hw 2 rfl) e7 [(.ref s3), J2, (.ref t)] [] 0 (lenOf own_pd32 rfl) rfl (hb hby at_300) rfl rfl rfl fun T8 L8 v8 X8 hQ8 => ?_
  obtain ⟨rfl, N8q, e8⟩ := hQ8
  have N8 := Fr.app N7 N8q
  refine xifNoW X8 hx (hb hby at_303) rfl ((if0 _ _).trans (feq (by decide : ¬ ((1 : Int32) = (0 : Int32)))).1) rfl ?_
  refine xiconstW X8 hx (hb hby at_306) rfl ?_
  refine xgotoW X8 hx 307 311 rfl (hb hby at_307) rfl ?_
  show own_FinW p e below s _ _ _ (T8.setTop (mkF m 311 #[A0, A1, A2, A3, A4, A5, A6, A7, rv s3, B0, A8, B1, B2, A9, rv j, iv (1 : Int32), rv t, rv s3, iv (2 : Int32)] [J1]))
  refine xistoreW X8 hx (hb hby at_311) rfl (l' := #[A0, A1, A2, A3, A4, A5, A6, A7, rv s3, B0, A8, B1, B2, A9, rv j, iv (1 : Int32), rv t, rv s3, iv (2 : Int32)]) rfl rfl ?_
  refine xiloadW X8 hx (hb hby at_313) rfl rfl ?_
  exact own_retW X8 hlk hS0 e8 hk0 (v := some J1) (fun h => by rw [hret] at h; cases h) (by decide) (by decide) (by show own_Q80 Z A0 A1 A2 A3 A4 A5 A6 A7 s3 B0 A8 B1 B2 A9 j t zaa zab x0 x1 y2 y3 wvalue_s3 k_wvalue_s3 u0 u1 u2 u3 wvalue_t k_wvalue_t upieces_j h0 n0 _ T8.heap _; rw [e8]; exact ⟨rfl, N8⟩) (fun fs hr => retN X8 hx (t := .boolean) hret (by simp) (hb hby at_315) hr)

def own_Q81 (Z : State) (A0 : Slot) (A1 : Slot) (A2 : Slot) (A3 : Slot) (A4 : Slot) (A5 : Slot) (A6 : Slot) (A7 : Slot) (s3 : Addr) (B0 : Slot) (A8 : Slot) (B1 : Slot) (B2 : Slot) (A9 : Slot) (j : Addr) (t : Addr) (zaa : Int32) (zab : Value) (x0 : Int32) (x1 : Int32) (x2 : Int32) (x3 : Int32) (y2 : Int32) (y3 : Int32) (wvalue_s3 : Addr) (k_wvalue_s3 : ClassId) (u1 : Int32) (u2 : Int32) (u3 : Int32) (wvalue_t : Addr) (k_wvalue_t : ClassId) (upiece_j : Value) (wpieces_j : Addr) (wvalue_wpieces_j : Addr) (umaybeLatin1_wpieces_j : Value) (k_wvalue_wpieces_j : ClassId) (h0 : Heap) (n0 : Nat) (v : Option Value) (h : Heap) (L : List Loc) : Prop := v = some (.int 1) ∧ Fr n0 L
set_option maxRecDepth 65536 in
set_option maxHeartbeats 40000000 in
theorem own_rm81 (l : Launch) (Z : State) (a0 : Array Value) (hw : ∀ d ∈ tables_1, d.before a0 Z = true) (hs : ∀ d ∈ jdkStatics_1, d.before a0 Z = true) {p : Program} {e : Env} {s : State} {m : MethodId} {args : Array Value} {below : List Frame} {meth : Method} {c : Code} (hx : p.tables.exec = Jvm.exec) (hby : c.code = code) (hlk : meth.locks = false) (hml : c.maxLocals = 19) (hret : meth.sig.returnType = ret) (A0 : Slot) (A1 : Slot) (A2 : Slot) (A3 : Slot) (A4 : Slot) (A5 : Slot) (A6 : Slot) (A7 : Slot) (s3 : Addr) (B0 : Slot) (A8 : Slot) (B1 : Slot) (B2 : Slot) (A9 : Slot) (j : Addr) (t : Addr) (zaa : Int32) (zab : Value) (x0 : Int32) (x1 : Int32) (x2 : Int32) (x3 : Int32) (y2 : Int32) (y3 : Int32) (wvalue_s3 : Addr) (k_wvalue_s3 : ClassId) (u1 : Int32) (u2 : Int32) (u3 : Int32) (wvalue_t : Addr) (k_wvalue_t : ClassId) (upiece_j : Value) (wpieces_j : Addr) (wvalue_wpieces_j : Addr) (umaybeLatin1_wpieces_j : Value) (k_wvalue_wpieces_j : ClassId) (h0 : Heap) (n0 : Nat) (Z0 : n0 ≤ h0.size) {vm0 : Vm} {s₁ : State} {locs : List Loc} (X0 : Stand p l e room_1 (s.setVm vm0) m args below meth c s₁ locs 38 180) (e0 : s₁.heap = h0) (N0 : Fr n0 locs) {k0 : Nat} (hS0 : s.Since vm0 k0) (hk0 : k0 ≤ h0.size) (hZ : Z.Warmed39 (s.setVm vm0).vm) (hown : (s.setVm vm0).vm.findClass "com/example/nearfield/nearfield/JoinedTextClearPinLaw" = some m.cls) (zac : Sta Z h0 cN0 "COMPACT_STRINGS" "Z" (.int zaa)) (hcs : ¬ (zaa = (0 : Int32))) (zaf : zab.isRef = true) (zan : Sta Z h0 "jdk/internal/util/Preconditions" "SIOOBE_FORMATTER" "Ljava/util/function/BiFunction;" zab) (E_s3 : Exa Z h0 s3 cN0) (F_value_s3 : Fld Z h0 s3 cN0 "value" "[B" (.ref wvalue_s3)) (F_coder_s3 : Fld Z h0 s3 cN0 "coder" "B" J0) (A_wvalue_s3 : Arv Z h0 wvalue_s3 k_wvalue_s3 .byte (2 : Int32) [(.int x0), (.int x1), (.int y2), (.int y3)] J0) (E_t : Exa Z h0 t cN0) (F_value_t : Fld Z h0 t cN0 "value" "[B" (.ref wvalue_t)) (F_coder_t : Fld Z h0 t cN0 "coder" "B" J0) (A_wvalue_t : Arv Z h0 wvalue_t k_wvalue_t .byte (1 : Int32) [(.int x2), (.int u1), (.int u2), (.int u3)] J0) (E_j : Exa Z h0 j cN3) (F_joined_j : Fld Z h0 j cN3 "joined" "Z" J1) (F_piece_j : Fld Z h0 j cN3 "piece" "Ljava/lang/String;" upiece_j) (F_pieces_j : Fld Z h0 j cN3 "pieces" "Ljava/lang/StringBuilder;" (.ref wpieces_j)) (E_wpieces_j : Exa Z h0 wpieces_j cN1) (F_value_wpieces_j : Fld Z h0 wpieces_j cN2 "value" "[B" (.ref wvalue_wpieces_j)) (F_coder_wpieces_j : Fld Z h0 wpieces_j cN2 "coder" "B" J0) (F_count_wpieces_j : Fld Z h0 wpieces_j cN2 "count" "I" J3) (F_maybeLatin1_wpieces_j : Fld Z h0 wpieces_j cN2 "maybeLatin1" "Z" umaybeLatin1_wpieces_j) (A_wvalue_wpieces_j : Arv Z h0 wvalue_wpieces_j k_wvalue_wpieces_j .byte (16 : Int32) [(.int x0), (.int x1), (.int x2), (.int x3)] J0) :
    own_FinW p e below s room_1.cells room_1.slots (own_Q81 Z A0 A1 A2 A3 A4 A5 A6 A7 s3 B0 A8 B1 B2 A9 j t zaa zab x0 x1 x2 x3 y2 y3 wvalue_s3 k_wvalue_s3 u1 u2 u3 wvalue_t k_wvalue_t upiece_j wpieces_j wvalue_wpieces_j umaybeLatin1_wpieces_j k_wvalue_wpieces_j h0 n0) (s₁.setTop (mkF m 199 #[A0, A1, A2, A3, A4, A5, A6, A7, rv s3, B0, A8, B1, B2, A9, rv j, iv (1 : Int32), rv t, .unset, .unset] [])) := by
  have KR : Keep h0 h0 [] := Keep.refl _ _
  refine xaloadW X0 hx (hb hby at_199) rfl rfl rfl ?_
  refine oVW X0 hx hZ hown hml (w_ hw 167 rfl) (w_ hw 168 rfl) (w_ hw 170 rfl) (w_ hw 169 rfl) (own_rm64 hw hs j upiece_j wpieces_j wvalue_wpieces_j ((3 : Int32)) umaybeLatin1_wpieces_j k_wvalue_wpieces_j ([(.int x0), (.int x1), (.int x2), (.int x3)]) zaa h0 n0 Z0 E_j F_joined_j F_piece_j F_pieces_j ⟨E_wpieces_j, F_value_wpieces_j, F_coder_wpieces_j, F_count_wpieces_j, F_maybeLatin1_wpieces_j, A_wvalue_wpieces_j⟩ zac hcs (show ¬ ((3 : Int32) = (16 : Int32)) from (by first | decide | assumption | exact Nat.le_of_ble_eq_true rfl)) (show ¬ ((3 : Int32) < (0 : Int32)) from (by first | decide | assumption | exact Nat.le_of_ble_eq_true rfl)) (show (3 : Int32).toNatClampNeg ≤ 4 from (by first | decide | assumption | exact Nat.le_of_ble_eq_true rfl)) (show (3 : Int32) < (16 : Int32) from (by first | decide | assumption | exact Nat.le_of_ble_eq_true rfl)) (show (0 : Int32).toNatClampNeg + (3 : Int32).toNatClampNeg ≤ (16 : Int32).toNatClampNeg from (by first | decide | assumption | exact Nat.le_of_ble_eq_true rfl)) (show (0 : Int32).toNatClampNeg + (3 : Int32).toNatClampNeg ≤ [J0, J0, J0, J0].length from (by first | decide | assumption | exact Nat.le_of_ble_eq_true rfl))) (w_ hw 171 rfl) (w_ hw 32 rfl) e0 E_j [] [] 0 (lenOf own_pd30 rfl) rfl (hb hby at_201) rfl rfl rfl fun T1 L1 v1 X1 hQ1 => ?_
  obtain ⟨N1q, K1q, b1_o0, gg1_o0, sz1_o0, b1_o1, gg1_o1, sz1_o1, ko0_1, rfl, G2, G3, G4, G5⟩ := hQ1
  have N1 := Fr.app N0 N1q
  have ne1_o0_s3 : s3 ≠ b1_o0 := Nat.ne_of_lt (Nat.lt_of_lt_of_le E_s3.lt sz1_o0)
  have ne1_o0_t : t ≠ b1_o0 := Nat.ne_of_lt (Nat.lt_of_lt_of_le E_t.lt sz1_o0)
  have ne1_o1_wvalue_s3 : wvalue_s3 ≠ b1_o1 := Nat.ne_of_lt (Nat.lt_of_lt_of_le A_wvalue_s3.lt sz1_o1)
  have ne1_o1_wvalue_t : wvalue_t ≠ b1_o1 := Nat.ne_of_lt (Nat.lt_of_lt_of_le A_wvalue_t.lt sz1_o1)
  have ne1_o1_wvalue_wpieces_j : wvalue_wpieces_j ≠ b1_o1 := Nat.ne_of_lt (Nat.lt_of_lt_of_le A_wvalue_wpieces_j.lt sz1_o1)
  have K1 := KR.trans K1q own_a0
  have Z1 := Nat.le_trans Z0 K1q.1
  have sy1_o0 : h0.size ≤ b1_o0 := Nat.le_trans KR.1 sz1_o0
  have sy1_o1 : h0.size ≤ b1_o1 := Nat.le_trans KR.1 sz1_o1
  have hk1 := Nat.le_trans hk0 K1q.1
  obtain ⟨G6, G7, G8⟩ := own_k2 K1q nin0 E_s3 F_value_s3 F_coder_s3
  obtain ⟨G9, G10, G11⟩ := own_k2 K1q nin0 E_t F_value_t F_coder_t
  obtain ⟨G12, G13, G14, G15⟩ := own_k3 K1q nin0 E_j F_joined_j F_piece_j F_pieces_j
  obtain ⟨G16, G17, G18, G19, G20⟩ := own_k4 K1q nin0 E_wpieces_j F_value_wpieces_j F_coder_wpieces_j F_count_wpieces_j F_maybeLatin1_wpieces_j
  have G21 := (own_sta_keep0 zac K1q)
  have G22 := (own_sta_keep0 zan K1q)
  have G23 := (A_wvalue_s3.keep K1q nin0)
  have G24 := (A_wvalue_t.keep K1q nin0)
  have G25 := (A_wvalue_wpieces_j.keep K1q nin0)
  have G26 : Arv Z T1.heap b1_o1 ko0_1 .byte (3 : Int32) [(.int x0), (.int x1), (.int x2), J0] J0 := G5
  refine xastoreW X1 hx (hb hby at_204) rfl rfl (l' := #[A0, A1, A2, A3, A4, A5, A6, A7, rv s3, B0, A8, B1, B2, A9, rv j, iv (1 : Int32), rv t, rv b1_o0, .unset]) rfl rfl ?_
  refine xaloadW X1 hx (hb hby at_206) rfl rfl rfl ?_
  refine oVW X1 hx hZ hown hml (w_ hw 224 rfl) (w_ hw 108 rfl) (w_ hw 110 rfl) (w_ hw 109 rfl) (own_rm4 hw hs s3 wvalue_s3 k_wvalue_s3 ([(.int x0), (.int x1), (.int y2), (.int y3)]) ((2 : Int32)) zaa T1.heap n0 Z1 ⟨G6, G7, G8, G23⟩ G21 hcs) (w_ hw 111 rfl) (w_ hw 10 rfl) rfl G6 [] [] 0 (lenOf own_pd18 rfl) rfl (hb hby at_208) rfl rfl rfl fun T27 L27 v27 X27 hQ27 => ?_
  obtain ⟨rfl, N27q, e27⟩ := hQ27
  have N27 := Fr.app N1 N27q
  refine xaloadW X27 hx (hb hby at_211) rfl rfl rfl ?_
  refine oVW X27 hx hZ hown hml (w_ hw 224 rfl) (w_ hw 108 rfl) (w_ hw 110 rfl) (w_ hw 109 rfl) (own_rm4 hw hs t wvalue_t k_wvalue_t ([(.int x2), (.int u1), (.int u2), (.int u3)]) ((1 : Int32)) zaa T1.heap n0 Z1 ⟨G9, G10, G11, G24⟩ G21 hcs) (w_ hw 111 rfl) (w_ hw 10 rfl) e27 G9 [] [J2] 1 (lenOf own_pd18 rfl) rfl (hb hby at_213) rfl rfl rfl fun T28 L28 v28 X28 hQ28 => ?_
  obtain ⟨rfl, N28q, e28⟩ := hQ28
  have N28 := Fr.app N27 N28q
  refine xiaddW X28 hx (hb hby at_216) rfl rfl ?_
  show own_FinW p e below s _ _ _ (T28.setTop (mkF m 217 #[A0, A1, A2, A3, A4, A5, A6, A7, rv s3, B0, A8, B1, B2, A9, rv j, iv (1 : Int32), rv t, rv b1_o0, .unset] [(.int ((2 : Int32) + (1 : Int32)))]))
  rw [show ((2 : Int32) + (1 : Int32)) = (3 : Int32) from by decide]
  show own_FinW p e below s _ _ _ (T28.setTop (mkF m 217 #[A0, A1, A2, A3, A4, A5, A6, A7, rv s3, B0, A8, B1, B2, A9, rv j, iv (1 : Int32), rv t, rv b1_o0, .unset] [J3]))
  refine xistoreW X28 hx (hb hby at_217) rfl (l' := #[A0, A1, A2, A3, A4, A5, A6, A7, rv s3, B0, A8, B1, B2, A9, rv j, iv (1 : Int32), rv t, rv b1_o0, iv (3 : Int32)]) rfl rfl ?_
  refine xiloadW X28 hx (hb hby at_219) rfl rfl ?_
  refine xifNoW X28 hx (hb hby at_221) rfl ((if0 _ _).trans (feq (by decide : ¬ ((1 : Int32) = (0 : Int32)))).1) rfl ?_
  refine xaloadW X28 hx (hb hby at_224) rfl rfl rfl ?_
  refine oVW X28 hx hZ hown hml (w_ hw 161 rfl) (w_ hw 162 rfl) (w_ hw 164 rfl) (w_ hw 163 rfl) (own_rm62 hw hs j wpieces_j ((3 : Int32)) T1.heap n0 Z1 G12 G13 G15 G16 G19) (w_ hw 165 rfl) (w_ hw 32 rfl) e28 G12 [] [] 0 (lenOf own_pd18 rfl) rfl (hb hby at_226) rfl rfl rfl fun T29 L29 v29 X29 hQ29 => ?_
  obtain ⟨rfl, N29q, e29⟩ := hQ29
  have N29 := Fr.app N28 N29q
  refine xiloadW X29 hx (hb hby at_229) rfl rfl ?_
  refine xicmpNoW X29 hx (hb hby at_231) rfl (teq (by decide : (3 : Int32) = (3 : Int32))).2 rfl ?_
  refine xiconstW X29 hx (hb hby at_234) rfl ?_
  refine xgotoW X29 hx 235 239 rfl (hb hby at_235) rfl ?_
  refine xistoreW X29 hx (hb hby at_239) rfl (l' := #[A0, A1, A2, A3, A4, A5, A6, A7, rv s3, B0, A8, B1, B2, A9, rv j, iv (1 : Int32), rv t, rv b1_o0, iv (3 : Int32)]) rfl rfl ?_
  show own_FinW p e below s _ _ _ (T29.setTop (mkF m 241 #[A0, A1, A2, A3, A4, A5, A6, A7, rv s3, B0, A8, B1, B2, A9, rv j, iv (1 : Int32), rv t, rv b1_o0, iv (3 : Int32)] []))
  refine xiloadW X29 hx (hb hby at_241) rfl rfl ?_
  refine xifNoW X29 hx (hb hby at_243) rfl ((if0 _ _).trans (feq (by decide : ¬ ((1 : Int32) = (0 : Int32)))).1) rfl ?_
  refine xaloadW X29 hx (hb hby at_246) rfl rfl rfl ?_
  refine oVW X29 hx hZ hown hml (w_ hw 224 rfl) (w_ hw 108 rfl) (w_ hw 110 rfl) (w_ hw 109 rfl) (own_rm4 hw hs b1_o0 b1_o1 ko0_1 ([(.int x0), (.int x1), (.int x2), J0]) ((3 : Int32)) zaa T1.heap n0 Z1 ⟨G2, G4, G3, G26⟩ G21 hcs) (w_ hw 111 rfl) (w_ hw 10 rfl) e29 G2 [] [] 0 (lenOf own_pd18 rfl) rfl (hb hby at_248) rfl rfl rfl fun T30 L30 v30 X30 hQ30 => ?_
  obtain ⟨rfl, N30q, e30⟩ := hQ30
  have N30 := Fr.app N29 N30q
  refine xiloadW X30 hx (hb hby at_251) rfl rfl ?_
  refine xicmpNoW X30 hx (hb hby at_253) rfl (teq (by decide : (3 : Int32) = (3 : Int32))).2 rfl ?_
  refine xiconstW X30 hx (hb hby at_256) rfl ?_
  refine xgotoW X30 hx 257 261 rfl (hb hby at_257) rfl ?_
  refine xistoreW X30 hx (hb hby at_261) rfl (l' := #[A0, A1, A2, A3, A4, A5, A6, A7, rv s3, B0, A8, B1, B2, A9, rv j, iv (1 : Int32), rv t, rv b1_o0, iv (3 : Int32)]) rfl rfl ?_
  refine xiloadW X30 hx (hb hby at_263) rfl rfl ?_
  show own_FinW p e below s _ _ _ (T30.setTop (mkF m 265 #[A0, A1, A2, A3, A4, A5, A6, A7, rv s3, B0, A8, B1, B2, A9, rv j, iv (1 : Int32), rv t, rv b1_o0, iv (3 : Int32)] [J1]))
  refine xifNoW X30 hx (hb hby at_265) rfl ((if0 _ _).trans (feq (by decide : ¬ ((1 : Int32) = (0 : Int32)))).1) rfl ?_
  refine xaloadW X30 hx (hb hby at_268) rfl rfl rfl ?_
  refine xiconstW X30 hx (hb hby at_270) rfl ?_
  refine xaloadW X30 hx (hb hby at_271) rfl rfl rfl ?_
  refine oCW X30 hx hZ hown hml (w_ hw 228 rfl) (w_ hw 229 rfl) (own_rm66 hw hs b1_o0 s3 zaa zab x0 x1 x2 ((0 : Int32)) y2 y3 b1_o1 ko0_1 ((3 : Int32)) wvalue_s3 k_wvalue_s3 T1.heap n0 Z1 G21 zaf G22 ⟨G2, G4, G3, G26⟩ (show ¬ ((3 : Int32) < (2 : Int32)) from (by first | decide | assumption | exact Nat.le_of_ble_eq_true rfl)) ⟨G6, G7, G8, G23⟩ hcs) (w_ hw 230 rfl) (w_ hw 2 rfl) e30 [(.ref b1_o0), J0, (.ref s3)] [] 0 (lenOf own_pd32 rfl) rfl (hb hby at_273) rfl rfl rfl fun T31 L31 v31 X31 hQ31 => ?_
  obtain ⟨rfl, N31q, e31⟩ := hQ31
  have N31 := Fr.app N30 N31q
  refine xifNoW X31 hx (hb hby at_276) rfl ((if0 _ _).trans (feq (by decide : ¬ ((1 : Int32) = (0 : Int32)))).1) rfl ?_
  refine xiconstW X31 hx (hb hby at_279) rfl ?_
  refine xgotoW X31 hx 280 284 rfl (hb hby at_280) rfl ?_
  refine xistoreW X31 hx (hb hby at_284) rfl (l' := #[A0, A1, A2, A3, A4, A5, A6, A7, rv s3, B0, A8, B1, B2, A9, rv j, iv (1 : Int32), rv t, rv b1_o0, iv (3 : Int32)]) rfl rfl ?_
  refine xiloadW X31 hx (hb hby at_286) rfl rfl ?_
  show own_FinW p e below s _ _ _ (T31.setTop (mkF m 288 #[A0, A1, A2, A3, A4, A5, A6, A7, rv s3, B0, A8, B1, B2, A9, rv j, iv (1 : Int32), rv t, rv b1_o0, iv (3 : Int32)] [J1]))
  refine xifNoW X31 hx (hb hby at_288) rfl ((if0 _ _).trans (feq (by decide : ¬ ((1 : Int32) = (0 : Int32)))).1) rfl ?_
  refine xaloadW X31 hx (hb hby at_291) rfl rfl rfl ?_
  refine xaloadW X31 hx (hb hby at_293) rfl rfl rfl ?_
  refine oVW X31 hx hZ hown hml (w_ hw 224 rfl) (w_ hw 108 rfl) (w_ hw 110 rfl) (w_ hw 109 rfl) (own_rm4 hw hs s3 wvalue_s3 k_wvalue_s3 ([(.int x0), (.int x1), (.int y2), (.int y3)]) ((2 : Int32)) zaa T1.heap n0 Z1 ⟨G6, G7, G8, G23⟩ G21 hcs) (w_ hw 111 rfl) (w_ hw 10 rfl) e31 G6 [] [(.ref b1_o0)] 1 (lenOf own_pd18 rfl) rfl (hb hby at_295) rfl rfl rfl fun T32 L32 v32 X32 hQ32 => ?_
  obtain ⟨rfl, N32q, e32⟩ := hQ32
  have N32 := Fr.app N31 N32q
  refine xaloadW X32 hx (hb hby at_298) rfl rfl rfl ?_
  refine oCW X32 hx hZ hown hml (w_ hw 228 rfl) (w_ hw 229 rfl) (own_rm69 hw hs b1_o0 t zaa zab x0 x1 x2 ((0 : Int32)) u1 u2 u3 b1_o1 ko0_1 ((3 : Int32)) wvalue_t k_wvalue_t T1.heap n0 Z1 G21 zaf G22 ⟨G2, G4, G3, G26⟩ (show ¬ ((3 : Int32) < (3 : Int32)) from (by first | decide | assumption | exact Nat.le_of_ble_eq_true rfl)) ⟨G9, G10, G11, G24⟩ hcs) (w_ hw 230 rfl) (w_ hw 2 rfl) e32 [(.ref b1_o0), J2, (.ref t)] [] 0 (lenOf own_pd32 rfl) rfl (hb hby at_300) rfl rfl rfl fun T33 L33 v33 X33 hQ33 => ?_
  obtain ⟨rfl, N33q, e33⟩ := hQ33
  have N33 := Fr.app N32 N33q
  refine xifNoW X33 hx (hb hby at_303) rfl ((if0 _ _).trans (feq (by decide : ¬ ((1 : Int32) = (0 : Int32)))).1) rfl ?_
  refine xiconstW X33 hx (hb hby at_306) rfl ?_
  refine xgotoW X33 hx 307 311 rfl (hb hby at_307) rfl ?_
  show own_FinW p e below s _ _ _ (T33.setTop (mkF m 311 #[A0, A1, A2, A3, A4, A5, A6, A7, rv s3, B0, A8, B1, B2, A9, rv j, iv (1 : Int32), rv t, rv b1_o0, iv (3 : Int32)] [J1]))
  refine xistoreW X33 hx (hb hby at_311) rfl (l' := #[A0, A1, A2, A3, A4, A5, A6, A7, rv s3, B0, A8, B1, B2, A9, rv j, iv (1 : Int32), rv t, rv b1_o0, iv (3 : Int32)]) rfl rfl ?_
  refine xiloadW X33 hx (hb hby at_313) rfl rfl ?_
  exact own_retW X33 hlk hS0 e33 hk1 (v := some J1) (fun h => by rw [hret] at h; cases h) (by decide) (by decide) (by show own_Q81 Z A0 A1 A2 A3 A4 A5 A6 A7 s3 B0 A8 B1 B2 A9 j t zaa zab x0 x1 x2 x3 y2 y3 wvalue_s3 k_wvalue_s3 u1 u2 u3 wvalue_t k_wvalue_t upiece_j wpieces_j wvalue_wpieces_j umaybeLatin1_wpieces_j k_wvalue_wpieces_j h0 n0 _ T33.heap _; rw [e33]; exact ⟨rfl, N33⟩) (fun fs hr => retN X33 hx (t := .boolean) hret (by simp) (hb hby at_315) hr)

def own_Q82 (Z : State) (A0 : Slot) (A1 : Slot) (A2 : Slot) (A3 : Slot) (A4 : Slot) (A5 : Slot) (A6 : Slot) (A7 : Slot) (s3 : Addr) (B0 : Slot) (A8 : Slot) (B1 : Slot) (B2 : Slot) (A9 : Slot) (j : Addr) (t : Addr) (zaa : Int32) (zab : Value) (x0 : Int32) (x1 : Int32) (x2 : Int32) (x3 : Int32) (y2 : Int32) (y3 : Int32) (wvalue_s3 : Addr) (k_wvalue_s3 : ClassId) (u2 : Int32) (u3 : Int32) (wvalue_t : Addr) (k_wvalue_t : ClassId) (upiece_j : Value) (wpieces_j : Addr) (wvalue_wpieces_j : Addr) (umaybeLatin1_wpieces_j : Value) (k_wvalue_wpieces_j : ClassId) (h0 : Heap) (n0 : Nat) (v : Option Value) (h : Heap) (L : List Loc) : Prop := v = some (.int 1) ∧ Fr n0 L
set_option maxRecDepth 65536 in
set_option maxHeartbeats 40000000 in
theorem own_rm82 (l : Launch) (Z : State) (a0 : Array Value) (hw : ∀ d ∈ tables_1, d.before a0 Z = true) (hs : ∀ d ∈ jdkStatics_1, d.before a0 Z = true) {p : Program} {e : Env} {s : State} {m : MethodId} {args : Array Value} {below : List Frame} {meth : Method} {c : Code} (hx : p.tables.exec = Jvm.exec) (hby : c.code = code) (hlk : meth.locks = false) (hml : c.maxLocals = 19) (hret : meth.sig.returnType = ret) (A0 : Slot) (A1 : Slot) (A2 : Slot) (A3 : Slot) (A4 : Slot) (A5 : Slot) (A6 : Slot) (A7 : Slot) (s3 : Addr) (B0 : Slot) (A8 : Slot) (B1 : Slot) (B2 : Slot) (A9 : Slot) (j : Addr) (t : Addr) (zaa : Int32) (zab : Value) (x0 : Int32) (x1 : Int32) (x2 : Int32) (x3 : Int32) (y2 : Int32) (y3 : Int32) (wvalue_s3 : Addr) (k_wvalue_s3 : ClassId) (u2 : Int32) (u3 : Int32) (wvalue_t : Addr) (k_wvalue_t : ClassId) (upiece_j : Value) (wpieces_j : Addr) (wvalue_wpieces_j : Addr) (umaybeLatin1_wpieces_j : Value) (k_wvalue_wpieces_j : ClassId) (h0 : Heap) (n0 : Nat) (Z0 : n0 ≤ h0.size) {vm0 : Vm} {s₁ : State} {locs : List Loc} (X0 : Stand p l e room_1 (s.setVm vm0) m args below meth c s₁ locs 38 180) (e0 : s₁.heap = h0) (N0 : Fr n0 locs) {k0 : Nat} (hS0 : s.Since vm0 k0) (hk0 : k0 ≤ h0.size) (hZ : Z.Warmed39 (s.setVm vm0).vm) (hown : (s.setVm vm0).vm.findClass "com/example/nearfield/nearfield/JoinedTextClearPinLaw" = some m.cls) (zac : Sta Z h0 cN0 "COMPACT_STRINGS" "Z" (.int zaa)) (hcs : ¬ (zaa = (0 : Int32))) (zaf : zab.isRef = true) (zan : Sta Z h0 "jdk/internal/util/Preconditions" "SIOOBE_FORMATTER" "Ljava/util/function/BiFunction;" zab) (E_s3 : Exa Z h0 s3 cN0) (F_value_s3 : Fld Z h0 s3 cN0 "value" "[B" (.ref wvalue_s3)) (F_coder_s3 : Fld Z h0 s3 cN0 "coder" "B" J0) (A_wvalue_s3 : Arv Z h0 wvalue_s3 k_wvalue_s3 .byte (2 : Int32) [(.int x0), (.int x1), (.int y2), (.int y3)] J0) (E_t : Exa Z h0 t cN0) (F_value_t : Fld Z h0 t cN0 "value" "[B" (.ref wvalue_t)) (F_coder_t : Fld Z h0 t cN0 "coder" "B" J0) (A_wvalue_t : Arv Z h0 wvalue_t k_wvalue_t .byte (2 : Int32) [(.int x2), (.int x3), (.int u2), (.int u3)] J0) (E_j : Exa Z h0 j cN3) (F_joined_j : Fld Z h0 j cN3 "joined" "Z" J1) (F_piece_j : Fld Z h0 j cN3 "piece" "Ljava/lang/String;" upiece_j) (F_pieces_j : Fld Z h0 j cN3 "pieces" "Ljava/lang/StringBuilder;" (.ref wpieces_j)) (E_wpieces_j : Exa Z h0 wpieces_j cN1) (F_value_wpieces_j : Fld Z h0 wpieces_j cN2 "value" "[B" (.ref wvalue_wpieces_j)) (F_coder_wpieces_j : Fld Z h0 wpieces_j cN2 "coder" "B" J0) (F_count_wpieces_j : Fld Z h0 wpieces_j cN2 "count" "I" J4) (F_maybeLatin1_wpieces_j : Fld Z h0 wpieces_j cN2 "maybeLatin1" "Z" umaybeLatin1_wpieces_j) (A_wvalue_wpieces_j : Arv Z h0 wvalue_wpieces_j k_wvalue_wpieces_j .byte (16 : Int32) [(.int x0), (.int x1), (.int x2), (.int x3)] J0) :
    own_FinW p e below s room_1.cells room_1.slots (own_Q82 Z A0 A1 A2 A3 A4 A5 A6 A7 s3 B0 A8 B1 B2 A9 j t zaa zab x0 x1 x2 x3 y2 y3 wvalue_s3 k_wvalue_s3 u2 u3 wvalue_t k_wvalue_t upiece_j wpieces_j wvalue_wpieces_j umaybeLatin1_wpieces_j k_wvalue_wpieces_j h0 n0) (s₁.setTop (mkF m 199 #[A0, A1, A2, A3, A4, A5, A6, A7, rv s3, B0, A8, B1, B2, A9, rv j, iv (1 : Int32), rv t, .unset, .unset] [])) := by
  have KR : Keep h0 h0 [] := Keep.refl _ _
  refine xaloadW X0 hx (hb hby at_199) rfl rfl rfl ?_
  refine oVW X0 hx hZ hown hml (w_ hw 167 rfl) (w_ hw 168 rfl) (w_ hw 170 rfl) (w_ hw 169 rfl) (own_rm64 hw hs j upiece_j wpieces_j wvalue_wpieces_j ((4 : Int32)) umaybeLatin1_wpieces_j k_wvalue_wpieces_j ([(.int x0), (.int x1), (.int x2), (.int x3)]) zaa h0 n0 Z0 E_j F_joined_j F_piece_j F_pieces_j ⟨E_wpieces_j, F_value_wpieces_j, F_coder_wpieces_j, F_count_wpieces_j, F_maybeLatin1_wpieces_j, A_wvalue_wpieces_j⟩ zac hcs (show ¬ ((4 : Int32) = (16 : Int32)) from (by first | decide | assumption | exact Nat.le_of_ble_eq_true rfl)) (show ¬ ((4 : Int32) < (0 : Int32)) from (by first | decide | assumption | exact Nat.le_of_ble_eq_true rfl)) (show (4 : Int32).toNatClampNeg ≤ 4 from (by first | decide | assumption | exact Nat.le_of_ble_eq_true rfl)) (show (4 : Int32) < (16 : Int32) from (by first | decide | assumption | exact Nat.le_of_ble_eq_true rfl)) (show (0 : Int32).toNatClampNeg + (4 : Int32).toNatClampNeg ≤ (16 : Int32).toNatClampNeg from (by first | decide | assumption | exact Nat.le_of_ble_eq_true rfl)) (show (0 : Int32).toNatClampNeg + (4 : Int32).toNatClampNeg ≤ [J0, J0, J0, J0].length from (by first | decide | assumption | exact Nat.le_of_ble_eq_true rfl))) (w_ hw 171 rfl) (w_ hw 32 rfl) e0 E_j [] [] 0 (lenOf own_pd30 rfl) rfl (hb hby at_201) rfl rfl rfl fun T1 L1 v1 X1 hQ1 => ?_
  obtain ⟨N1q, K1q, b1_o0, gg1_o0, sz1_o0, b1_o1, gg1_o1, sz1_o1, ko0_1, rfl, G2, G3, G4, G5⟩ := hQ1
  have N1 := Fr.app N0 N1q
  have ne1_o0_s3 : s3 ≠ b1_o0 := Nat.ne_of_lt (Nat.lt_of_lt_of_le E_s3.lt sz1_o0)
  have ne1_o0_t : t ≠ b1_o0 := Nat.ne_of_lt (Nat.lt_of_lt_of_le E_t.lt sz1_o0)
  have ne1_o1_wvalue_s3 : wvalue_s3 ≠ b1_o1 := Nat.ne_of_lt (Nat.lt_of_lt_of_le A_wvalue_s3.lt sz1_o1)
  have ne1_o1_wvalue_t : wvalue_t ≠ b1_o1 := Nat.ne_of_lt (Nat.lt_of_lt_of_le A_wvalue_t.lt sz1_o1)
  have ne1_o1_wvalue_wpieces_j : wvalue_wpieces_j ≠ b1_o1 := Nat.ne_of_lt (Nat.lt_of_lt_of_le A_wvalue_wpieces_j.lt sz1_o1)
  have K1 := KR.trans K1q own_a0
  have Z1 := Nat.le_trans Z0 K1q.1
  have sy1_o0 : h0.size ≤ b1_o0 := Nat.le_trans KR.1 sz1_o0
  have sy1_o1 : h0.size ≤ b1_o1 := Nat.le_trans KR.1 sz1_o1
  have hk1 := Nat.le_trans hk0 K1q.1
  obtain ⟨G6, G7, G8⟩ := own_k2 K1q nin0 E_s3 F_value_s3 F_coder_s3
  obtain ⟨G9, G10, G11⟩ := own_k2 K1q nin0 E_t F_value_t F_coder_t
  obtain ⟨G12, G13, G14, G15⟩ := own_k3 K1q nin0 E_j F_joined_j F_piece_j F_pieces_j
  obtain ⟨G16, G17, G18, G19, G20⟩ := own_k4 K1q nin0 E_wpieces_j F_value_wpieces_j F_coder_wpieces_j F_count_wpieces_j F_maybeLatin1_wpieces_j
  have G21 := (own_sta_keep0 zac K1q)
  have G22 := (own_sta_keep0 zan K1q)
  have G23 := (A_wvalue_s3.keep K1q nin0)
  have G24 := (A_wvalue_t.keep K1q nin0)
  have G25 := (A_wvalue_wpieces_j.keep K1q nin0)
  have G26 : Arv Z T1.heap b1_o1 ko0_1 .byte (4 : Int32) [(.int x0), (.int x1), (.int x2), (.int x3)] J0 := G5
  refine xastoreW X1 hx (hb hby at_204) rfl rfl (l' := #[A0, A1, A2, A3, A4, A5, A6, A7, rv s3, B0, A8, B1, B2, A9, rv j, iv (1 : Int32), rv t, rv b1_o0, .unset]) rfl rfl ?_
  refine xaloadW X1 hx (hb hby at_206) rfl rfl rfl ?_
  refine oVW X1 hx hZ hown hml (w_ hw 224 rfl) (w_ hw 108 rfl) (w_ hw 110 rfl) (w_ hw 109 rfl) (own_rm4 hw hs s3 wvalue_s3 k_wvalue_s3 ([(.int x0), (.int x1), (.int y2), (.int y3)]) ((2 : Int32)) zaa T1.heap n0 Z1 ⟨G6, G7, G8, G23⟩ G21 hcs) (w_ hw 111 rfl) (w_ hw 10 rfl) rfl G6 [] [] 0 (lenOf own_pd18 rfl) rfl (hb hby at_208) rfl rfl rfl fun T27 L27 v27 X27 hQ27 => ?_
  obtain ⟨rfl, N27q, e27⟩ := hQ27
  have N27 := Fr.app N1 N27q
  refine xaloadW X27 hx (hb hby at_211) rfl rfl rfl ?_
  refine oVW X27 hx hZ hown hml (w_ hw 224 rfl) (w_ hw 108 rfl) (w_ hw 110 rfl) (w_ hw 109 rfl) (own_rm4 hw hs t wvalue_t k_wvalue_t ([(.int x2), (.int x3), (.int u2), (.int u3)]) ((2 : Int32)) zaa T1.heap n0 Z1 ⟨G9, G10, G11, G24⟩ G21 hcs) (w_ hw 111 rfl) (w_ hw 10 rfl) e27 G9 [] [J2] 1 (lenOf own_pd18 rfl) rfl (hb hby at_213) rfl rfl rfl fun T28 L28 v28 X28 hQ28 => ?_
  obtain ⟨rfl, N28q, e28⟩ := hQ28
  have N28 := Fr.app N27 N28q
  refine xiaddW X28 hx (hb hby at_216) rfl rfl ?_
  show own_FinW p e below s _ _ _ (T28.setTop (mkF m 217 #[A0, A1, A2, A3, A4, A5, A6, A7, rv s3, B0, A8, B1, B2, A9, rv j, iv (1 : Int32), rv t, rv b1_o0, .unset] [(.int ((2 : Int32) + (2 : Int32)))]))
  rw [show ((2 : Int32) + (2 : Int32)) = (4 : Int32) from by decide]
  show own_FinW p e below s _ _ _ (T28.setTop (mkF m 217 #[A0, A1, A2, A3, A4, A5, A6, A7, rv s3, B0, A8, B1, B2, A9, rv j, iv (1 : Int32), rv t, rv b1_o0, .unset] [J4]))
  refine xistoreW X28 hx (hb hby at_217) rfl (l' := #[A0, A1, A2, A3, A4, A5, A6, A7, rv s3, B0, A8, B1, B2, A9, rv j, iv (1 : Int32), rv t, rv b1_o0, iv (4 : Int32)]) rfl rfl ?_
  refine xiloadW X28 hx (hb hby at_219) rfl rfl ?_
  refine xifNoW X28 hx (hb hby at_221) rfl ((if0 _ _).trans (feq (by decide : ¬ ((1 : Int32) = (0 : Int32)))).1) rfl ?_
  refine xaloadW X28 hx (hb hby at_224) rfl rfl rfl ?_
  refine oVW X28 hx hZ hown hml (w_ hw 161 rfl) (w_ hw 162 rfl) (w_ hw 164 rfl) (w_ hw 163 rfl) (own_rm62 hw hs j wpieces_j ((4 : Int32)) T1.heap n0 Z1 G12 G13 G15 G16 G19) (w_ hw 165 rfl) (w_ hw 32 rfl) e28 G12 [] [] 0 (lenOf own_pd18 rfl) rfl (hb hby at_226) rfl rfl rfl fun T29 L29 v29 X29 hQ29 => ?_
  obtain ⟨rfl, N29q, e29⟩ := hQ29
  have N29 := Fr.app N28 N29q
  refine xiloadW X29 hx (hb hby at_229) rfl rfl ?_
  refine xicmpNoW X29 hx (hb hby at_231) rfl (teq (by decide : (4 : Int32) = (4 : Int32))).2 rfl ?_
  refine xiconstW X29 hx (hb hby at_234) rfl ?_
  refine xgotoW X29 hx 235 239 rfl (hb hby at_235) rfl ?_
  refine xistoreW X29 hx (hb hby at_239) rfl (l' := #[A0, A1, A2, A3, A4, A5, A6, A7, rv s3, B0, A8, B1, B2, A9, rv j, iv (1 : Int32), rv t, rv b1_o0, iv (4 : Int32)]) rfl rfl ?_
  show own_FinW p e below s _ _ _ (T29.setTop (mkF m 241 #[A0, A1, A2, A3, A4, A5, A6, A7, rv s3, B0, A8, B1, B2, A9, rv j, iv (1 : Int32), rv t, rv b1_o0, iv (4 : Int32)] []))
  refine xiloadW X29 hx (hb hby at_241) rfl rfl ?_
  refine xifNoW X29 hx (hb hby at_243) rfl ((if0 _ _).trans (feq (by decide : ¬ ((1 : Int32) = (0 : Int32)))).1) rfl ?_
  refine xaloadW X29 hx (hb hby at_246) rfl rfl rfl ?_
  refine oVW X29 hx hZ hown hml (w_ hw 224 rfl) (w_ hw 108 rfl) (w_ hw 110 rfl) (w_ hw 109 rfl) (own_rm4 hw hs b1_o0 b1_o1 ko0_1 ([(.int x0), (.int x1), (.int x2), (.int x3)]) ((4 : Int32)) zaa T1.heap n0 Z1 ⟨G2, G4, G3, G26⟩ G21 hcs) (w_ hw 111 rfl) (w_ hw 10 rfl) e29 G2 [] [] 0 (lenOf own_pd18 rfl) rfl (hb hby at_248) rfl rfl rfl fun T30 L30 v30 X30 hQ30 => ?_
  obtain ⟨rfl, N30q, e30⟩ := hQ30
  have N30 := Fr.app N29 N30q
  refine xiloadW X30 hx (hb hby at_251) rfl rfl ?_
  refine xicmpNoW X30 hx (hb hby at_253) rfl (teq (by decide : (4 : Int32) = (4 : Int32))).2 rfl ?_
  refine xiconstW X30 hx (hb hby at_256) rfl ?_
  refine xgotoW X30 hx 257 261 rfl (hb hby at_257) rfl ?_
  refine xistoreW X30 hx (hb hby at_261) rfl (l' := #[A0, A1, A2, A3, A4, A5, A6, A7, rv s3, B0, A8, B1, B2, A9, rv j, iv (1 : Int32), rv t, rv b1_o0, iv (4 : Int32)]) rfl rfl ?_
  refine xiloadW X30 hx (hb hby at_263) rfl rfl ?_
  show own_FinW p e below s _ _ _ (T30.setTop (mkF m 265 #[A0, A1, A2, A3, A4, A5, A6, A7, rv s3, B0, A8, B1, B2, A9, rv j, iv (1 : Int32), rv t, rv b1_o0, iv (4 : Int32)] [J1]))
  refine xifNoW X30 hx (hb hby at_265) rfl ((if0 _ _).trans (feq (by decide : ¬ ((1 : Int32) = (0 : Int32)))).1) rfl ?_
  refine xaloadW X30 hx (hb hby at_268) rfl rfl rfl ?_
  refine xiconstW X30 hx (hb hby at_270) rfl ?_
  refine xaloadW X30 hx (hb hby at_271) rfl rfl rfl ?_
  refine oCW X30 hx hZ hown hml (w_ hw 228 rfl) (w_ hw 229 rfl) (own_rm66 hw hs b1_o0 s3 zaa zab x0 x1 x2 x3 y2 y3 b1_o1 ko0_1 ((4 : Int32)) wvalue_s3 k_wvalue_s3 T1.heap n0 Z1 G21 zaf G22 ⟨G2, G4, G3, G26⟩ (show ¬ ((4 : Int32) < (2 : Int32)) from (by first | decide | assumption | exact Nat.le_of_ble_eq_true rfl)) ⟨G6, G7, G8, G23⟩ hcs) (w_ hw 230 rfl) (w_ hw 2 rfl) e30 [(.ref b1_o0), J0, (.ref s3)] [] 0 (lenOf own_pd32 rfl) rfl (hb hby at_273) rfl rfl rfl fun T31 L31 v31 X31 hQ31 => ?_
  obtain ⟨rfl, N31q, e31⟩ := hQ31
  have N31 := Fr.app N30 N31q
  refine xifNoW X31 hx (hb hby at_276) rfl ((if0 _ _).trans (feq (by decide : ¬ ((1 : Int32) = (0 : Int32)))).1) rfl ?_
  refine xiconstW X31 hx (hb hby at_279) rfl ?_
  refine xgotoW X31 hx 280 284 rfl (hb hby at_280) rfl ?_
  refine xistoreW X31 hx (hb hby at_284) rfl (l' := #[A0, A1, A2, A3, A4, A5, A6, A7, rv s3, B0, A8, B1, B2, A9, rv j, iv (1 : Int32), rv t, rv b1_o0, iv (4 : Int32)]) rfl rfl ?_
  refine xiloadW X31 hx (hb hby at_286) rfl rfl ?_
  show own_FinW p e below s _ _ _ (T31.setTop (mkF m 288 #[A0, A1, A2, A3, A4, A5, A6, A7, rv s3, B0, A8, B1, B2, A9, rv j, iv (1 : Int32), rv t, rv b1_o0, iv (4 : Int32)] [J1]))
  refine xifNoW X31 hx (hb hby at_288) rfl ((if0 _ _).trans (feq (by decide : ¬ ((1 : Int32) = (0 : Int32)))).1) rfl ?_
  refine xaloadW X31 hx (hb hby at_291) rfl rfl rfl ?_
  refine xaloadW X31 hx (hb hby at_293) rfl rfl rfl ?_
  refine oVW X31 hx hZ hown hml (w_ hw 224 rfl) (w_ hw 108 rfl) (w_ hw 110 rfl) (w_ hw 109 rfl) (own_rm4 hw hs s3 wvalue_s3 k_wvalue_s3 ([(.int x0), (.int x1), (.int y2), (.int y3)]) ((2 : Int32)) zaa T1.heap n0 Z1 ⟨G6, G7, G8, G23⟩ G21 hcs) (w_ hw 111 rfl) (w_ hw 10 rfl) e31 G6 [] [(.ref b1_o0)] 1 (lenOf own_pd18 rfl) rfl (hb hby at_295) rfl rfl rfl fun T32 L32 v32 X32 hQ32 => ?_
  obtain ⟨rfl, N32q, e32⟩ := hQ32
  have N32 := Fr.app N31 N32q
  refine xaloadW X32 hx (hb hby at_298) rfl rfl rfl ?_
  refine oCW X32 hx hZ hown hml (w_ hw 228 rfl) (w_ hw 229 rfl) (own_rm70 hw hs b1_o0 t zaa zab x0 x1 x2 x3 u2 u3 b1_o1 ko0_1 ((4 : Int32)) wvalue_t k_wvalue_t T1.heap n0 Z1 G21 zaf G22 ⟨G2, G4, G3, G26⟩ (show ¬ ((4 : Int32) < (4 : Int32)) from (by first | decide | assumption | exact Nat.le_of_ble_eq_true rfl)) ⟨G9, G10, G11, G24⟩ hcs) (w_ hw 230 rfl) (w_ hw 2 rfl) e32 [(.ref b1_o0), J2, (.ref t)] [] 0 (lenOf own_pd32 rfl) rfl (hb hby at_300) rfl rfl rfl fun T33 L33 v33 X33 hQ33 => ?_
  obtain ⟨rfl, N33q, e33⟩ := hQ33
  have N33 := Fr.app N32 N33q
  refine xifNoW X33 hx (hb hby at_303) rfl ((if0 _ _).trans (feq (by decide : ¬ ((1 : Int32) = (0 : Int32)))).1) rfl ?_
  refine xiconstW X33 hx (hb hby at_306) rfl ?_
  refine xgotoW X33 hx 307 311 rfl (hb hby at_307) rfl ?_
  show own_FinW p e below s _ _ _ (T33.setTop (mkF m 311 #[A0, A1, A2, A3, A4, A5, A6, A7, rv s3, B0, A8, B1, B2, A9, rv j, iv (1 : Int32), rv t, rv b1_o0, iv (4 : Int32)] [J1]))
  refine xistoreW X33 hx (hb hby at_311) rfl (l' := #[A0, A1, A2, A3, A4, A5, A6, A7, rv s3, B0, A8, B1, B2, A9, rv j, iv (1 : Int32), rv t, rv b1_o0, iv (4 : Int32)]) rfl rfl ?_
  refine xiloadW X33 hx (hb hby at_313) rfl rfl ?_
  exact own_retW X33 hlk hS0 e33 hk1 (v := some J1) (fun h => by rw [hret] at h; cases h) (by decide) (by decide) (by show own_Q82 Z A0 A1 A2 A3 A4 A5 A6 A7 s3 B0 A8 B1 B2 A9 j t zaa zab x0 x1 x2 x3 y2 y3 wvalue_s3 k_wvalue_s3 u2 u3 wvalue_t k_wvalue_t upiece_j wpieces_j wvalue_wpieces_j umaybeLatin1_wpieces_j k_wvalue_wpieces_j h0 n0 _ T33.heap _; rw [e33]; exact ⟨rfl, N33⟩) (fun fs hr => retN X33 hx (t := .boolean) hret (by simp) (hb hby at_315) hr)

theorem own_pd33 : parseMethodDescriptor "(C)V" = some ⟨[.char], none⟩ := by decide +kernel
def own_Q83 (Z : State) (A0 : Slot) (A1 : Slot) (A2 : Slot) (A3 : Slot) (A4 : Slot) (A5 : Slot) (A6 : Slot) (A7 : Slot) (s3 : Addr) (s4 : Addr) (A8 : Slot) (c2 : Int32) (w12 : Int32) (A9 : Slot) (j : Addr) (zaa : Int32) (zab : Value) (upiece_j : Value) (ujoined_j : Value) (wvalue_s3 : Addr) (k_wvalue_s3 : ClassId) (wvalue_s3_0 : Int32) (wvalue_s3_1 : Int32) (wvalue_s3_2 : Int32) (wvalue_s3_3 : Int32) (n_wvalue_s3 : Int32) (wvalue_s4 : Addr) (k_wvalue_s4 : ClassId) (wvalue_s4_0 : Int32) (wvalue_s4_1 : Int32) (wvalue_s4_2 : Int32) (wvalue_s4_3 : Int32) (n_wvalue_s4 : Int32) (h0 : Heap) (n0 : Nat) (v : Option Value) (h : Heap) (L : List Loc) : Prop := v = some (.int 1) ∧ Fr n0 L
set_option maxRecDepth 65536 in
set_option maxHeartbeats 40000000 in
theorem own_rm83 (l : Launch) (Z : State) (a0 : Array Value) (hw : ∀ d ∈ tables_1, d.before a0 Z = true) (hs : ∀ d ∈ jdkStatics_1, d.before a0 Z = true) {p : Program} {e : Env} {s : State} {m : MethodId} {args : Array Value} {below : List Frame} {meth : Method} {c : Code} (hx : p.tables.exec = Jvm.exec) (hby : c.code = code) (hlk : meth.locks = false) (hml : c.maxLocals = 19) (hret : meth.sig.returnType = ret) (A0 : Slot) (A1 : Slot) (A2 : Slot) (A3 : Slot) (A4 : Slot) (A5 : Slot) (A6 : Slot) (A7 : Slot) (s3 : Addr) (s4 : Addr) (A8 : Slot) (c2 : Int32) (w12 : Int32) (A9 : Slot) (j : Addr) (zaa : Int32) (zab : Value) (upiece_j : Value) (ujoined_j : Value) (wvalue_s3 : Addr) (k_wvalue_s3 : ClassId) (wvalue_s3_0 : Int32) (wvalue_s3_1 : Int32) (wvalue_s3_2 : Int32) (wvalue_s3_3 : Int32) (n_wvalue_s3 : Int32) (wvalue_s4 : Addr) (k_wvalue_s4 : ClassId) (wvalue_s4_0 : Int32) (wvalue_s4_1 : Int32) (wvalue_s4_2 : Int32) (wvalue_s4_3 : Int32) (n_wvalue_s4 : Int32) (h0 : Heap) (n0 : Nat) (Z0 : n0 ≤ h0.size) {vm0 : Vm} {s₁ : State} {locs : List Loc} (X0 : Stand p l e room_1 (s.setVm vm0) m args below meth c s₁ locs 29 100) (e0 : s₁.heap = h0) (N0 : Fr n0 locs) {k0 : Nat} (hS0 : s.Since vm0 k0) (hk0 : k0 ≤ h0.size) (hZ : Z.Warmed39 (s.setVm vm0).vm) (hown : (s.setVm vm0).vm.findClass "com/example/nearfield/nearfield/JoinedTextClearPinLaw" = some m.cls) (H0 : CHr Z consts_1 s.vm s.heap vm0 h0) (zac : Sta Z h0 cN0 "COMPACT_STRINGS" "Z" (.int zaa)) (hcs : ¬ (zaa = (0 : Int32))) (zaf : zab.isRef = true) (zan : Sta Z h0 "jdk/internal/util/Preconditions" "SIOOBE_FORMATTER" "Ljava/util/function/BiFunction;" zab) (E_j : Exa Z h0 j cN3) (F_piece_j : Fld Z h0 j cN3 "piece" "Ljava/lang/String;" upiece_j) (F_joined_j : Fld Z h0 j cN3 "joined" "Z" ujoined_j) (F_pieces_j : Fld Z h0 j cN3 "pieces" "Ljava/lang/StringBuilder;" .null) (E_s3 : Exa Z h0 s3 cN0) (F_value_s3 : Fld Z h0 s3 cN0 "value" "[B" (.ref wvalue_s3)) (F_coder_s3 : Fld Z h0 s3 cN0 "coder" "B" J0) (A_wvalue_s3 : Arv Z h0 wvalue_s3 k_wvalue_s3 .byte n_wvalue_s3 [(.int wvalue_s3_0), (.int wvalue_s3_1), (.int wvalue_s3_2), (.int wvalue_s3_3)] J0) (hls3 : own_L n_wvalue_s3) (E_s4 : Exa Z h0 s4 cN0) (F_value_s4 : Fld Z h0 s4 cN0 "value" "[B" (.ref wvalue_s4)) (F_coder_s4 : Fld Z h0 s4 cN0 "coder" "B" J0) (A_wvalue_s4 : Arv Z h0 wvalue_s4 k_wvalue_s4 .byte n_wvalue_s4 [(.int wvalue_s4_0), (.int wvalue_s4_1), (.int wvalue_s4_2), (.int wvalue_s4_3)] J0) (hls4 : own_L n_wvalue_s4) (hc2 : ¬ ((255 : Int32) < c2)) (g_j : n0 ≤ j) :
    own_FinW p e below s room_1.cells room_1.slots (own_Q83 Z A0 A1 A2 A3 A4 A5 A6 A7 s3 s4 A8 c2 w12 A9 j zaa zab upiece_j ujoined_j wvalue_s3 k_wvalue_s3 wvalue_s3_0 wvalue_s3_1 wvalue_s3_2 wvalue_s3_3 n_wvalue_s3 wvalue_s4 k_wvalue_s4 wvalue_s4_0 wvalue_s4_1 wvalue_s4_2 wvalue_s4_3 n_wvalue_s4 h0 n0) (s₁.setTop (mkF m 116 #[A0, A1, A2, A3, A4, A5, A6, A7, rv s3, rv s4, A8, iv c2, iv w12, A9, rv j, .unset, .unset, .unset, .unset] [])) := by
  have KR : Keep h0 h0 [j] := Keep.refl _ _
  refine xaloadW X0 hx (hb hby at_116) rfl rfl rfl ?_
  obtain ⟨cq1, kq1, q1a, q1b, q1c⟩ := isOf hZ e0 E_j
  obtain ⟨_, _, ⟨T1, L1, k1, n1⟩, -, Y1, hT1, hg1, ⟨Lc1, hQ1, l1, y1, z1, hC1⟩, st1⟩ := X0.virtualBackS hx (y := own_y20) (z := own_y20) hown (mvT hZ (w_ hw 156 rfl)) (mvT hZ (w_ hw 157 rfl)) (notFace_of_selects (args := #[]) (mvT hZ (w_ hw 159 rfl))) (mvT hZ (w_ hw 159 rfl)) (mvT hZ (w_ hw 158 rfl)) (by decide) (backOfSH (W := 0) (own_rm30 hw hs j upiece_j ujoined_j .null h0 n0 Z0 E_j F_piece_j F_joined_j F_pieces_j g_j) hZ (w_ hw 160 rfl) (w_ hw 32 rfl) (by decide) (by decide) (own_ew hw) H0.1) q1a q1c (g := (mkF m 118 #[A0, A1, A2, A3, A4, A5, A6, A7, rv s3, rv s4, A8, iv c2, iv w12, A9, rv j, .unset, .unset, .unset, .unset] [(.ref j)])) rfl (by rw [hml]; rfl) (Steps.refl _) (argsL := []) (rest := []) (lenOf own_pd26 rfl) rfl (by show 2 * 0 + _ ≤ _; exact Nat.le_of_eq rfl) (hb hby at_118) (fun _ _ => ⟨rfl, e0, (by decide : 29 + 2 ≤ _), (by decide : 100 + 4 ≤ _)⟩)
  dsimp only [Pt.U, Pt.locs, Pt.cells, Pt.slots] at Y1 hT1 hg1 l1 y1 z1 st1 hQ1 hC1
  subst l1 y1 z1
  obtain ⟨X1, hS1, hZ1, hown1⟩ := rebS hS0 (by rw [e0]; exact hk0) Y1 hT1 hg1 hZ hown
  have H1 := H0.trans hC1
  obtain ⟨N1q, K1q, b1_x0, b1_x1, ko0_1, rfl, G2, G3, G4, G5, G6, G7, G8, G9⟩ := hQ1
  have N1 := Fr.app N0 N1q
  have K1 := KR.trans K1q (own_aW 0 rfl own_a0)
  have Z1 := Nat.le_trans Z0 K1q.1
  have hk1 := Nat.le_refl T1.heap.size
  obtain ⟨G10, G11, G12⟩ := own_k2 K1q (ninS (Exa.ne E_s3 E_j (by decide)) nin0) E_s3 F_value_s3 F_coder_s3
  obtain ⟨G13, G14, G15⟩ := own_k2 K1q (ninS (Exa.ne E_s4 E_j (by decide)) nin0) E_s4 F_value_s4 F_coder_s4
  have G16 := (own_sta_keep zac K1q (own_nS (own_nst_exa E_j) own_n0))
  have G17 := (own_sta_keep zan K1q (own_nS (own_nst_exa E_j) own_n0))
  have G18 := (E_j.keep K1q)
  have G19 := (A_wvalue_s3.keep K1q (ninS (Ne.symm (Exa.neArv E_j A_wvalue_s3 (w_ hw 31 rfl))) nin0))
  have G20 := (A_wvalue_s4.keep K1q (ninS (Ne.symm (Exa.neArv E_j A_wvalue_s4 (w_ hw 31 rfl))) nin0))
  refine own_stepW (fun _ k => st1.trans k) ?_
  refine xaloadW X1 hx (hb hby at_121) rfl rfl rfl ?_
  refine oVW X1 hx hZ1 hown1 hml (w_ hw 161 rfl) (w_ hw 162 rfl) (w_ hw 164 rfl) (w_ hw 163 rfl) (own_rm61 hw hs j b1_x0 b1_x1 ko0_1 ([J0, J0, J0, J0]) ((0 : Int32)) .null zaa T1.heap n0 Z1 G2 G5 G4 ⟨G6, G8, G7, G9⟩ G3 G16 hcs) (w_ hw 165 rfl) (w_ hw 32 rfl) rfl G2 [] [] 0 (lenOf own_pd18 rfl) rfl (hb hby at_123) rfl rfl rfl fun T21 L21 v21 X21 hQ21 => ?_
  obtain ⟨rfl, N21q, e21⟩ := hQ21
  have N21 := Fr.app N1 N21q
  refine xifNoW X21 hx (hb hby at_126) rfl ((if0 _ _).trans (teq (by decide : (0 : Int32) = (0 : Int32))).2) rfl ?_
  refine xiconstW X21 hx (hb hby at_129) rfl ?_
  refine xgotoW X21 hx 130 134 rfl (hb hby at_130) rfl ?_
  refine xistoreW X21 hx (hb hby at_134) rfl (l' := #[A0, A1, A2, A3, A4, A5, A6, A7, rv s3, rv s4, A8, iv c2, iv w12, A9, rv j, iv (1 : Int32), .unset, .unset, .unset]) rfl rfl ?_
  refine xiloadW X21 hx (hb hby at_136) rfl rfl ?_
  show own_FinW p e below s _ _ _ (T21.setTop (mkF m 138 #[A0, A1, A2, A3, A4, A5, A6, A7, rv s3, rv s4, A8, iv c2, iv w12, A9, rv j, iv (1 : Int32), .unset, .unset, .unset] [J1]))
  refine xifNoW X21 hx (hb hby at_138) rfl ((if0 _ _).trans (feq (by decide : ¬ ((1 : Int32) = (0 : Int32)))).1) rfl ?_
  refine xaloadW X21 hx (hb hby at_141) rfl rfl rfl ?_
  refine oVW X21 hx hZ1 hown1 hml (w_ hw 167 rfl) (w_ hw 168 rfl) (w_ hw 170 rfl) (w_ hw 169 rfl) (own_rm63 hw hs j b1_x0 T1.heap n0 Z1 G5 G4) (w_ hw 171 rfl) (w_ hw 32 rfl) e21 G2 [] [] 0 (lenOf own_pd30 rfl) rfl (hb hby at_143) rfl rfl rfl fun T22 L22 v22 X22 hQ22 => ?_
  obtain ⟨rfl, N22q, e22⟩ := hQ22
  have N22 := Fr.app N21 N22q
  refine oVW X22 hx hZ1 hown1 hml (w_ hw 172 rfl) (w_ hw 48 rfl) (w_ hw 50 rfl) (w_ hw 49 rfl) (own_rm5 hw hs b1_x0 b1_x1 ko0_1 ((0 : Int32)) ((0 : Int32)) ((0 : Int32)) ((0 : Int32)) T1.heap n0 Z1 ⟨G6, G8, G7, G9⟩) (w_ hw 51 rfl) (w_ hw 10 rfl) e22 G6 [] [] 0 (lenOf own_pd3 rfl) rfl (hb hby at_146) rfl rfl rfl fun T23 L23 v23 X23 hQ23 => ?_
  obtain ⟨rfl, N23q, e23⟩ := hQ23
  have N23 := Fr.app N22 N23q
  refine xifNoW X23 hx (hb hby at_149) rfl ((if0 _ _).trans (feq (by decide : ¬ ((1 : Int32) = (0 : Int32)))).1) rfl ?_
  refine xiconstW X23 hx (hb hby at_152) rfl ?_
  refine xgotoW X23 hx 153 157 rfl (hb hby at_153) rfl ?_
  refine xistoreW X23 hx (hb hby at_157) rfl (l' := #[A0, A1, A2, A3, A4, A5, A6, A7, rv s3, rv s4, A8, iv c2, iv w12, A9, rv j, iv (1 : Int32), .unset, .unset, .unset]) rfl rfl ?_
  refine xaloadW X23 hx (hb hby at_159) rfl rfl rfl ?_
  show own_FinW p e below s _ _ _ (T23.setTop (mkF m 161 #[A0, A1, A2, A3, A4, A5, A6, A7, rv s3, rv s4, A8, iv c2, iv w12, A9, rv j, iv (1 : Int32), .unset, .unset, .unset] [(.ref j)]))
  refine xaloadW X23 hx (hb hby at_161) rfl rfl rfl ?_
  refine oVW X23 hx hZ1 hown1 hml (w_ hw 40 rfl) (w_ hw 41 rfl) (w_ hw 43 rfl) (w_ hw 42 rfl) (own_rm55 hw hs j s3 b1_x0 b1_x1 ko0_1 ((0 : Int32)) ((0 : Int32)) ((0 : Int32)) ((0 : Int32)) .null T1.heap n0 Z1 G2 G5 G4 ⟨G6, G8, G7, G9⟩ G3 g_j) (w_ hw 44 rfl) (w_ hw 32 rfl) e23 G2 [(.ref s3)] [] 0 (lenOf own_pd16 rfl) rfl (hb hby at_163) rfl rfl rfl fun T24 L24 v24 X24 hQ24 => ?_
  obtain ⟨N24q, K24q, rfl, G25, G26, G27, G28⟩ := hQ24
  have N24 := Fr.app N23 N24q
  have K24 := K1.trans K24q (own_aW 0 rfl own_a0)
  have Z24 := Nat.le_trans Z1 K24q.1
  have hk24 := Nat.le_trans hk1 K24q.1
  obtain ⟨G29, G30, G31⟩ := own_k2 K24q (ninS (Exa.ne G10 G2 (by decide)) nin0) G10 G11 G12
  obtain ⟨G32, G33, G34⟩ := own_k2 K24q (ninS (Exa.ne G13 G2 (by decide)) nin0) G13 G14 G15
  obtain ⟨G35, G36, G37⟩ := own_k2 K24q (ninS (Exa.ne G6 G2 (by decide)) nin0) G6 G7 G8
  have G38 := (own_sta_keep G16 K24q (own_nS (own_nst_exa G2) own_n0))
  have G39 := (own_sta_keep G17 K24q (own_nS (own_nst_exa G2) own_n0))
  have G40 := (G2.keep K24q)
  have G41 := (G19.keep K24q (ninS (Ne.symm (Exa.neArv G2 G19 (w_ hw 31 rfl))) nin0))
  have G42 := (G20.keep K24q (ninS (Ne.symm (Exa.neArv G2 G20 (w_ hw 31 rfl))) nin0))
  have G43 := (G9.keep K24q (ninS (Ne.symm (Exa.neArv G2 G9 (w_ hw 31 rfl))) nin0))
  refine xiloadW X24 hx (hb hby at_166) rfl rfl ?_
  by_cases hc44 : w12 = (0 : Int32)
  · refine xifYesW X24 hx 168 185 rfl (hb hby at_168) rfl ((if0 _ _).trans (teq hc44).1) rfl ?_
    rcases id hls3 with hk45 | hk46 | hk47
    · have G48 : Arv Z T24.heap wvalue_s3 k_wvalue_s3 .byte (0 : Int32) [(.int wvalue_s3_0), (.int wvalue_s3_1), (.int wvalue_s3_2), (.int wvalue_s3_3)] J0 := hk45 ▸ G41
      show own_FinW p e below s _ _ _ (T24.setTop (mkF m 185 #[A0, A1, A2, A3, A4, A5, A6, A7, rv s3, rv s4, A8, iv c2, iv w12, A9, rv j, iv (1 : Int32), .unset, .unset, .unset] []))
      refine xaloadW X24 hx (hb hby at_185) rfl rfl rfl ?_
      refine xiloadW X24 hx (hb hby at_187) rfl rfl ?_
      refine oVW X24 hx hZ1 hown1 hml (w_ hw 52 rfl) (w_ hw 53 rfl) (w_ hw 55 rfl) (w_ hw 54 rfl) (own_rm59 hw hs j c2 s3 wvalue_s3 k_wvalue_s3 ([(.int wvalue_s3_0), (.int wvalue_s3_1), (.int wvalue_s3_2), (.int wvalue_s3_3)]) ((0 : Int32)) zaa T24.heap n0 Z24 G25 G26 G28 ⟨G29, G30, G31, G48⟩ G27 G38 hcs g_j (show ¬ ((0 : Int32) < (((0 : Int32) + (0 : Int32)) - (16 : Int32))) from (by first | decide | assumption | exact Nat.le_of_ble_eq_true rfl)) (show ¬ ((0 : Int32) < (0 : Int32)) from (by first | decide | assumption | exact Nat.le_of_ble_eq_true rfl)) (show (0 : Int32).toNatClampNeg + (0 : Int32).toNatClampNeg ≤ (16 : Int32).toNatClampNeg from (by first | decide | assumption | exact Nat.le_of_ble_eq_true rfl)) (show (0 : Int32).toNatClampNeg + (0 : Int32).toNatClampNeg ≤ [J0, J0, J0, J0].length from (by first | decide | assumption | exact Nat.le_of_ble_eq_true rfl)) (show ¬ ((0 : Int32) < ((((0 : Int32) + (0 : Int32)) + (1 : Int32)) - (16 : Int32))) from (by first | decide | assumption | exact Nat.le_of_ble_eq_true rfl)) hc2 (show ¬ (((0 : Int32) + (0 : Int32)) < (0 : Int32)) from (by first | decide | assumption | exact Nat.le_of_ble_eq_true rfl)) (show ((0 : Int32) + (0 : Int32)) < (16 : Int32) from (by first | decide | assumption | exact Nat.le_of_ble_eq_true rfl)) (show ((0 : Int32) + (0 : Int32)).toNatClampNeg < (own_cat [J0, J0, J0, J0] [(.int wvalue_s3_0), (.int wvalue_s3_1), (.int wvalue_s3_2), (.int wvalue_s3_3)] (0 : Int32) (0 : Int32)).length from (by first | decide | assumption | exact Nat.le_of_ble_eq_true rfl))) (w_ hw 56 rfl) (w_ hw 32 rfl) rfl G25 [(.int c2)] [] 0 (lenOf own_pd33 rfl) rfl (hb hby at_189) rfl rfl rfl fun T49 L49 v49 X49 hQ49 => ?_
      obtain ⟨N49q, K49q, b49_o0, gg49_o0, sz49_o0, b49_o1, gg49_o1, sz49_o1, ko0_49, uo0_49, rfl, G50, G51, G52, G53, G54, G55, G56, G57, G58, G59⟩ := hQ49
      have N49 := Fr.app N24 N49q
      have ne49_o1_wvalue_s3 : wvalue_s3 ≠ b49_o1 := Nat.ne_of_lt (Nat.lt_of_lt_of_le G48.lt sz49_o1)
      have ne49_o1_wvalue_s4 : wvalue_s4 ≠ b49_o1 := Nat.ne_of_lt (Nat.lt_of_lt_of_le G42.lt sz49_o1)
      have K49 := K24.trans K49q (own_aW 0 rfl own_a0)
      have Z49 := Nat.le_trans Z24 K49q.1
      have sy49_o0 : h0.size ≤ b49_o0 := Nat.le_trans K24.1 sz49_o0
      have sy49_o1 : h0.size ≤ b49_o1 := Nat.le_trans K24.1 sz49_o1
      have hk49 := Nat.le_trans hk24 K49q.1
      obtain ⟨G60, G61, G62⟩ := own_k2 K49q (ninS (Exa.ne G29 G25 (by decide)) nin0) G29 G30 G31
      obtain ⟨G63, G64, G65⟩ := own_k2 K49q (ninS (Exa.ne G32 G25 (by decide)) nin0) G32 G33 G34
      have G66 := (own_sta_keep G38 K49q (own_nS (own_nst_exa G25) own_n0))
      have G67 := (own_sta_keep G39 K49q (own_nS (own_nst_exa G25) own_n0))
      have G68 := (G25.keep K49q)
      have G69 := (G48.keep K49q (ninS (Ne.symm (Exa.neArv G25 G48 (w_ hw 31 rfl))) nin0))
      have G70 := (G42.keep K49q (ninS (Ne.symm (Exa.neArv G25 G42 (w_ hw 31 rfl))) nin0))
      have G71 : Fld Z T49.heap b49_o0 cN2 "count" "I" J1 := G58
      have G72 : Arv Z T49.heap b49_o1 ko0_49 .byte (16 : Int32) [(.int (nar .byte (c2.toInt8.toInt32))), J0, J0, J0] J0 := G59
      refine xiloadW X49 hx (hb hby at_192) rfl rfl ?_
      refine oCW X49 hx hZ1 hown1 hml (w_ hw 175 rfl) (w_ hw 176 rfl) (own_rm20 hw hs c2 zaa T49.heap n0 Z49 G66 hcs hc2) (w_ hw 177 rfl) (w_ hw 10 rfl) rfl [(.int c2)] [] 0 (lenOf own_pd14 rfl) rfl (hb hby at_194) rfl rfl rfl fun T73 L73 v73 X73 hQ73 => ?_
      obtain ⟨N73q, K73q, b73_o0, gg73_o0, sz73_o0, b73_o1, gg73_o1, sz73_o1, ko0_73, rfl, G74, G75, G76, G77⟩ := hQ73
      have N73 := Fr.app N49 N73q
      have ne73_o0_s3 : s3 ≠ b73_o0 := Nat.ne_of_lt (Nat.lt_of_lt_of_le G60.lt sz73_o0)
      have ne73_o0_s4 : s4 ≠ b73_o0 := Nat.ne_of_lt (Nat.lt_of_lt_of_le G63.lt sz73_o0)
      have ne73_o1_wvalue_s3 : wvalue_s3 ≠ b73_o1 := Nat.ne_of_lt (Nat.lt_of_lt_of_le G69.lt sz73_o1)
      have ne73_o1_wvalue_s4 : wvalue_s4 ≠ b73_o1 := Nat.ne_of_lt (Nat.lt_of_lt_of_le G70.lt sz73_o1)
      have ne73_o1_b49_o1 : b49_o1 ≠ b73_o1 := Nat.ne_of_lt (Nat.lt_of_lt_of_le G72.lt sz73_o1)
      have K73 := K49.trans K73q own_a0
      have Z73 := Nat.le_trans Z49 K73q.1
      have sy73_o0 : h0.size ≤ b73_o0 := Nat.le_trans K49.1 sz73_o0
      have sy73_o1 : h0.size ≤ b73_o1 := Nat.le_trans K49.1 sz73_o1
      have hk73 := Nat.le_trans hk49 K73q.1
      obtain ⟨G78, G79, G80⟩ := own_k2 K73q nin0 G60 G61 G62
      obtain ⟨G81, G82, G83⟩ := own_k2 K73q nin0 G63 G64 G65
      obtain ⟨G84, G85, G86, G87⟩ := own_k3 K73q nin0 G50 G51 G52 G53
      obtain ⟨G88, G89, G90, G91, G92⟩ := own_k4 K73q nin0 G54 G55 G56 G57 G71
      have G93 := (own_sta_keep0 G66 K73q)
      have G94 := (own_sta_keep0 G67 K73q)
      have G95 := (G69.keep K73q nin0)
      have G96 := (G70.keep K73q nin0)
      have G97 := (G72.keep K73q nin0)
      refine xastoreW X73 hx (hb hby at_197) rfl rfl (l' := #[A0, A1, A2, A3, A4, A5, A6, A7, rv s3, rv s4, A8, iv c2, iv w12, A9, rv j, iv (1 : Int32), rv b73_o0, .unset, .unset]) rfl rfl ?_
      exact own_rm74 l Z a0 hw hs hx hby hlk hml hret (A0) (A1) (A2) (A3) (A4) (A5) (A6) (A7) s3 ((.val (.ref s4))) (A8) ((.val (.int c2))) ((.val (.int w12))) (A9) j b73_o0 zaa zab ((nar .byte (c2.toInt8.toInt32))) ((0 : Int32)) ((0 : Int32)) ((0 : Int32)) wvalue_s3_0 wvalue_s3_1 wvalue_s3_2 wvalue_s3_3 wvalue_s3 k_wvalue_s3 ((0 : Int32)) ((0 : Int32)) ((0 : Int32)) b73_o1 ko0_73 ((.ref s3)) b49_o0 b49_o1 uo0_49 ko0_49 T73.heap n0 Z73 (X73.more (by decide : 35 ≤ _) (by decide : 129 ≤ _)) rfl N73 hS1 hk73 hZ1 hown1  G93 hcs zaf G94 G78 G79 G80 G95 G74 G75 G76 G77 G84 G87 G85 G86 G88 G89 G90 G92 G91 G97
    · have G98 : Arv Z T24.heap wvalue_s3 k_wvalue_s3 .byte (1 : Int32) [(.int wvalue_s3_0), (.int wvalue_s3_1), (.int wvalue_s3_2), (.int wvalue_s3_3)] J0 := hk46 ▸ G41
      show own_FinW p e below s _ _ _ (T24.setTop (mkF m 185 #[A0, A1, A2, A3, A4, A5, A6, A7, rv s3, rv s4, A8, iv c2, iv w12, A9, rv j, iv (1 : Int32), .unset, .unset, .unset] []))
      refine xaloadW X24 hx (hb hby at_185) rfl rfl rfl ?_
      refine xiloadW X24 hx (hb hby at_187) rfl rfl ?_
      refine oVW X24 hx hZ1 hown1 hml (w_ hw 52 rfl) (w_ hw 53 rfl) (w_ hw 55 rfl) (w_ hw 54 rfl) (own_rm59 hw hs j c2 s3 wvalue_s3 k_wvalue_s3 ([(.int wvalue_s3_0), (.int wvalue_s3_1), (.int wvalue_s3_2), (.int wvalue_s3_3)]) ((1 : Int32)) zaa T24.heap n0 Z24 G25 G26 G28 ⟨G29, G30, G31, G98⟩ G27 G38 hcs g_j (show ¬ ((0 : Int32) < (((0 : Int32) + (1 : Int32)) - (16 : Int32))) from (by first | decide | assumption | exact Nat.le_of_ble_eq_true rfl)) (show ¬ ((1 : Int32) < (0 : Int32)) from (by first | decide | assumption | exact Nat.le_of_ble_eq_true rfl)) (show (0 : Int32).toNatClampNeg + (1 : Int32).toNatClampNeg ≤ (16 : Int32).toNatClampNeg from (by first | decide | assumption | exact Nat.le_of_ble_eq_true rfl)) (show (0 : Int32).toNatClampNeg + (1 : Int32).toNatClampNeg ≤ [J0, J0, J0, J0].length from (by first | decide | assumption | exact Nat.le_of_ble_eq_true rfl)) (show ¬ ((0 : Int32) < ((((0 : Int32) + (1 : Int32)) + (1 : Int32)) - (16 : Int32))) from (by first | decide | assumption | exact Nat.le_of_ble_eq_true rfl)) hc2 (show ¬ (((0 : Int32) + (1 : Int32)) < (0 : Int32)) from (by first | decide | assumption | exact Nat.le_of_ble_eq_true rfl)) (show ((0 : Int32) + (1 : Int32)) < (16 : Int32) from (by first | decide | assumption | exact Nat.le_of_ble_eq_true rfl)) (show ((0 : Int32) + (1 : Int32)).toNatClampNeg < (own_cat [J0, J0, J0, J0] [(.int wvalue_s3_0), (.int wvalue_s3_1), (.int wvalue_s3_2), (.int wvalue_s3_3)] (0 : Int32) (1 : Int32)).length from (by first | decide | assumption | exact Nat.le_of_ble_eq_true rfl))) (w_ hw 56 rfl) (w_ hw 32 rfl) rfl G25 [(.int c2)] [] 0 (lenOf own_pd33 rfl) rfl (hb hby at_189) rfl rfl rfl fun T99 L99 v99 X99 hQ99 => ?_
      obtain ⟨N99q, K99q, b99_o0, gg99_o0, sz99_o0, b99_o1, gg99_o1, sz99_o1, ko0_99, uo0_99, rfl, G100, G101, G102, G103, G104, G105, G106, G107, G108, G109⟩ := hQ99
      have N99 := Fr.app N24 N99q
      have ne99_o1_wvalue_s3 : wvalue_s3 ≠ b99_o1 := Nat.ne_of_lt (Nat.lt_of_lt_of_le G98.lt sz99_o1)
      have ne99_o1_wvalue_s4 : wvalue_s4 ≠ b99_o1 := Nat.ne_of_lt (Nat.lt_of_lt_of_le G42.lt sz99_o1)
      have K99 := K24.trans K99q (own_aW 0 rfl own_a0)
      have Z99 := Nat.le_trans Z24 K99q.1
      have sy99_o0 : h0.size ≤ b99_o0 := Nat.le_trans K24.1 sz99_o0
      have sy99_o1 : h0.size ≤ b99_o1 := Nat.le_trans K24.1 sz99_o1
      have hk99 := Nat.le_trans hk24 K99q.1
      obtain ⟨G110, G111, G112⟩ := own_k2 K99q (ninS (Exa.ne G29 G25 (by decide)) nin0) G29 G30 G31
      obtain ⟨G113, G114, G115⟩ := own_k2 K99q (ninS (Exa.ne G32 G25 (by decide)) nin0) G32 G33 G34
      have G116 := (own_sta_keep G38 K99q (own_nS (own_nst_exa G25) own_n0))
      have G117 := (own_sta_keep G39 K99q (own_nS (own_nst_exa G25) own_n0))
      have G118 := (G25.keep K99q)
      have G119 := (G98.keep K99q (ninS (Ne.symm (Exa.neArv G25 G98 (w_ hw 31 rfl))) nin0))
      have G120 := (G42.keep K99q (ninS (Ne.symm (Exa.neArv G25 G42 (w_ hw 31 rfl))) nin0))
      have G121 : Fld Z T99.heap b99_o0 cN2 "count" "I" J2 := G108
      have G122 : Arv Z T99.heap b99_o1 ko0_99 .byte (16 : Int32) [(.int wvalue_s3_0), (.int (nar .byte (c2.toInt8.toInt32))), J0, J0] J0 := G109
      refine xiloadW X99 hx (hb hby at_192) rfl rfl ?_
      refine oCW X99 hx hZ1 hown1 hml (w_ hw 175 rfl) (w_ hw 176 rfl) (own_rm20 hw hs c2 zaa T99.heap n0 Z99 G116 hcs hc2) (w_ hw 177 rfl) (w_ hw 10 rfl) rfl [(.int c2)] [] 0 (lenOf own_pd14 rfl) rfl (hb hby at_194) rfl rfl rfl fun T123 L123 v123 X123 hQ123 => ?_
      obtain ⟨N123q, K123q, b123_o0, gg123_o0, sz123_o0, b123_o1, gg123_o1, sz123_o1, ko0_123, rfl, G124, G125, G126, G127⟩ := hQ123
      have N123 := Fr.app N99 N123q
      have ne123_o0_s3 : s3 ≠ b123_o0 := Nat.ne_of_lt (Nat.lt_of_lt_of_le G110.lt sz123_o0)
      have ne123_o0_s4 : s4 ≠ b123_o0 := Nat.ne_of_lt (Nat.lt_of_lt_of_le G113.lt sz123_o0)
      have ne123_o1_wvalue_s3 : wvalue_s3 ≠ b123_o1 := Nat.ne_of_lt (Nat.lt_of_lt_of_le G119.lt sz123_o1)
      have ne123_o1_wvalue_s4 : wvalue_s4 ≠ b123_o1 := Nat.ne_of_lt (Nat.lt_of_lt_of_le G120.lt sz123_o1)
      have ne123_o1_b99_o1 : b99_o1 ≠ b123_o1 := Nat.ne_of_lt (Nat.lt_of_lt_of_le G122.lt sz123_o1)
      have K123 := K99.trans K123q own_a0
      have Z123 := Nat.le_trans Z99 K123q.1
      have sy123_o0 : h0.size ≤ b123_o0 := Nat.le_trans K99.1 sz123_o0
      have sy123_o1 : h0.size ≤ b123_o1 := Nat.le_trans K99.1 sz123_o1
      have hk123 := Nat.le_trans hk99 K123q.1
      obtain ⟨G128, G129, G130⟩ := own_k2 K123q nin0 G110 G111 G112
      obtain ⟨G131, G132, G133⟩ := own_k2 K123q nin0 G113 G114 G115
      obtain ⟨G134, G135, G136, G137⟩ := own_k3 K123q nin0 G100 G101 G102 G103
      obtain ⟨G138, G139, G140, G141, G142⟩ := own_k4 K123q nin0 G104 G105 G106 G107 G121
      have G143 := (own_sta_keep0 G116 K123q)
      have G144 := (own_sta_keep0 G117 K123q)
      have G145 := (G119.keep K123q nin0)
      have G146 := (G120.keep K123q nin0)
      have G147 := (G122.keep K123q nin0)
      refine xastoreW X123 hx (hb hby at_197) rfl rfl (l' := #[A0, A1, A2, A3, A4, A5, A6, A7, rv s3, rv s4, A8, iv c2, iv w12, A9, rv j, iv (1 : Int32), rv b123_o0, .unset, .unset]) rfl rfl ?_
      exact own_rm78 l Z a0 hw hs hx hby hlk hml hret (A0) (A1) (A2) (A3) (A4) (A5) (A6) (A7) s3 ((.val (.ref s4))) (A8) ((.val (.int c2))) ((.val (.int w12))) (A9) j b123_o0 zaa zab wvalue_s3_0 ((nar .byte (c2.toInt8.toInt32))) ((0 : Int32)) ((0 : Int32)) wvalue_s3_1 wvalue_s3_2 wvalue_s3_3 wvalue_s3 k_wvalue_s3 ((0 : Int32)) ((0 : Int32)) ((0 : Int32)) b123_o1 ko0_123 ((.ref s3)) b99_o0 b99_o1 uo0_99 ko0_99 T123.heap n0 Z123 (X123.more (by decide : 35 ≤ _) (by decide : 129 ≤ _)) rfl N123 hS1 hk123 hZ1 hown1  G143 hcs zaf G144 G128 G129 G130 G145 G124 G125 G126 G127 G134 G137 G135 G136 G138 G139 G140 G142 G141 G147
    · have G148 : Arv Z T24.heap wvalue_s3 k_wvalue_s3 .byte (2 : Int32) [(.int wvalue_s3_0), (.int wvalue_s3_1), (.int wvalue_s3_2), (.int wvalue_s3_3)] J0 := hk47 ▸ G41
      show own_FinW p e below s _ _ _ (T24.setTop (mkF m 185 #[A0, A1, A2, A3, A4, A5, A6, A7, rv s3, rv s4, A8, iv c2, iv w12, A9, rv j, iv (1 : Int32), .unset, .unset, .unset] []))
      refine xaloadW X24 hx (hb hby at_185) rfl rfl rfl ?_
      refine xiloadW X24 hx (hb hby at_187) rfl rfl ?_
      refine oVW X24 hx hZ1 hown1 hml (w_ hw 52 rfl) (w_ hw 53 rfl) (w_ hw 55 rfl) (w_ hw 54 rfl) (own_rm59 hw hs j c2 s3 wvalue_s3 k_wvalue_s3 ([(.int wvalue_s3_0), (.int wvalue_s3_1), (.int wvalue_s3_2), (.int wvalue_s3_3)]) ((2 : Int32)) zaa T24.heap n0 Z24 G25 G26 G28 ⟨G29, G30, G31, G148⟩ G27 G38 hcs g_j (show ¬ ((0 : Int32) < (((0 : Int32) + (2 : Int32)) - (16 : Int32))) from (by first | decide | assumption | exact Nat.le_of_ble_eq_true rfl)) (show ¬ ((2 : Int32) < (0 : Int32)) from (by first | decide | assumption | exact Nat.le_of_ble_eq_true rfl)) (show (0 : Int32).toNatClampNeg + (2 : Int32).toNatClampNeg ≤ (16 : Int32).toNatClampNeg from (by first | decide | assumption | exact Nat.le_of_ble_eq_true rfl)) (show (0 : Int32).toNatClampNeg + (2 : Int32).toNatClampNeg ≤ [J0, J0, J0, J0].length from (by first | decide | assumption | exact Nat.le_of_ble_eq_true rfl)) (show ¬ ((0 : Int32) < ((((0 : Int32) + (2 : Int32)) + (1 : Int32)) - (16 : Int32))) from (by first | decide | assumption | exact Nat.le_of_ble_eq_true rfl)) hc2 (show ¬ (((0 : Int32) + (2 : Int32)) < (0 : Int32)) from (by first | decide | assumption | exact Nat.le_of_ble_eq_true rfl)) (show ((0 : Int32) + (2 : Int32)) < (16 : Int32) from (by first | decide | assumption | exact Nat.le_of_ble_eq_true rfl)) (show ((0 : Int32) + (2 : Int32)).toNatClampNeg < (own_cat [J0, J0, J0, J0] [(.int wvalue_s3_0), (.int wvalue_s3_1), (.int wvalue_s3_2), (.int wvalue_s3_3)] (0 : Int32) (2 : Int32)).length from (by first | decide | assumption | exact Nat.le_of_ble_eq_true rfl))) (w_ hw 56 rfl) (w_ hw 32 rfl) rfl G25 [(.int c2)] [] 0 (lenOf own_pd33 rfl) rfl (hb hby at_189) rfl rfl rfl fun T149 L149 v149 X149 hQ149 => ?_
      obtain ⟨N149q, K149q, b149_o0, gg149_o0, sz149_o0, b149_o1, gg149_o1, sz149_o1, ko0_149, uo0_149, rfl, G150, G151, G152, G153, G154, G155, G156, G157, G158, G159⟩ := hQ149
      have N149 := Fr.app N24 N149q
      have ne149_o1_wvalue_s3 : wvalue_s3 ≠ b149_o1 := Nat.ne_of_lt (Nat.lt_of_lt_of_le G148.lt sz149_o1)
      have ne149_o1_wvalue_s4 : wvalue_s4 ≠ b149_o1 := Nat.ne_of_lt (Nat.lt_of_lt_of_le G42.lt sz149_o1)
      have K149 := K24.trans K149q (own_aW 0 rfl own_a0)
      have Z149 := Nat.le_trans Z24 K149q.1
      have sy149_o0 : h0.size ≤ b149_o0 := Nat.le_trans K24.1 sz149_o0
      have sy149_o1 : h0.size ≤ b149_o1 := Nat.le_trans K24.1 sz149_o1
      have hk149 := Nat.le_trans hk24 K149q.1
      obtain ⟨G160, G161, G162⟩ := own_k2 K149q (ninS (Exa.ne G29 G25 (by decide)) nin0) G29 G30 G31
      obtain ⟨G163, G164, G165⟩ := own_k2 K149q (ninS (Exa.ne G32 G25 (by decide)) nin0) G32 G33 G34
      have G166 := (own_sta_keep G38 K149q (own_nS (own_nst_exa G25) own_n0))
      have G167 := (own_sta_keep G39 K149q (own_nS (own_nst_exa G25) own_n0))
      have G168 := (G25.keep K149q)
      have G169 := (G148.keep K149q (ninS (Ne.symm (Exa.neArv G25 G148 (w_ hw 31 rfl))) nin0))
      have G170 := (G42.keep K149q (ninS (Ne.symm (Exa.neArv G25 G42 (w_ hw 31 rfl))) nin0))
      have G171 : Fld Z T149.heap b149_o0 cN2 "count" "I" J3 := G158
      have G172 : Arv Z T149.heap b149_o1 ko0_149 .byte (16 : Int32) [(.int wvalue_s3_0), (.int wvalue_s3_1), (.int (nar .byte (c2.toInt8.toInt32))), J0] J0 := G159
      refine xiloadW X149 hx (hb hby at_192) rfl rfl ?_
      refine oCW X149 hx hZ1 hown1 hml (w_ hw 175 rfl) (w_ hw 176 rfl) (own_rm20 hw hs c2 zaa T149.heap n0 Z149 G166 hcs hc2) (w_ hw 177 rfl) (w_ hw 10 rfl) rfl [(.int c2)] [] 0 (lenOf own_pd14 rfl) rfl (hb hby at_194) rfl rfl rfl fun T173 L173 v173 X173 hQ173 => ?_
      obtain ⟨N173q, K173q, b173_o0, gg173_o0, sz173_o0, b173_o1, gg173_o1, sz173_o1, ko0_173, rfl, G174, G175, G176, G177⟩ := hQ173
      have N173 := Fr.app N149 N173q
      have ne173_o0_s3 : s3 ≠ b173_o0 := Nat.ne_of_lt (Nat.lt_of_lt_of_le G160.lt sz173_o0)
      have ne173_o0_s4 : s4 ≠ b173_o0 := Nat.ne_of_lt (Nat.lt_of_lt_of_le G163.lt sz173_o0)
      have ne173_o1_wvalue_s3 : wvalue_s3 ≠ b173_o1 := Nat.ne_of_lt (Nat.lt_of_lt_of_le G169.lt sz173_o1)
      have ne173_o1_wvalue_s4 : wvalue_s4 ≠ b173_o1 := Nat.ne_of_lt (Nat.lt_of_lt_of_le G170.lt sz173_o1)
      have ne173_o1_b149_o1 : b149_o1 ≠ b173_o1 := Nat.ne_of_lt (Nat.lt_of_lt_of_le G172.lt sz173_o1)
      have K173 := K149.trans K173q own_a0
      have Z173 := Nat.le_trans Z149 K173q.1
      have sy173_o0 : h0.size ≤ b173_o0 := Nat.le_trans K149.1 sz173_o0
      have sy173_o1 : h0.size ≤ b173_o1 := Nat.le_trans K149.1 sz173_o1
      have hk173 := Nat.le_trans hk149 K173q.1
      obtain ⟨G178, G179, G180⟩ := own_k2 K173q nin0 G160 G161 G162
      obtain ⟨G181, G182, G183⟩ := own_k2 K173q nin0 G163 G164 G165
      obtain ⟨G184, G185, G186, G187⟩ := own_k3 K173q nin0 G150 G151 G152 G153
      obtain ⟨G188, G189, G190, G191, G192⟩ := own_k4 K173q nin0 G154 G155 G156 G157 G171
      have G193 := (own_sta_keep0 G166 K173q)
      have G194 := (own_sta_keep0 G167 K173q)
      have G195 := (G169.keep K173q nin0)
      have G196 := (G170.keep K173q nin0)
      have G197 := (G172.keep K173q nin0)
      refine xastoreW X173 hx (hb hby at_197) rfl rfl (l' := #[A0, A1, A2, A3, A4, A5, A6, A7, rv s3, rv s4, A8, iv c2, iv w12, A9, rv j, iv (1 : Int32), rv b173_o0, .unset, .unset]) rfl rfl ?_
      exact own_rm81 l Z a0 hw hs hx hby hlk hml hret (A0) (A1) (A2) (A3) (A4) (A5) (A6) (A7) s3 ((.val (.ref s4))) (A8) ((.val (.int c2))) ((.val (.int w12))) (A9) j b173_o0 zaa zab wvalue_s3_0 wvalue_s3_1 ((nar .byte (c2.toInt8.toInt32))) ((0 : Int32)) wvalue_s3_2 wvalue_s3_3 wvalue_s3 k_wvalue_s3 ((0 : Int32)) ((0 : Int32)) ((0 : Int32)) b173_o1 ko0_173 ((.ref s3)) b149_o0 b149_o1 uo0_149 ko0_149 T173.heap n0 Z173 (X173.more (by decide : 35 ≤ _) (by decide : 129 ≤ _)) rfl N173 hS1 hk173 hZ1 hown1  G193 hcs zaf G194 G178 G179 G180 G195 G174 G175 G176 G177 G184 G187 G185 G186 G188 G189 G190 G192 G191 G197
  · refine xifNoW X24 hx (hb hby at_168) rfl ((if0 _ _).trans (feq hc44).1) rfl ?_
    rcases id hls3 with hk198 | hk199 | hk200
    · have G201 : Arv Z T24.heap wvalue_s3 k_wvalue_s3 .byte (0 : Int32) [(.int wvalue_s3_0), (.int wvalue_s3_1), (.int wvalue_s3_2), (.int wvalue_s3_3)] J0 := hk198 ▸ G41
      show own_FinW p e below s _ _ _ (T24.setTop (mkF m 171 #[A0, A1, A2, A3, A4, A5, A6, A7, rv s3, rv s4, A8, iv c2, iv w12, A9, rv j, iv (1 : Int32), .unset, .unset, .unset] []))
      rcases id hls4 with hk202 | hk203 | hk204
      · have G205 : Arv Z T24.heap wvalue_s4 k_wvalue_s4 .byte (0 : Int32) [(.int wvalue_s4_0), (.int wvalue_s4_1), (.int wvalue_s4_2), (.int wvalue_s4_3)] J0 := hk202 ▸ G42
        show own_FinW p e below s _ _ _ (T24.setTop (mkF m 171 #[A0, A1, A2, A3, A4, A5, A6, A7, rv s3, rv s4, A8, iv c2, iv w12, A9, rv j, iv (1 : Int32), .unset, .unset, .unset] []))
        refine xaloadW X24 hx (hb hby at_171) rfl rfl rfl ?_
        refine xaloadW X24 hx (hb hby at_173) rfl rfl rfl ?_
        refine oVW X24 hx hZ1 hown1 hml (w_ hw 40 rfl) (w_ hw 41 rfl) (w_ hw 43 rfl) (w_ hw 42 rfl) (own_rm55 hw hs j s4 s3 wvalue_s3 k_wvalue_s3 wvalue_s3_0 wvalue_s3_1 wvalue_s3_2 wvalue_s3_3 .null T24.heap n0 Z24 G25 G26 G28 ⟨G29, G30, G31, G201⟩ G27 g_j) (w_ hw 44 rfl) (w_ hw 32 rfl) rfl G25 [(.ref s4)] [] 0 (lenOf own_pd16 rfl) rfl (hb hby at_175) rfl rfl rfl fun T206 L206 v206 X206 hQ206 => ?_
        obtain ⟨N206q, K206q, rfl, G207, G208, G209, G210⟩ := hQ206
        have N206 := Fr.app N24 N206q
        have K206 := K24.trans K206q (own_aW 0 rfl own_a0)
        have Z206 := Nat.le_trans Z24 K206q.1
        have hk206 := Nat.le_trans hk24 K206q.1
        obtain ⟨G211, G212, G213⟩ := own_k2 K206q (ninS (Exa.ne G29 G25 (by decide)) nin0) G29 G30 G31
        obtain ⟨G214, G215, G216⟩ := own_k2 K206q (ninS (Exa.ne G32 G25 (by decide)) nin0) G32 G33 G34
        have G217 := (own_sta_keep G38 K206q (own_nS (own_nst_exa G25) own_n0))
        have G218 := (own_sta_keep G39 K206q (own_nS (own_nst_exa G25) own_n0))
        have G219 := (G25.keep K206q)
        have G220 := (G201.keep K206q (ninS (Ne.symm (Exa.neArv G25 G201 (w_ hw 31 rfl))) nin0))
        have G221 := (G205.keep K206q (ninS (Ne.symm (Exa.neArv G25 G205 (w_ hw 31 rfl))) nin0))
        refine xaloadW X206 hx (hb hby at_178) rfl rfl rfl ?_
        refine xastoreW X206 hx (hb hby at_180) rfl rfl (l' := #[A0, A1, A2, A3, A4, A5, A6, A7, rv s3, rv s4, A8, iv c2, iv w12, A9, rv j, iv (1 : Int32), rv s4, .unset, .unset]) rfl rfl ?_
        refine xgotoW X206 hx 182 199 rfl (hb hby at_182) rfl ?_
        exact own_rm72 l Z a0 hw hs hx hby hlk hml hret (A0) (A1) (A2) (A3) (A4) (A5) (A6) (A7) s3 ((.val (.ref s4))) (A8) ((.val (.int c2))) ((.val (.int w12))) (A9) j s4 zaa zab wvalue_s3_0 wvalue_s3_1 wvalue_s3_2 wvalue_s3_3 wvalue_s3 k_wvalue_s3 wvalue_s4_0 wvalue_s4_1 wvalue_s4_2 wvalue_s4_3 wvalue_s4 k_wvalue_s4 .null T206.heap n0 Z206 (X206.more (by decide : 31 ≤ _) (by decide : 104 ≤ _)) rfl N206 hS1 hk206 hZ1 hown1  G217 hcs zaf G218 G211 G212 G213 G220 G214 G215 G216 G221 G207 G208 G210 G209
      · have G222 : Arv Z T24.heap wvalue_s4 k_wvalue_s4 .byte (1 : Int32) [(.int wvalue_s4_0), (.int wvalue_s4_1), (.int wvalue_s4_2), (.int wvalue_s4_3)] J0 := hk203 ▸ G42
        show own_FinW p e below s _ _ _ (T24.setTop (mkF m 171 #[A0, A1, A2, A3, A4, A5, A6, A7, rv s3, rv s4, A8, iv c2, iv w12, A9, rv j, iv (1 : Int32), .unset, .unset, .unset] []))
        refine xaloadW X24 hx (hb hby at_171) rfl rfl rfl ?_
        refine xaloadW X24 hx (hb hby at_173) rfl rfl rfl ?_
        refine oVW X24 hx hZ1 hown1 hml (w_ hw 40 rfl) (w_ hw 41 rfl) (w_ hw 43 rfl) (w_ hw 42 rfl) (own_rm55 hw hs j s4 s3 wvalue_s3 k_wvalue_s3 wvalue_s3_0 wvalue_s3_1 wvalue_s3_2 wvalue_s3_3 .null T24.heap n0 Z24 G25 G26 G28 ⟨G29, G30, G31, G201⟩ G27 g_j) (w_ hw 44 rfl) (w_ hw 32 rfl) rfl G25 [(.ref s4)] [] 0 (lenOf own_pd16 rfl) rfl (hb hby at_175) rfl rfl rfl fun T223 L223 v223 X223 hQ223 => ?_
        obtain ⟨N223q, K223q, rfl, G224, G225, G226, G227⟩ := hQ223
        have N223 := Fr.app N24 N223q
        have K223 := K24.trans K223q (own_aW 0 rfl own_a0)
        have Z223 := Nat.le_trans Z24 K223q.1
        have hk223 := Nat.le_trans hk24 K223q.1
        obtain ⟨G228, G229, G230⟩ := own_k2 K223q (ninS (Exa.ne G29 G25 (by decide)) nin0) G29 G30 G31
        obtain ⟨G231, G232, G233⟩ := own_k2 K223q (ninS (Exa.ne G32 G25 (by decide)) nin0) G32 G33 G34
        have G234 := (own_sta_keep G38 K223q (own_nS (own_nst_exa G25) own_n0))
        have G235 := (own_sta_keep G39 K223q (own_nS (own_nst_exa G25) own_n0))
        have G236 := (G25.keep K223q)
        have G237 := (G201.keep K223q (ninS (Ne.symm (Exa.neArv G25 G201 (w_ hw 31 rfl))) nin0))
        have G238 := (G222.keep K223q (ninS (Ne.symm (Exa.neArv G25 G222 (w_ hw 31 rfl))) nin0))
        refine xaloadW X223 hx (hb hby at_178) rfl rfl rfl ?_
        refine xastoreW X223 hx (hb hby at_180) rfl rfl (l' := #[A0, A1, A2, A3, A4, A5, A6, A7, rv s3, rv s4, A8, iv c2, iv w12, A9, rv j, iv (1 : Int32), rv s4, .unset, .unset]) rfl rfl ?_
        refine xgotoW X223 hx 182 199 rfl (hb hby at_182) rfl ?_
        exact own_rm73 l Z a0 hw hs hx hby hlk hml hret (A0) (A1) (A2) (A3) (A4) (A5) (A6) (A7) s3 ((.val (.ref s4))) (A8) ((.val (.int c2))) ((.val (.int w12))) (A9) j s4 zaa zab wvalue_s3_0 wvalue_s3_1 wvalue_s3_2 wvalue_s3_3 wvalue_s3 k_wvalue_s3 wvalue_s4_0 wvalue_s4_1 wvalue_s4_2 wvalue_s4_3 wvalue_s4 k_wvalue_s4 .null T223.heap n0 Z223 (X223.more (by decide : 31 ≤ _) (by decide : 104 ≤ _)) rfl N223 hS1 hk223 hZ1 hown1  G234 hcs zaf G235 G228 G229 G230 G237 G231 G232 G233 G238 G224 G225 G227 G226
      · have G239 : Arv Z T24.heap wvalue_s4 k_wvalue_s4 .byte (2 : Int32) [(.int wvalue_s4_0), (.int wvalue_s4_1), (.int wvalue_s4_2), (.int wvalue_s4_3)] J0 := hk204 ▸ G42
        show own_FinW p e below s _ _ _ (T24.setTop (mkF m 171 #[A0, A1, A2, A3, A4, A5, A6, A7, rv s3, rv s4, A8, iv c2, iv w12, A9, rv j, iv (1 : Int32), .unset, .unset, .unset] []))
        refine xaloadW X24 hx (hb hby at_171) rfl rfl rfl ?_
        refine xaloadW X24 hx (hb hby at_173) rfl rfl rfl ?_
        refine oVW X24 hx hZ1 hown1 hml (w_ hw 40 rfl) (w_ hw 41 rfl) (w_ hw 43 rfl) (w_ hw 42 rfl) (own_rm55 hw hs j s4 s3 wvalue_s3 k_wvalue_s3 wvalue_s3_0 wvalue_s3_1 wvalue_s3_2 wvalue_s3_3 .null T24.heap n0 Z24 G25 G26 G28 ⟨G29, G30, G31, G201⟩ G27 g_j) (w_ hw 44 rfl) (w_ hw 32 rfl) rfl G25 [(.ref s4)] [] 0 (lenOf own_pd16 rfl) rfl (hb hby at_175) rfl rfl rfl fun T240 L240 v240 X240 hQ240 => ?_
        obtain ⟨N240q, K240q, rfl, G241, G242, G243, G244⟩ := hQ240
        have N240 := Fr.app N24 N240q
        have K240 := K24.trans K240q (own_aW 0 rfl own_a0)
        have Z240 := Nat.le_trans Z24 K240q.1
        have hk240 := Nat.le_trans hk24 K240q.1
        obtain ⟨G245, G246, G247⟩ := own_k2 K240q (ninS (Exa.ne G29 G25 (by decide)) nin0) G29 G30 G31
        obtain ⟨G248, G249, G250⟩ := own_k2 K240q (ninS (Exa.ne G32 G25 (by decide)) nin0) G32 G33 G34
        have G251 := (own_sta_keep G38 K240q (own_nS (own_nst_exa G25) own_n0))
        have G252 := (own_sta_keep G39 K240q (own_nS (own_nst_exa G25) own_n0))
        have G253 := (G25.keep K240q)
        have G254 := (G201.keep K240q (ninS (Ne.symm (Exa.neArv G25 G201 (w_ hw 31 rfl))) nin0))
        have G255 := (G239.keep K240q (ninS (Ne.symm (Exa.neArv G25 G239 (w_ hw 31 rfl))) nin0))
        refine xaloadW X240 hx (hb hby at_178) rfl rfl rfl ?_
        refine xastoreW X240 hx (hb hby at_180) rfl rfl (l' := #[A0, A1, A2, A3, A4, A5, A6, A7, rv s3, rv s4, A8, iv c2, iv w12, A9, rv j, iv (1 : Int32), rv s4, .unset, .unset]) rfl rfl ?_
        refine xgotoW X240 hx 182 199 rfl (hb hby at_182) rfl ?_
        exact own_rm75 l Z a0 hw hs hx hby hlk hml hret (A0) (A1) (A2) (A3) (A4) (A5) (A6) (A7) s3 ((.val (.ref s4))) (A8) ((.val (.int c2))) ((.val (.int w12))) (A9) j s4 zaa zab wvalue_s3_0 wvalue_s3_1 wvalue_s3_2 wvalue_s3_3 wvalue_s3 k_wvalue_s3 wvalue_s4_0 wvalue_s4_1 wvalue_s4_2 wvalue_s4_3 wvalue_s4 k_wvalue_s4 .null T240.heap n0 Z240 (X240.more (by decide : 31 ≤ _) (by decide : 104 ≤ _)) rfl N240 hS1 hk240 hZ1 hown1  G251 hcs zaf G252 G245 G246 G247 G254 G248 G249 G250 G255 G241 G242 G244 G243
    · have G256 : Arv Z T24.heap wvalue_s3 k_wvalue_s3 .byte (1 : Int32) [(.int wvalue_s3_0), (.int wvalue_s3_1), (.int wvalue_s3_2), (.int wvalue_s3_3)] J0 := hk199 ▸ G41
      show own_FinW p e below s _ _ _ (T24.setTop (mkF m 171 #[A0, A1, A2, A3, A4, A5, A6, A7, rv s3, rv s4, A8, iv c2, iv w12, A9, rv j, iv (1 : Int32), .unset, .unset, .unset] []))
      rcases id hls4 with hk257 | hk258 | hk259
      · have G260 : Arv Z T24.heap wvalue_s4 k_wvalue_s4 .byte (0 : Int32) [(.int wvalue_s4_0), (.int wvalue_s4_1), (.int wvalue_s4_2), (.int wvalue_s4_3)] J0 := hk257 ▸ G42
        show own_FinW p e below s _ _ _ (T24.setTop (mkF m 171 #[A0, A1, A2, A3, A4, A5, A6, A7, rv s3, rv s4, A8, iv c2, iv w12, A9, rv j, iv (1 : Int32), .unset, .unset, .unset] []))
        refine xaloadW X24 hx (hb hby at_171) rfl rfl rfl ?_
        refine xaloadW X24 hx (hb hby at_173) rfl rfl rfl ?_
        refine oVW X24 hx hZ1 hown1 hml (w_ hw 40 rfl) (w_ hw 41 rfl) (w_ hw 43 rfl) (w_ hw 42 rfl) (own_rm56 hw hs j s4 s3 wvalue_s3 k_wvalue_s3 ([(.int wvalue_s3_0), (.int wvalue_s3_1), (.int wvalue_s3_2), (.int wvalue_s3_3)]) ((1 : Int32)) .null wvalue_s4 k_wvalue_s4 wvalue_s4_0 wvalue_s4_1 wvalue_s4_2 wvalue_s4_3 T24.heap n0 Z24 G25 G26 G28 ⟨G29, G30, G31, G256⟩ G27 ⟨G32, G33, G34, G260⟩ (show ¬ ((1 : Int32) = (0 : Int32)) from (by first | decide | assumption | exact Nat.le_of_ble_eq_true rfl))) (w_ hw 44 rfl) (w_ hw 32 rfl) rfl G25 [(.ref s4)] [] 0 (lenOf own_pd16 rfl) rfl (hb hby at_175) rfl rfl rfl fun T261 L261 v261 X261 hQ261 => ?_
        obtain ⟨rfl, N261q, e261⟩ := hQ261
        have N261 := Fr.app N24 N261q
        refine xaloadW X261 hx (hb hby at_178) rfl rfl rfl ?_
        refine xastoreW X261 hx (hb hby at_180) rfl rfl (l' := #[A0, A1, A2, A3, A4, A5, A6, A7, rv s3, rv s4, A8, iv c2, iv w12, A9, rv j, iv (1 : Int32), rv s4, .unset, .unset]) rfl rfl ?_
        refine xgotoW X261 hx 182 199 rfl (hb hby at_182) rfl ?_
        exact own_rm77 l Z a0 hw hs hx hby hlk hml hret (A0) (A1) (A2) (A3) (A4) (A5) (A6) (A7) s3 ((.val (.ref s4))) (A8) ((.val (.int c2))) ((.val (.int w12))) (A9) j s4 zaa zab wvalue_s3_0 wvalue_s3_1 wvalue_s3_2 wvalue_s3_3 wvalue_s3 k_wvalue_s3 wvalue_s4_0 wvalue_s4_1 wvalue_s4_2 wvalue_s4_3 wvalue_s4 k_wvalue_s4 .null T24.heap n0 Z24 (X261.more (by decide : 31 ≤ _) (by decide : 104 ≤ _)) e261 N261 hS1 hk24 hZ1 hown1  G38 hcs zaf G39 G29 G30 G31 G256 G32 G33 G34 G260 G25 G26 G28 G27
      · have G262 : Arv Z T24.heap wvalue_s4 k_wvalue_s4 .byte (1 : Int32) [(.int wvalue_s4_0), (.int wvalue_s4_1), (.int wvalue_s4_2), (.int wvalue_s4_3)] J0 := hk258 ▸ G42
        show own_FinW p e below s _ _ _ (T24.setTop (mkF m 171 #[A0, A1, A2, A3, A4, A5, A6, A7, rv s3, rv s4, A8, iv c2, iv w12, A9, rv j, iv (1 : Int32), .unset, .unset, .unset] []))
        refine xaloadW X24 hx (hb hby at_171) rfl rfl rfl ?_
        refine xaloadW X24 hx (hb hby at_173) rfl rfl rfl ?_
        refine oVW X24 hx hZ1 hown1 hml (w_ hw 40 rfl) (w_ hw 41 rfl) (w_ hw 43 rfl) (w_ hw 42 rfl) (own_rm57 hw hs j s4 s3 wvalue_s3 k_wvalue_s3 ([(.int wvalue_s3_0), (.int wvalue_s3_1), (.int wvalue_s3_2), (.int wvalue_s3_3)]) ((1 : Int32)) wvalue_s4 k_wvalue_s4 ([(.int wvalue_s4_0), (.int wvalue_s4_1), (.int wvalue_s4_2), (.int wvalue_s4_3)]) ((1 : Int32)) zaa T24.heap n0 Z24 G25 G26 G28 ⟨G29, G30, G31, G256⟩ G27 ⟨G32, G33, G34, G262⟩ G38 (show ¬ ((1 : Int32) = (0 : Int32)) from (by first | decide | assumption | exact Nat.le_of_ble_eq_true rfl)) (show ¬ ((1 : Int32) = (0 : Int32)) from (by first | decide | assumption | exact Nat.le_of_ble_eq_true rfl)) hcs g_j (show ¬ ((0 : Int32) < (((0 : Int32) + (1 : Int32)) - (16 : Int32))) from (by first | decide | assumption | exact Nat.le_of_ble_eq_true rfl)) (show ¬ ((1 : Int32) < (0 : Int32)) from (by first | decide | assumption | exact Nat.le_of_ble_eq_true rfl)) (show (0 : Int32).toNatClampNeg + (1 : Int32).toNatClampNeg ≤ (16 : Int32).toNatClampNeg from (by first | decide | assumption | exact Nat.le_of_ble_eq_true rfl)) (show (0 : Int32).toNatClampNeg + (1 : Int32).toNatClampNeg ≤ [J0, J0, J0, J0].length from (by first | decide | assumption | exact Nat.le_of_ble_eq_true rfl)) (show ¬ ((0 : Int32) < ((((0 : Int32) + (1 : Int32)) + (1 : Int32)) - (16 : Int32))) from (by first | decide | assumption | exact Nat.le_of_ble_eq_true rfl)) (show ¬ (((0 : Int32) + (1 : Int32)) < (0 : Int32)) from (by first | decide | assumption | exact Nat.le_of_ble_eq_true rfl)) (show ¬ ((1 : Int32) < (0 : Int32)) from (by first | decide | assumption | exact Nat.le_of_ble_eq_true rfl)) (show ((0 : Int32) + (1 : Int32)).toNatClampNeg + (1 : Int32).toNatClampNeg ≤ (16 : Int32).toNatClampNeg from (by first | decide | assumption | exact Nat.le_of_ble_eq_true rfl)) (show ((0 : Int32) + (1 : Int32)).toNatClampNeg + (1 : Int32).toNatClampNeg ≤ (own_cat [J0, J0, J0, J0] [(.int wvalue_s3_0), (.int wvalue_s3_1), (.int wvalue_s3_2), (.int wvalue_s3_3)] (0 : Int32) (1 : Int32)).length from (by first | decide | assumption | exact Nat.le_of_ble_eq_true rfl))) (w_ hw 44 rfl) (w_ hw 32 rfl) rfl G25 [(.ref s4)] [] 0 (lenOf own_pd16 rfl) rfl (hb hby at_175) rfl rfl rfl fun T263 L263 v263 X263 hQ263 => ?_
        obtain ⟨N263q, K263q, b263_o0, gg263_o0, sz263_o0, b263_o1, gg263_o1, sz263_o1, ko0_263, uo0_263, rfl, G264, G265, G266, G267, G268, G269, G270, G271, G272, G273⟩ := hQ263
        have N263 := Fr.app N24 N263q
        have ne263_o1_wvalue_s3 : wvalue_s3 ≠ b263_o1 := Nat.ne_of_lt (Nat.lt_of_lt_of_le G256.lt sz263_o1)
        have ne263_o1_wvalue_s4 : wvalue_s4 ≠ b263_o1 := Nat.ne_of_lt (Nat.lt_of_lt_of_le G262.lt sz263_o1)
        have K263 := K24.trans K263q (own_aW 0 rfl own_a0)
        have Z263 := Nat.le_trans Z24 K263q.1
        have sy263_o0 : h0.size ≤ b263_o0 := Nat.le_trans K24.1 sz263_o0
        have sy263_o1 : h0.size ≤ b263_o1 := Nat.le_trans K24.1 sz263_o1
        have hk263 := Nat.le_trans hk24 K263q.1
        obtain ⟨G274, G275, G276⟩ := own_k2 K263q (ninS (Exa.ne G29 G25 (by decide)) nin0) G29 G30 G31
        obtain ⟨G277, G278, G279⟩ := own_k2 K263q (ninS (Exa.ne G32 G25 (by decide)) nin0) G32 G33 G34
        have G280 := (own_sta_keep G38 K263q (own_nS (own_nst_exa G25) own_n0))
        have G281 := (own_sta_keep G39 K263q (own_nS (own_nst_exa G25) own_n0))
        have G282 := (G25.keep K263q)
        have G283 := (G256.keep K263q (ninS (Ne.symm (Exa.neArv G25 G256 (w_ hw 31 rfl))) nin0))
        have G284 := (G262.keep K263q (ninS (Ne.symm (Exa.neArv G25 G262 (w_ hw 31 rfl))) nin0))
        have G285 : Fld Z T263.heap b263_o0 cN2 "count" "I" J2 := G272
        have G286 : Arv Z T263.heap b263_o1 ko0_263 .byte (16 : Int32) [(.int wvalue_s3_0), (.int wvalue_s4_0), J0, J0] J0 := G273
        refine xaloadW X263 hx (hb hby at_178) rfl rfl rfl ?_
        refine xastoreW X263 hx (hb hby at_180) rfl rfl (l' := #[A0, A1, A2, A3, A4, A5, A6, A7, rv s3, rv s4, A8, iv c2, iv w12, A9, rv j, iv (1 : Int32), rv s4, .unset, .unset]) rfl rfl ?_
        refine xgotoW X263 hx 182 199 rfl (hb hby at_182) rfl ?_
        exact own_rm78 l Z a0 hw hs hx hby hlk hml hret (A0) (A1) (A2) (A3) (A4) (A5) (A6) (A7) s3 ((.val (.ref s4))) (A8) ((.val (.int c2))) ((.val (.int w12))) (A9) j s4 zaa zab wvalue_s3_0 wvalue_s4_0 ((0 : Int32)) ((0 : Int32)) wvalue_s3_1 wvalue_s3_2 wvalue_s3_3 wvalue_s3 k_wvalue_s3 wvalue_s4_1 wvalue_s4_2 wvalue_s4_3 wvalue_s4 k_wvalue_s4 ((.ref s3)) b263_o0 b263_o1 uo0_263 ko0_263 T263.heap n0 Z263 (X263.more (by decide : 33 ≤ _) (by decide : 124 ≤ _)) rfl N263 hS1 hk263 hZ1 hown1  G280 hcs zaf G281 G274 G275 G276 G283 G277 G278 G279 G284 G264 G267 G265 G266 G268 G269 G270 G285 G271 G286
      · have G287 : Arv Z T24.heap wvalue_s4 k_wvalue_s4 .byte (2 : Int32) [(.int wvalue_s4_0), (.int wvalue_s4_1), (.int wvalue_s4_2), (.int wvalue_s4_3)] J0 := hk259 ▸ G42
        show own_FinW p e below s _ _ _ (T24.setTop (mkF m 171 #[A0, A1, A2, A3, A4, A5, A6, A7, rv s3, rv s4, A8, iv c2, iv w12, A9, rv j, iv (1 : Int32), .unset, .unset, .unset] []))
        refine xaloadW X24 hx (hb hby at_171) rfl rfl rfl ?_
        refine xaloadW X24 hx (hb hby at_173) rfl rfl rfl ?_
        refine oVW X24 hx hZ1 hown1 hml (w_ hw 40 rfl) (w_ hw 41 rfl) (w_ hw 43 rfl) (w_ hw 42 rfl) (own_rm57 hw hs j s4 s3 wvalue_s3 k_wvalue_s3 ([(.int wvalue_s3_0), (.int wvalue_s3_1), (.int wvalue_s3_2), (.int wvalue_s3_3)]) ((1 : Int32)) wvalue_s4 k_wvalue_s4 ([(.int wvalue_s4_0), (.int wvalue_s4_1), (.int wvalue_s4_2), (.int wvalue_s4_3)]) ((2 : Int32)) zaa T24.heap n0 Z24 G25 G26 G28 ⟨G29, G30, G31, G256⟩ G27 ⟨G32, G33, G34, G287⟩ G38 (show ¬ ((1 : Int32) = (0 : Int32)) from (by first | decide | assumption | exact Nat.le_of_ble_eq_true rfl)) (show ¬ ((2 : Int32) = (0 : Int32)) from (by first | decide | assumption | exact Nat.le_of_ble_eq_true rfl)) hcs g_j (show ¬ ((0 : Int32) < (((0 : Int32) + (1 : Int32)) - (16 : Int32))) from (by first | decide | assumption | exact Nat.le_of_ble_eq_true rfl)) (show ¬ ((1 : Int32) < (0 : Int32)) from (by first | decide | assumption | exact Nat.le_of_ble_eq_true rfl)) (show (0 : Int32).toNatClampNeg + (1 : Int32).toNatClampNeg ≤ (16 : Int32).toNatClampNeg from (by first | decide | assumption | exact Nat.le_of_ble_eq_true rfl)) (show (0 : Int32).toNatClampNeg + (1 : Int32).toNatClampNeg ≤ [J0, J0, J0, J0].length from (by first | decide | assumption | exact Nat.le_of_ble_eq_true rfl)) (show ¬ ((0 : Int32) < ((((0 : Int32) + (1 : Int32)) + (2 : Int32)) - (16 : Int32))) from (by first | decide | assumption | exact Nat.le_of_ble_eq_true rfl)) (show ¬ (((0 : Int32) + (1 : Int32)) < (0 : Int32)) from (by first | decide | assumption | exact Nat.le_of_ble_eq_true rfl)) (show ¬ ((2 : Int32) < (0 : Int32)) from (by first | decide | assumption | exact Nat.le_of_ble_eq_true rfl)) (show ((0 : Int32) + (1 : Int32)).toNatClampNeg + (2 : Int32).toNatClampNeg ≤ (16 : Int32).toNatClampNeg from (by first | decide | assumption | exact Nat.le_of_ble_eq_true rfl)) (show ((0 : Int32) + (1 : Int32)).toNatClampNeg + (2 : Int32).toNatClampNeg ≤ (own_cat [J0, J0, J0, J0] [(.int wvalue_s3_0), (.int wvalue_s3_1), (.int wvalue_s3_2), (.int wvalue_s3_3)] (0 : Int32) (1 : Int32)).length from (by first | decide | assumption | exact Nat.le_of_ble_eq_true rfl))) (w_ hw 44 rfl) (w_ hw 32 rfl) rfl G25 [(.ref s4)] [] 0 (lenOf own_pd16 rfl) rfl (hb hby at_175) rfl rfl rfl fun T288 L288 v288 X288 hQ288 => ?_
        obtain ⟨N288q, K288q, b288_o0, gg288_o0, sz288_o0, b288_o1, gg288_o1, sz288_o1, ko0_288, uo0_288, rfl, G289, G290, G291, G292, G293, G294, G295, G296, G297, G298⟩ := hQ288
        have N288 := Fr.app N24 N288q
        have ne288_o1_wvalue_s3 : wvalue_s3 ≠ b288_o1 := Nat.ne_of_lt (Nat.lt_of_lt_of_le G256.lt sz288_o1)
        have ne288_o1_wvalue_s4 : wvalue_s4 ≠ b288_o1 := Nat.ne_of_lt (Nat.lt_of_lt_of_le G287.lt sz288_o1)
        have K288 := K24.trans K288q (own_aW 0 rfl own_a0)
        have Z288 := Nat.le_trans Z24 K288q.1
        have sy288_o0 : h0.size ≤ b288_o0 := Nat.le_trans K24.1 sz288_o0
        have sy288_o1 : h0.size ≤ b288_o1 := Nat.le_trans K24.1 sz288_o1
        have hk288 := Nat.le_trans hk24 K288q.1
        obtain ⟨G299, G300, G301⟩ := own_k2 K288q (ninS (Exa.ne G29 G25 (by decide)) nin0) G29 G30 G31
        obtain ⟨G302, G303, G304⟩ := own_k2 K288q (ninS (Exa.ne G32 G25 (by decide)) nin0) G32 G33 G34
        have G305 := (own_sta_keep G38 K288q (own_nS (own_nst_exa G25) own_n0))
        have G306 := (own_sta_keep G39 K288q (own_nS (own_nst_exa G25) own_n0))
        have G307 := (G25.keep K288q)
        have G308 := (G256.keep K288q (ninS (Ne.symm (Exa.neArv G25 G256 (w_ hw 31 rfl))) nin0))
        have G309 := (G287.keep K288q (ninS (Ne.symm (Exa.neArv G25 G287 (w_ hw 31 rfl))) nin0))
        have G310 : Fld Z T288.heap b288_o0 cN2 "count" "I" J3 := G297
        have G311 : Arv Z T288.heap b288_o1 ko0_288 .byte (16 : Int32) [(.int wvalue_s3_0), (.int wvalue_s4_0), (.int wvalue_s4_1), J0] J0 := G298
        refine xaloadW X288 hx (hb hby at_178) rfl rfl rfl ?_
        refine xastoreW X288 hx (hb hby at_180) rfl rfl (l' := #[A0, A1, A2, A3, A4, A5, A6, A7, rv s3, rv s4, A8, iv c2, iv w12, A9, rv j, iv (1 : Int32), rv s4, .unset, .unset]) rfl rfl ?_
        refine xgotoW X288 hx 182 199 rfl (hb hby at_182) rfl ?_
        exact own_rm79 l Z a0 hw hs hx hby hlk hml hret (A0) (A1) (A2) (A3) (A4) (A5) (A6) (A7) s3 ((.val (.ref s4))) (A8) ((.val (.int c2))) ((.val (.int w12))) (A9) j s4 zaa zab wvalue_s3_0 wvalue_s4_0 wvalue_s4_1 ((0 : Int32)) wvalue_s3_1 wvalue_s3_2 wvalue_s3_3 wvalue_s3 k_wvalue_s3 wvalue_s4_2 wvalue_s4_3 wvalue_s4 k_wvalue_s4 ((.ref s3)) b288_o0 b288_o1 uo0_288 ko0_288 T288.heap n0 Z288 (X288.more (by decide : 33 ≤ _) (by decide : 124 ≤ _)) rfl N288 hS1 hk288 hZ1 hown1  G305 hcs zaf G306 G299 G300 G301 G308 G302 G303 G304 G309 G289 G292 G290 G291 G293 G294 G295 G310 G296 G311
    · have G312 : Arv Z T24.heap wvalue_s3 k_wvalue_s3 .byte (2 : Int32) [(.int wvalue_s3_0), (.int wvalue_s3_1), (.int wvalue_s3_2), (.int wvalue_s3_3)] J0 := hk200 ▸ G41
      show own_FinW p e below s _ _ _ (T24.setTop (mkF m 171 #[A0, A1, A2, A3, A4, A5, A6, A7, rv s3, rv s4, A8, iv c2, iv w12, A9, rv j, iv (1 : Int32), .unset, .unset, .unset] []))
      rcases id hls4 with hk313 | hk314 | hk315
      · have G316 : Arv Z T24.heap wvalue_s4 k_wvalue_s4 .byte (0 : Int32) [(.int wvalue_s4_0), (.int wvalue_s4_1), (.int wvalue_s4_2), (.int wvalue_s4_3)] J0 := hk313 ▸ G42
        show own_FinW p e below s _ _ _ (T24.setTop (mkF m 171 #[A0, A1, A2, A3, A4, A5, A6, A7, rv s3, rv s4, A8, iv c2, iv w12, A9, rv j, iv (1 : Int32), .unset, .unset, .unset] []))
        refine xaloadW X24 hx (hb hby at_171) rfl rfl rfl ?_
        refine xaloadW X24 hx (hb hby at_173) rfl rfl rfl ?_
        refine oVW X24 hx hZ1 hown1 hml (w_ hw 40 rfl) (w_ hw 41 rfl) (w_ hw 43 rfl) (w_ hw 42 rfl) (own_rm56 hw hs j s4 s3 wvalue_s3 k_wvalue_s3 ([(.int wvalue_s3_0), (.int wvalue_s3_1), (.int wvalue_s3_2), (.int wvalue_s3_3)]) ((2 : Int32)) .null wvalue_s4 k_wvalue_s4 wvalue_s4_0 wvalue_s4_1 wvalue_s4_2 wvalue_s4_3 T24.heap n0 Z24 G25 G26 G28 ⟨G29, G30, G31, G312⟩ G27 ⟨G32, G33, G34, G316⟩ (show ¬ ((2 : Int32) = (0 : Int32)) from (by first | decide | assumption | exact Nat.le_of_ble_eq_true rfl))) (w_ hw 44 rfl) (w_ hw 32 rfl) rfl G25 [(.ref s4)] [] 0 (lenOf own_pd16 rfl) rfl (hb hby at_175) rfl rfl rfl fun T317 L317 v317 X317 hQ317 => ?_
        obtain ⟨rfl, N317q, e317⟩ := hQ317
        have N317 := Fr.app N24 N317q
        refine xaloadW X317 hx (hb hby at_178) rfl rfl rfl ?_
        refine xastoreW X317 hx (hb hby at_180) rfl rfl (l' := #[A0, A1, A2, A3, A4, A5, A6, A7, rv s3, rv s4, A8, iv c2, iv w12, A9, rv j, iv (1 : Int32), rv s4, .unset, .unset]) rfl rfl ?_
        refine xgotoW X317 hx 182 199 rfl (hb hby at_182) rfl ?_
        exact own_rm80 l Z a0 hw hs hx hby hlk hml hret (A0) (A1) (A2) (A3) (A4) (A5) (A6) (A7) s3 ((.val (.ref s4))) (A8) ((.val (.int c2))) ((.val (.int w12))) (A9) j s4 zaa zab wvalue_s3_0 wvalue_s3_1 wvalue_s3_2 wvalue_s3_3 wvalue_s3 k_wvalue_s3 wvalue_s4_0 wvalue_s4_1 wvalue_s4_2 wvalue_s4_3 wvalue_s4 k_wvalue_s4 .null T24.heap n0 Z24 (X317.more (by decide : 31 ≤ _) (by decide : 104 ≤ _)) e317 N317 hS1 hk24 hZ1 hown1  G38 hcs zaf G39 G29 G30 G31 G312 G32 G33 G34 G316 G25 G26 G28 G27
      · have G318 : Arv Z T24.heap wvalue_s4 k_wvalue_s4 .byte (1 : Int32) [(.int wvalue_s4_0), (.int wvalue_s4_1), (.int wvalue_s4_2), (.int wvalue_s4_3)] J0 := hk314 ▸ G42
        show own_FinW p e below s _ _ _ (T24.setTop (mkF m 171 #[A0, A1, A2, A3, A4, A5, A6, A7, rv s3, rv s4, A8, iv c2, iv w12, A9, rv j, iv (1 : Int32), .unset, .unset, .unset] []))
        refine xaloadW X24 hx (hb hby at_171) rfl rfl rfl ?_
        refine xaloadW X24 hx (hb hby at_173) rfl rfl rfl ?_
        refine oVW X24 hx hZ1 hown1 hml (w_ hw 40 rfl) (w_ hw 41 rfl) (w_ hw 43 rfl) (w_ hw 42 rfl) (own_rm57 hw hs j s4 s3 wvalue_s3 k_wvalue_s3 ([(.int wvalue_s3_0), (.int wvalue_s3_1), (.int wvalue_s3_2), (.int wvalue_s3_3)]) ((2 : Int32)) wvalue_s4 k_wvalue_s4 ([(.int wvalue_s4_0), (.int wvalue_s4_1), (.int wvalue_s4_2), (.int wvalue_s4_3)]) ((1 : Int32)) zaa T24.heap n0 Z24 G25 G26 G28 ⟨G29, G30, G31, G312⟩ G27 ⟨G32, G33, G34, G318⟩ G38 (show ¬ ((2 : Int32) = (0 : Int32)) from (by first | decide | assumption | exact Nat.le_of_ble_eq_true rfl)) (show ¬ ((1 : Int32) = (0 : Int32)) from (by first | decide | assumption | exact Nat.le_of_ble_eq_true rfl)) hcs g_j (show ¬ ((0 : Int32) < (((0 : Int32) + (2 : Int32)) - (16 : Int32))) from (by first | decide | assumption | exact Nat.le_of_ble_eq_true rfl)) (show ¬ ((2 : Int32) < (0 : Int32)) from (by first | decide | assumption | exact Nat.le_of_ble_eq_true rfl)) (show (0 : Int32).toNatClampNeg + (2 : Int32).toNatClampNeg ≤ (16 : Int32).toNatClampNeg from (by first | decide | assumption | exact Nat.le_of_ble_eq_true rfl)) (show (0 : Int32).toNatClampNeg + (2 : Int32).toNatClampNeg ≤ [J0, J0, J0, J0].length from (by first | decide | assumption | exact Nat.le_of_ble_eq_true rfl)) (show ¬ ((0 : Int32) < ((((0 : Int32) + (2 : Int32)) + (1 : Int32)) - (16 : Int32))) from (by first | decide | assumption | exact Nat.le_of_ble_eq_true rfl)) (show ¬ (((0 : Int32) + (2 : Int32)) < (0 : Int32)) from (by first | decide | assumption | exact Nat.le_of_ble_eq_true rfl)) (show ¬ ((1 : Int32) < (0 : Int32)) from (by first | decide | assumption | exact Nat.le_of_ble_eq_true rfl)) (show ((0 : Int32) + (2 : Int32)).toNatClampNeg + (1 : Int32).toNatClampNeg ≤ (16 : Int32).toNatClampNeg from (by first | decide | assumption | exact Nat.le_of_ble_eq_true rfl)) (show ((0 : Int32) + (2 : Int32)).toNatClampNeg + (1 : Int32).toNatClampNeg ≤ (own_cat [J0, J0, J0, J0] [(.int wvalue_s3_0), (.int wvalue_s3_1), (.int wvalue_s3_2), (.int wvalue_s3_3)] (0 : Int32) (2 : Int32)).length from (by first | decide | assumption | exact Nat.le_of_ble_eq_true rfl))) (w_ hw 44 rfl) (w_ hw 32 rfl) rfl G25 [(.ref s4)] [] 0 (lenOf own_pd16 rfl) rfl (hb hby at_175) rfl rfl rfl fun T319 L319 v319 X319 hQ319 => ?_
        obtain ⟨N319q, K319q, b319_o0, gg319_o0, sz319_o0, b319_o1, gg319_o1, sz319_o1, ko0_319, uo0_319, rfl, G320, G321, G322, G323, G324, G325, G326, G327, G328, G329⟩ := hQ319
        have N319 := Fr.app N24 N319q
        have ne319_o1_wvalue_s3 : wvalue_s3 ≠ b319_o1 := Nat.ne_of_lt (Nat.lt_of_lt_of_le G312.lt sz319_o1)
        have ne319_o1_wvalue_s4 : wvalue_s4 ≠ b319_o1 := Nat.ne_of_lt (Nat.lt_of_lt_of_le G318.lt sz319_o1)
        have K319 := K24.trans K319q (own_aW 0 rfl own_a0)
        have Z319 := Nat.le_trans Z24 K319q.1
        have sy319_o0 : h0.size ≤ b319_o0 := Nat.le_trans K24.1 sz319_o0
        have sy319_o1 : h0.size ≤ b319_o1 := Nat.le_trans K24.1 sz319_o1
        have hk319 := Nat.le_trans hk24 K319q.1
        obtain ⟨G330, G331, G332⟩ := own_k2 K319q (ninS (Exa.ne G29 G25 (by decide)) nin0) G29 G30 G31
        obtain ⟨G333, G334, G335⟩ := own_k2 K319q (ninS (Exa.ne G32 G25 (by decide)) nin0) G32 G33 G34
        have G336 := (own_sta_keep G38 K319q (own_nS (own_nst_exa G25) own_n0))
        have G337 := (own_sta_keep G39 K319q (own_nS (own_nst_exa G25) own_n0))
        have G338 := (G25.keep K319q)
        have G339 := (G312.keep K319q (ninS (Ne.symm (Exa.neArv G25 G312 (w_ hw 31 rfl))) nin0))
        have G340 := (G318.keep K319q (ninS (Ne.symm (Exa.neArv G25 G318 (w_ hw 31 rfl))) nin0))
        have G341 : Fld Z T319.heap b319_o0 cN2 "count" "I" J3 := G328
        have G342 : Arv Z T319.heap b319_o1 ko0_319 .byte (16 : Int32) [(.int wvalue_s3_0), (.int wvalue_s3_1), (.int wvalue_s4_0), J0] J0 := G329
        refine xaloadW X319 hx (hb hby at_178) rfl rfl rfl ?_
        refine xastoreW X319 hx (hb hby at_180) rfl rfl (l' := #[A0, A1, A2, A3, A4, A5, A6, A7, rv s3, rv s4, A8, iv c2, iv w12, A9, rv j, iv (1 : Int32), rv s4, .unset, .unset]) rfl rfl ?_
        refine xgotoW X319 hx 182 199 rfl (hb hby at_182) rfl ?_
        exact own_rm81 l Z a0 hw hs hx hby hlk hml hret (A0) (A1) (A2) (A3) (A4) (A5) (A6) (A7) s3 ((.val (.ref s4))) (A8) ((.val (.int c2))) ((.val (.int w12))) (A9) j s4 zaa zab wvalue_s3_0 wvalue_s3_1 wvalue_s4_0 ((0 : Int32)) wvalue_s3_2 wvalue_s3_3 wvalue_s3 k_wvalue_s3 wvalue_s4_1 wvalue_s4_2 wvalue_s4_3 wvalue_s4 k_wvalue_s4 ((.ref s3)) b319_o0 b319_o1 uo0_319 ko0_319 T319.heap n0 Z319 (X319.more (by decide : 33 ≤ _) (by decide : 124 ≤ _)) rfl N319 hS1 hk319 hZ1 hown1  G336 hcs zaf G337 G330 G331 G332 G339 G333 G334 G335 G340 G320 G323 G321 G322 G324 G325 G326 G341 G327 G342
      · have G343 : Arv Z T24.heap wvalue_s4 k_wvalue_s4 .byte (2 : Int32) [(.int wvalue_s4_0), (.int wvalue_s4_1), (.int wvalue_s4_2), (.int wvalue_s4_3)] J0 := hk315 ▸ G42
        show own_FinW p e below s _ _ _ (T24.setTop (mkF m 171 #[A0, A1, A2, A3, A4, A5, A6, A7, rv s3, rv s4, A8, iv c2, iv w12, A9, rv j, iv (1 : Int32), .unset, .unset, .unset] []))
        refine xaloadW X24 hx (hb hby at_171) rfl rfl rfl ?_
        refine xaloadW X24 hx (hb hby at_173) rfl rfl rfl ?_
        refine oVW X24 hx hZ1 hown1 hml (w_ hw 40 rfl) (w_ hw 41 rfl) (w_ hw 43 rfl) (w_ hw 42 rfl) (own_rm57 hw hs j s4 s3 wvalue_s3 k_wvalue_s3 ([(.int wvalue_s3_0), (.int wvalue_s3_1), (.int wvalue_s3_2), (.int wvalue_s3_3)]) ((2 : Int32)) wvalue_s4 k_wvalue_s4 ([(.int wvalue_s4_0), (.int wvalue_s4_1), (.int wvalue_s4_2), (.int wvalue_s4_3)]) ((2 : Int32)) zaa T24.heap n0 Z24 G25 G26 G28 ⟨G29, G30, G31, G312⟩ G27 ⟨G32, G33, G34, G343⟩ G38 (show ¬ ((2 : Int32) = (0 : Int32)) from (by first | decide | assumption | exact Nat.le_of_ble_eq_true rfl)) (show ¬ ((2 : Int32) = (0 : Int32)) from (by first | decide | assumption | exact Nat.le_of_ble_eq_true rfl)) hcs g_j (show ¬ ((0 : Int32) < (((0 : Int32) + (2 : Int32)) - (16 : Int32))) from (by first | decide | assumption | exact Nat.le_of_ble_eq_true rfl)) (show ¬ ((2 : Int32) < (0 : Int32)) from (by first | decide | assumption | exact Nat.le_of_ble_eq_true rfl)) (show (0 : Int32).toNatClampNeg + (2 : Int32).toNatClampNeg ≤ (16 : Int32).toNatClampNeg from (by first | decide | assumption | exact Nat.le_of_ble_eq_true rfl)) (show (0 : Int32).toNatClampNeg + (2 : Int32).toNatClampNeg ≤ [J0, J0, J0, J0].length from (by first | decide | assumption | exact Nat.le_of_ble_eq_true rfl)) (show ¬ ((0 : Int32) < ((((0 : Int32) + (2 : Int32)) + (2 : Int32)) - (16 : Int32))) from (by first | decide | assumption | exact Nat.le_of_ble_eq_true rfl)) (show ¬ (((0 : Int32) + (2 : Int32)) < (0 : Int32)) from (by first | decide | assumption | exact Nat.le_of_ble_eq_true rfl)) (show ¬ ((2 : Int32) < (0 : Int32)) from (by first | decide | assumption | exact Nat.le_of_ble_eq_true rfl)) (show ((0 : Int32) + (2 : Int32)).toNatClampNeg + (2 : Int32).toNatClampNeg ≤ (16 : Int32).toNatClampNeg from (by first | decide | assumption | exact Nat.le_of_ble_eq_true rfl)) (show ((0 : Int32) + (2 : Int32)).toNatClampNeg + (2 : Int32).toNatClampNeg ≤ (own_cat [J0, J0, J0, J0] [(.int wvalue_s3_0), (.int wvalue_s3_1), (.int wvalue_s3_2), (.int wvalue_s3_3)] (0 : Int32) (2 : Int32)).length from (by first | decide | assumption | exact Nat.le_of_ble_eq_true rfl))) (w_ hw 44 rfl) (w_ hw 32 rfl) rfl G25 [(.ref s4)] [] 0 (lenOf own_pd16 rfl) rfl (hb hby at_175) rfl rfl rfl fun T344 L344 v344 X344 hQ344 => ?_
        obtain ⟨N344q, K344q, b344_o0, gg344_o0, sz344_o0, b344_o1, gg344_o1, sz344_o1, ko0_344, uo0_344, rfl, G345, G346, G347, G348, G349, G350, G351, G352, G353, G354⟩ := hQ344
        have N344 := Fr.app N24 N344q
        have ne344_o1_wvalue_s3 : wvalue_s3 ≠ b344_o1 := Nat.ne_of_lt (Nat.lt_of_lt_of_le G312.lt sz344_o1)
        have ne344_o1_wvalue_s4 : wvalue_s4 ≠ b344_o1 := Nat.ne_of_lt (Nat.lt_of_lt_of_le G343.lt sz344_o1)
        have K344 := K24.trans K344q (own_aW 0 rfl own_a0)
        have Z344 := Nat.le_trans Z24 K344q.1
        have sy344_o0 : h0.size ≤ b344_o0 := Nat.le_trans K24.1 sz344_o0
        have sy344_o1 : h0.size ≤ b344_o1 := Nat.le_trans K24.1 sz344_o1
        have hk344 := Nat.le_trans hk24 K344q.1
        obtain ⟨G355, G356, G357⟩ := own_k2 K344q (ninS (Exa.ne G29 G25 (by decide)) nin0) G29 G30 G31
        obtain ⟨G358, G359, G360⟩ := own_k2 K344q (ninS (Exa.ne G32 G25 (by decide)) nin0) G32 G33 G34
        have G361 := (own_sta_keep G38 K344q (own_nS (own_nst_exa G25) own_n0))
        have G362 := (own_sta_keep G39 K344q (own_nS (own_nst_exa G25) own_n0))
        have G363 := (G25.keep K344q)
        have G364 := (G312.keep K344q (ninS (Ne.symm (Exa.neArv G25 G312 (w_ hw 31 rfl))) nin0))
        have G365 := (G343.keep K344q (ninS (Ne.symm (Exa.neArv G25 G343 (w_ hw 31 rfl))) nin0))
        have G366 : Fld Z T344.heap b344_o0 cN2 "count" "I" J4 := G353
        have G367 : Arv Z T344.heap b344_o1 ko0_344 .byte (16 : Int32) [(.int wvalue_s3_0), (.int wvalue_s3_1), (.int wvalue_s4_0), (.int wvalue_s4_1)] J0 := G354
        refine xaloadW X344 hx (hb hby at_178) rfl rfl rfl ?_
        refine xastoreW X344 hx (hb hby at_180) rfl rfl (l' := #[A0, A1, A2, A3, A4, A5, A6, A7, rv s3, rv s4, A8, iv c2, iv w12, A9, rv j, iv (1 : Int32), rv s4, .unset, .unset]) rfl rfl ?_
        refine xgotoW X344 hx 182 199 rfl (hb hby at_182) rfl ?_
        exact own_rm82 l Z a0 hw hs hx hby hlk hml hret (A0) (A1) (A2) (A3) (A4) (A5) (A6) (A7) s3 ((.val (.ref s4))) (A8) ((.val (.int c2))) ((.val (.int w12))) (A9) j s4 zaa zab wvalue_s3_0 wvalue_s3_1 wvalue_s4_0 wvalue_s4_1 wvalue_s3_2 wvalue_s3_3 wvalue_s3 k_wvalue_s3 wvalue_s4_2 wvalue_s4_3 wvalue_s4 k_wvalue_s4 ((.ref s3)) b344_o0 b344_o1 uo0_344 ko0_344 T344.heap n0 Z344 (X344.more (by decide : 33 ≤ _) (by decide : 124 ≤ _)) rfl N344 hS1 hk344 hZ1 hown1  G361 hcs zaf G362 G355 G356 G357 G364 G358 G359 G360 G365 G345 G348 G346 G347 G349 G350 G351 G366 G352 G367

def own_Q84 (Z : State) (A0 : Slot) (A1 : Slot) (A2 : Slot) (A3 : Slot) (A4 : Slot) (A5 : Slot) (A6 : Slot) (A7 : Slot) (s3 : Addr) (s4 : Addr) (A8 : Slot) (c2 : Int32) (w12 : Int32) (A9 : Slot) (j : Addr) (zaa : Int32) (zab : Value) (upiece_j : Value) (ujoined_j : Value) (wpieces_j : Addr) (wvalue_wpieces_j : Addr) (wcount_wpieces_j : Int32) (umaybeLatin1_wpieces_j : Value) (k_wvalue_wpieces_j : ClassId) (wvalue_wpieces_j_0 : Int32) (wvalue_wpieces_j_1 : Int32) (wvalue_wpieces_j_2 : Int32) (wvalue_wpieces_j_3 : Int32) (wvalue_s3 : Addr) (k_wvalue_s3 : ClassId) (wvalue_s3_0 : Int32) (wvalue_s3_1 : Int32) (wvalue_s3_2 : Int32) (wvalue_s3_3 : Int32) (n_wvalue_s3 : Int32) (wvalue_s4 : Addr) (k_wvalue_s4 : ClassId) (wvalue_s4_0 : Int32) (wvalue_s4_1 : Int32) (wvalue_s4_2 : Int32) (wvalue_s4_3 : Int32) (n_wvalue_s4 : Int32) (h0 : Heap) (n0 : Nat) (v : Option Value) (h : Heap) (L : List Loc) : Prop := v = some (.int 1) ∧ Fr n0 L
set_option maxRecDepth 65536 in
set_option maxHeartbeats 40000000 in
theorem own_rm84 (l : Launch) (Z : State) (a0 : Array Value) (hw : ∀ d ∈ tables_1, d.before a0 Z = true) (hs : ∀ d ∈ jdkStatics_1, d.before a0 Z = true) {p : Program} {e : Env} {s : State} {m : MethodId} {args : Array Value} {below : List Frame} {meth : Method} {c : Code} (hx : p.tables.exec = Jvm.exec) (hby : c.code = code) (hlk : meth.locks = false) (hml : c.maxLocals = 19) (hret : meth.sig.returnType = ret) (A0 : Slot) (A1 : Slot) (A2 : Slot) (A3 : Slot) (A4 : Slot) (A5 : Slot) (A6 : Slot) (A7 : Slot) (s3 : Addr) (s4 : Addr) (A8 : Slot) (c2 : Int32) (w12 : Int32) (A9 : Slot) (j : Addr) (zaa : Int32) (zab : Value) (upiece_j : Value) (ujoined_j : Value) (wpieces_j : Addr) (wvalue_wpieces_j : Addr) (wcount_wpieces_j : Int32) (umaybeLatin1_wpieces_j : Value) (k_wvalue_wpieces_j : ClassId) (wvalue_wpieces_j_0 : Int32) (wvalue_wpieces_j_1 : Int32) (wvalue_wpieces_j_2 : Int32) (wvalue_wpieces_j_3 : Int32) (wvalue_s3 : Addr) (k_wvalue_s3 : ClassId) (wvalue_s3_0 : Int32) (wvalue_s3_1 : Int32) (wvalue_s3_2 : Int32) (wvalue_s3_3 : Int32) (n_wvalue_s3 : Int32) (wvalue_s4 : Addr) (k_wvalue_s4 : ClassId) (wvalue_s4_0 : Int32) (wvalue_s4_1 : Int32) (wvalue_s4_2 : Int32) (wvalue_s4_3 : Int32) (n_wvalue_s4 : Int32) (h0 : Heap) (n0 : Nat) (Z0 : n0 ≤ h0.size) {vm0 : Vm} {s₁ : State} {locs : List Loc} (X0 : Stand p l e room_1 (s.setVm vm0) m args below meth c s₁ locs 29 100) (e0 : s₁.heap = h0) (N0 : Fr n0 locs) {k0 : Nat} (hS0 : s.Since vm0 k0) (hk0 : k0 ≤ h0.size) (hZ : Z.Warmed39 (s.setVm vm0).vm) (hown : (s.setVm vm0).vm.findClass "com/example/nearfield/nearfield/JoinedTextClearPinLaw" = some m.cls) (H0 : CHr Z consts_1 s.vm s.heap vm0 h0) (zac : Sta Z h0 cN0 "COMPACT_STRINGS" "Z" (.int zaa)) (hcs : ¬ (zaa = (0 : Int32))) (zaf : zab.isRef = true) (zan : Sta Z h0 "jdk/internal/util/Preconditions" "SIOOBE_FORMATTER" "Ljava/util/function/BiFunction;" zab) (E_j : Exa Z h0 j cN3) (F_piece_j : Fld Z h0 j cN3 "piece" "Ljava/lang/String;" upiece_j) (F_joined_j : Fld Z h0 j cN3 "joined" "Z" ujoined_j) (F_pieces_j : Fld Z h0 j cN3 "pieces" "Ljava/lang/StringBuilder;" (.ref wpieces_j)) (E_wpieces_j : Exa Z h0 wpieces_j cN1) (F_value_wpieces_j : Fld Z h0 wpieces_j cN2 "value" "[B" (.ref wvalue_wpieces_j)) (F_coder_wpieces_j : Fld Z h0 wpieces_j cN2 "coder" "B" J0) (F_count_wpieces_j : Fld Z h0 wpieces_j cN2 "count" "I" (.int wcount_wpieces_j)) (F_maybeLatin1_wpieces_j : Fld Z h0 wpieces_j cN2 "maybeLatin1" "Z" umaybeLatin1_wpieces_j) (A_wvalue_wpieces_j : Arv Z h0 wvalue_wpieces_j k_wvalue_wpieces_j .byte (16 : Int32) [(.int wvalue_wpieces_j_0), (.int wvalue_wpieces_j_1), (.int wvalue_wpieces_j_2), (.int wvalue_wpieces_j_3)] J0) (hcnt : ¬ (wcount_wpieces_j < (0 : Int32))) (E_s3 : Exa Z h0 s3 cN0) (F_value_s3 : Fld Z h0 s3 cN0 "value" "[B" (.ref wvalue_s3)) (F_coder_s3 : Fld Z h0 s3 cN0 "coder" "B" J0) (A_wvalue_s3 : Arv Z h0 wvalue_s3 k_wvalue_s3 .byte n_wvalue_s3 [(.int wvalue_s3_0), (.int wvalue_s3_1), (.int wvalue_s3_2), (.int wvalue_s3_3)] J0) (hls3 : own_L n_wvalue_s3) (E_s4 : Exa Z h0 s4 cN0) (F_value_s4 : Fld Z h0 s4 cN0 "value" "[B" (.ref wvalue_s4)) (F_coder_s4 : Fld Z h0 s4 cN0 "coder" "B" J0) (A_wvalue_s4 : Arv Z h0 wvalue_s4 k_wvalue_s4 .byte n_wvalue_s4 [(.int wvalue_s4_0), (.int wvalue_s4_1), (.int wvalue_s4_2), (.int wvalue_s4_3)] J0) (hls4 : own_L n_wvalue_s4) (hc2 : ¬ ((255 : Int32) < c2)) (g_j : n0 ≤ j) (g_wpieces_j : n0 ≤ wpieces_j) (g_wvalue_wpieces_j : n0 ≤ wvalue_wpieces_j) (ne_wvalue_s4_wvalue_wpieces_j : wvalue_s4 ≠ wvalue_wpieces_j) :
    own_FinW p e below s room_1.cells room_1.slots (own_Q84 Z A0 A1 A2 A3 A4 A5 A6 A7 s3 s4 A8 c2 w12 A9 j zaa zab upiece_j ujoined_j wpieces_j wvalue_wpieces_j wcount_wpieces_j umaybeLatin1_wpieces_j k_wvalue_wpieces_j wvalue_wpieces_j_0 wvalue_wpieces_j_1 wvalue_wpieces_j_2 wvalue_wpieces_j_3 wvalue_s3 k_wvalue_s3 wvalue_s3_0 wvalue_s3_1 wvalue_s3_2 wvalue_s3_3 n_wvalue_s3 wvalue_s4 k_wvalue_s4 wvalue_s4_0 wvalue_s4_1 wvalue_s4_2 wvalue_s4_3 n_wvalue_s4 h0 n0) (s₁.setTop (mkF m 116 #[A0, A1, A2, A3, A4, A5, A6, A7, rv s3, rv s4, A8, iv c2, iv w12, A9, rv j, .unset, .unset, .unset, .unset] [])) := by
  have KR : Keep h0 h0 [j, wpieces_j, wvalue_wpieces_j] := Keep.refl _ _
  refine xaloadW X0 hx (hb hby at_116) rfl rfl rfl ?_
  obtain ⟨cq1, kq1, q1a, q1b, q1c⟩ := isOf hZ e0 E_j
  obtain ⟨_, _, ⟨T1, L1, k1, n1⟩, -, Y1, hT1, hg1, ⟨Lc1, hQ1, l1, y1, z1, hC1⟩, st1⟩ := X0.virtualBackS hx (y := own_y20) (z := own_y20) hown (mvT hZ (w_ hw 156 rfl)) (mvT hZ (w_ hw 157 rfl)) (notFace_of_selects (args := #[]) (mvT hZ (w_ hw 159 rfl))) (mvT hZ (w_ hw 159 rfl)) (mvT hZ (w_ hw 158 rfl)) (by decide) (backOfSH (W := 0) (own_rm30 hw hs j upiece_j ujoined_j ((.ref wpieces_j)) h0 n0 Z0 E_j F_piece_j F_joined_j F_pieces_j g_j) hZ (w_ hw 160 rfl) (w_ hw 32 rfl) (by decide) (by decide) (own_ew hw) H0.1) q1a q1c (g := (mkF m 118 #[A0, A1, A2, A3, A4, A5, A6, A7, rv s3, rv s4, A8, iv c2, iv w12, A9, rv j, .unset, .unset, .unset, .unset] [(.ref j)])) rfl (by rw [hml]; rfl) (Steps.refl _) (argsL := []) (rest := []) (lenOf own_pd26 rfl) rfl (by show 2 * 0 + _ ≤ _; exact Nat.le_of_eq rfl) (hb hby at_118) (fun _ _ => ⟨rfl, e0, (by decide : 29 + 2 ≤ _), (by decide : 100 + 4 ≤ _)⟩)
  dsimp only [Pt.U, Pt.locs, Pt.cells, Pt.slots] at Y1 hT1 hg1 l1 y1 z1 st1 hQ1 hC1
  subst l1 y1 z1
  obtain ⟨X1, hS1, hZ1, hown1⟩ := rebS hS0 (by rw [e0]; exact hk0) Y1 hT1 hg1 hZ hown
  have H1 := H0.trans hC1
  obtain ⟨N1q, K1q, b1_x0, b1_x1, ko0_1, rfl, G2, G3, G4, G5, G6, G7, G8, G9⟩ := hQ1
  have N1 := Fr.app N0 N1q
  have K1 := KR.trans K1q (own_aW 0 rfl own_a0)
  have Z1 := Nat.le_trans Z0 K1q.1
  have hk1 := Nat.le_refl T1.heap.size
  obtain ⟨G10, G11, G12, G13, G14⟩ := own_k4 K1q (ninS (Exa.ne E_wpieces_j E_j (by decide)) nin0) E_wpieces_j F_value_wpieces_j F_coder_wpieces_j F_count_wpieces_j F_maybeLatin1_wpieces_j
  obtain ⟨G15, G16, G17⟩ := own_k2 K1q (ninS (Exa.ne E_s3 E_j (by decide)) nin0) E_s3 F_value_s3 F_coder_s3
  obtain ⟨G18, G19, G20⟩ := own_k2 K1q (ninS (Exa.ne E_s4 E_j (by decide)) nin0) E_s4 F_value_s4 F_coder_s4
  have G21 := (own_sta_keep zac K1q (own_nS (own_nst_exa E_j) own_n0))
  have G22 := (own_sta_keep zan K1q (own_nS (own_nst_exa E_j) own_n0))
  have G23 := (E_j.keep K1q)
  have G24 := (A_wvalue_wpieces_j.keep K1q (ninS (Ne.symm (Exa.neArv E_j A_wvalue_wpieces_j (w_ hw 31 rfl))) nin0))
  have G25 := (A_wvalue_s3.keep K1q (ninS (Ne.symm (Exa.neArv E_j A_wvalue_s3 (w_ hw 31 rfl))) nin0))
  have G26 := (A_wvalue_s4.keep K1q (ninS (Ne.symm (Exa.neArv E_j A_wvalue_s4 (w_ hw 31 rfl))) nin0))
  refine own_stepW (fun _ k => st1.trans k) ?_
  refine xaloadW X1 hx (hb hby at_121) rfl rfl rfl ?_
  refine oVW X1 hx hZ1 hown1 hml (w_ hw 161 rfl) (w_ hw 162 rfl) (w_ hw 164 rfl) (w_ hw 163 rfl) (own_rm61 hw hs j b1_x0 b1_x1 ko0_1 ([J0, J0, J0, J0]) ((0 : Int32)) ((.ref wpieces_j)) zaa T1.heap n0 Z1 G2 G5 G4 ⟨G6, G8, G7, G9⟩ G3 G21 hcs) (w_ hw 165 rfl) (w_ hw 32 rfl) rfl G2 [] [] 0 (lenOf own_pd18 rfl) rfl (hb hby at_123) rfl rfl rfl fun T27 L27 v27 X27 hQ27 => ?_
  obtain ⟨rfl, N27q, e27⟩ := hQ27
  have N27 := Fr.app N1 N27q
  refine xifNoW X27 hx (hb hby at_126) rfl ((if0 _ _).trans (teq (by decide : (0 : Int32) = (0 : Int32))).2) rfl ?_
  refine xiconstW X27 hx (hb hby at_129) rfl ?_
  refine xgotoW X27 hx 130 134 rfl (hb hby at_130) rfl ?_
  refine xistoreW X27 hx (hb hby at_134) rfl (l' := #[A0, A1, A2, A3, A4, A5, A6, A7, rv s3, rv s4, A8, iv c2, iv w12, A9, rv j, iv (1 : Int32), .unset, .unset, .unset]) rfl rfl ?_
  refine xiloadW X27 hx (hb hby at_136) rfl rfl ?_
  show own_FinW p e below s _ _ _ (T27.setTop (mkF m 138 #[A0, A1, A2, A3, A4, A5, A6, A7, rv s3, rv s4, A8, iv c2, iv w12, A9, rv j, iv (1 : Int32), .unset, .unset, .unset] [J1]))
  refine xifNoW X27 hx (hb hby at_138) rfl ((if0 _ _).trans (feq (by decide : ¬ ((1 : Int32) = (0 : Int32)))).1) rfl ?_
  refine xaloadW X27 hx (hb hby at_141) rfl rfl rfl ?_
  refine oVW X27 hx hZ1 hown1 hml (w_ hw 167 rfl) (w_ hw 168 rfl) (w_ hw 170 rfl) (w_ hw 169 rfl) (own_rm63 hw hs j b1_x0 T1.heap n0 Z1 G5 G4) (w_ hw 171 rfl) (w_ hw 32 rfl) e27 G2 [] [] 0 (lenOf own_pd30 rfl) rfl (hb hby at_143) rfl rfl rfl fun T28 L28 v28 X28 hQ28 => ?_
  obtain ⟨rfl, N28q, e28⟩ := hQ28
  have N28 := Fr.app N27 N28q
  refine oVW X28 hx hZ1 hown1 hml (w_ hw 172 rfl) (w_ hw 48 rfl) (w_ hw 50 rfl) (w_ hw 49 rfl) (own_rm5 hw hs b1_x0 b1_x1 ko0_1 ((0 : Int32)) ((0 : Int32)) ((0 : Int32)) ((0 : Int32)) T1.heap n0 Z1 ⟨G6, G8, G7, G9⟩) (w_ hw 51 rfl) (w_ hw 10 rfl) e28 G6 [] [] 0 (lenOf own_pd3 rfl) rfl (hb hby at_146) rfl rfl rfl fun T29 L29 v29 X29 hQ29 => ?_
  obtain ⟨rfl, N29q, e29⟩ := hQ29
  have N29 := Fr.app N28 N29q
  refine xifNoW X29 hx (hb hby at_149) rfl ((if0 _ _).trans (feq (by decide : ¬ ((1 : Int32) = (0 : Int32)))).1) rfl ?_
  refine xiconstW X29 hx (hb hby at_152) rfl ?_
  refine xgotoW X29 hx 153 157 rfl (hb hby at_153) rfl ?_
  refine xistoreW X29 hx (hb hby at_157) rfl (l' := #[A0, A1, A2, A3, A4, A5, A6, A7, rv s3, rv s4, A8, iv c2, iv w12, A9, rv j, iv (1 : Int32), .unset, .unset, .unset]) rfl rfl ?_
  refine xaloadW X29 hx (hb hby at_159) rfl rfl rfl ?_
  show own_FinW p e below s _ _ _ (T29.setTop (mkF m 161 #[A0, A1, A2, A3, A4, A5, A6, A7, rv s3, rv s4, A8, iv c2, iv w12, A9, rv j, iv (1 : Int32), .unset, .unset, .unset] [(.ref j)]))
  refine xaloadW X29 hx (hb hby at_161) rfl rfl rfl ?_
  refine oVW X29 hx hZ1 hown1 hml (w_ hw 40 rfl) (w_ hw 41 rfl) (w_ hw 43 rfl) (w_ hw 42 rfl) (own_rm55 hw hs j s3 b1_x0 b1_x1 ko0_1 ((0 : Int32)) ((0 : Int32)) ((0 : Int32)) ((0 : Int32)) ((.ref wpieces_j)) T1.heap n0 Z1 G2 G5 G4 ⟨G6, G8, G7, G9⟩ G3 g_j) (w_ hw 44 rfl) (w_ hw 32 rfl) e29 G2 [(.ref s3)] [] 0 (lenOf own_pd16 rfl) rfl (hb hby at_163) rfl rfl rfl fun T30 L30 v30 X30 hQ30 => ?_
  obtain ⟨N30q, K30q, rfl, G31, G32, G33, G34⟩ := hQ30
  have N30 := Fr.app N29 N30q
  have K30 := K1.trans K30q (own_aW 0 rfl own_a0)
  have Z30 := Nat.le_trans Z1 K30q.1
  have hk30 := Nat.le_trans hk1 K30q.1
  obtain ⟨G35, G36, G37, G38, G39⟩ := own_k4 K30q (ninS (Exa.ne G10 G2 (by decide)) nin0) G10 G11 G12 G13 G14
  obtain ⟨G40, G41, G42⟩ := own_k2 K30q (ninS (Exa.ne G15 G2 (by decide)) nin0) G15 G16 G17
  obtain ⟨G43, G44, G45⟩ := own_k2 K30q (ninS (Exa.ne G18 G2 (by decide)) nin0) G18 G19 G20
  obtain ⟨G46, G47, G48⟩ := own_k2 K30q (ninS (Exa.ne G6 G2 (by decide)) nin0) G6 G7 G8
  have G49 := (own_sta_keep G21 K30q (own_nS (own_nst_exa G2) own_n0))
  have G50 := (own_sta_keep G22 K30q (own_nS (own_nst_exa G2) own_n0))
  have G51 := (G2.keep K30q)
  have G52 := (G24.keep K30q (ninS (Ne.symm (Exa.neArv G2 G24 (w_ hw 31 rfl))) nin0))
  have G53 := (G25.keep K30q (ninS (Ne.symm (Exa.neArv G2 G25 (w_ hw 31 rfl))) nin0))
  have G54 := (G26.keep K30q (ninS (Ne.symm (Exa.neArv G2 G26 (w_ hw 31 rfl))) nin0))
  have G55 := (G9.keep K30q (ninS (Ne.symm (Exa.neArv G2 G9 (w_ hw 31 rfl))) nin0))
  refine xiloadW X30 hx (hb hby at_166) rfl rfl ?_
  by_cases hc56 : w12 = (0 : Int32)
  · refine xifYesW X30 hx 168 185 rfl (hb hby at_168) rfl ((if0 _ _).trans (teq hc56).1) rfl ?_
    rcases id hls3 with hk57 | hk58 | hk59
    · have G60 : Arv Z T30.heap wvalue_s3 k_wvalue_s3 .byte (0 : Int32) [(.int wvalue_s3_0), (.int wvalue_s3_1), (.int wvalue_s3_2), (.int wvalue_s3_3)] J0 := hk57 ▸ G53
      show own_FinW p e below s _ _ _ (T30.setTop (mkF m 185 #[A0, A1, A2, A3, A4, A5, A6, A7, rv s3, rv s4, A8, iv c2, iv w12, A9, rv j, iv (1 : Int32), .unset, .unset, .unset] []))
      refine xaloadW X30 hx (hb hby at_185) rfl rfl rfl ?_
      refine xiloadW X30 hx (hb hby at_187) rfl rfl ?_
      refine oVW X30 hx hZ1 hown1 hml (w_ hw 52 rfl) (w_ hw 53 rfl) (w_ hw 55 rfl) (w_ hw 54 rfl) (own_rm60 hw hs j c2 s3 wvalue_s3 k_wvalue_s3 ([(.int wvalue_s3_0), (.int wvalue_s3_1), (.int wvalue_s3_2), (.int wvalue_s3_3)]) ((0 : Int32)) wpieces_j wvalue_wpieces_j wcount_wpieces_j umaybeLatin1_wpieces_j k_wvalue_wpieces_j ([(.int wvalue_wpieces_j_0), (.int wvalue_wpieces_j_1), (.int wvalue_wpieces_j_2), (.int wvalue_wpieces_j_3)]) zaa T30.heap n0 Z30 G31 G32 G34 ⟨G40, G41, G42, G60⟩ G33 ⟨G35, G36, G37, G38, G39, G52⟩ G49 hcnt g_wpieces_j g_j hcs (show ¬ ((0 : Int32) < (((0 : Int32) + (0 : Int32)) - (16 : Int32))) from (by first | decide | assumption | exact Nat.le_of_ble_eq_true rfl)) g_wvalue_wpieces_j (show ¬ ((0 : Int32) < (0 : Int32)) from (by first | decide | assumption | exact Nat.le_of_ble_eq_true rfl)) (show (0 : Int32).toNatClampNeg + (0 : Int32).toNatClampNeg ≤ (16 : Int32).toNatClampNeg from (by first | decide | assumption | exact Nat.le_of_ble_eq_true rfl)) (show (0 : Int32).toNatClampNeg + (0 : Int32).toNatClampNeg ≤ [(.int wvalue_wpieces_j_0), (.int wvalue_wpieces_j_1), (.int wvalue_wpieces_j_2), (.int wvalue_wpieces_j_3)].length from (by first | decide | assumption | exact Nat.le_of_ble_eq_true rfl)) (arv_ne G60 G52 (Or.inl (by decide))) (show ¬ ((0 : Int32) < ((((0 : Int32) + (0 : Int32)) + (1 : Int32)) - (16 : Int32))) from (by first | decide | assumption | exact Nat.le_of_ble_eq_true rfl)) hc2 (show ¬ (((0 : Int32) + (0 : Int32)) < (0 : Int32)) from (by first | decide | assumption | exact Nat.le_of_ble_eq_true rfl)) (show ((0 : Int32) + (0 : Int32)) < (16 : Int32) from (by first | decide | assumption | exact Nat.le_of_ble_eq_true rfl)) (show ((0 : Int32) + (0 : Int32)).toNatClampNeg < (own_cat [(.int wvalue_wpieces_j_0), (.int wvalue_wpieces_j_1), (.int wvalue_wpieces_j_2), (.int wvalue_wpieces_j_3)] [(.int wvalue_s3_0), (.int wvalue_s3_1), (.int wvalue_s3_2), (.int wvalue_s3_3)] (0 : Int32) (0 : Int32)).length from (by first | decide | assumption | exact Nat.le_of_ble_eq_true rfl))) (w_ hw 56 rfl) (w_ hw 32 rfl) rfl G31 [(.int c2)] [] 0 (lenOf own_pd33 rfl) rfl (hb hby at_189) rfl rfl rfl fun T61 L61 v61 X61 hQ61 => ?_
      obtain ⟨N61q, K61q, uo0_61, rfl, G62, G63, G64, G65, G66, G67, G68, G69, G70, G71⟩ := hQ61
      have N61 := Fr.app N30 N61q
      have K61 := K30.trans K61q (own_aW 2 rfl (own_aW 0 rfl (own_aW 1 rfl own_a0)))
      have Z61 := Nat.le_trans Z30 K61q.1
      have hk61 := Nat.le_trans hk30 K61q.1
      obtain ⟨G72, G73, G74⟩ := own_k2 K61q (ninS (Exa.neArv G40 G52 (w_ hw 9 rfl)) (ninS (Exa.ne G40 G31 (by decide)) (ninS (Exa.ne G40 G35 (by decide)) nin0))) G40 G41 G42
      obtain ⟨G75, G76, G77⟩ := own_k2 K61q (ninS (Exa.neArv G43 G52 (w_ hw 9 rfl)) (ninS (Exa.ne G43 G31 (by decide)) (ninS (Exa.ne G43 G35 (by decide)) nin0))) G43 G44 G45
      have G78 := (G35.keep K61q)
      have G79 := (own_sta_keep G49 K61q (own_nS (own_nst_arv G52) (own_nS (own_nst_exa G31) (own_nS (own_nst_exa G35) own_n0))))
      have G80 := (own_sta_keep G50 K61q (own_nS (own_nst_arv G52) (own_nS (own_nst_exa G31) (own_nS (own_nst_exa G35) own_n0))))
      have G81 := (G31.keep K61q)
      have G82 := (G60.keep K61q (ninS (arv_ne G60 G52 (Or.inl (by decide))) (ninS (Ne.symm (Exa.neArv G31 G60 (w_ hw 31 rfl))) (ninS (Ne.symm (Exa.neArv G35 G60 (w_ hw 64 rfl))) nin0))))
      have G83 := (G54.keep K61q (ninS ne_wvalue_s4_wvalue_wpieces_j (ninS (Ne.symm (Exa.neArv G31 G54 (w_ hw 31 rfl))) (ninS (Ne.symm (Exa.neArv G35 G54 (w_ hw 64 rfl))) nin0))))
      have G84 : Arv Z T61.heap wvalue_wpieces_j k_wvalue_wpieces_j .byte (16 : Int32) [(.int (nar .byte (c2.toInt8.toInt32))), (.int wvalue_wpieces_j_1), (.int wvalue_wpieces_j_2), (.int wvalue_wpieces_j_3)] J0 := G62
      have G85 : Fld Z T61.heap wpieces_j cN2 "count" "I" J1 := G71
      refine xiloadW X61 hx (hb hby at_192) rfl rfl ?_
      refine oCW X61 hx hZ1 hown1 hml (w_ hw 175 rfl) (w_ hw 176 rfl) (own_rm20 hw hs c2 zaa T61.heap n0 Z61 G79 hcs hc2) (w_ hw 177 rfl) (w_ hw 10 rfl) rfl [(.int c2)] [] 0 (lenOf own_pd14 rfl) rfl (hb hby at_194) rfl rfl rfl fun T86 L86 v86 X86 hQ86 => ?_
      obtain ⟨N86q, K86q, b86_o0, gg86_o0, sz86_o0, b86_o1, gg86_o1, sz86_o1, ko0_86, rfl, G87, G88, G89, G90⟩ := hQ86
      have N86 := Fr.app N61 N86q
      have ne86_o0_s3 : s3 ≠ b86_o0 := Nat.ne_of_lt (Nat.lt_of_lt_of_le G72.lt sz86_o0)
      have ne86_o0_s4 : s4 ≠ b86_o0 := Nat.ne_of_lt (Nat.lt_of_lt_of_le G75.lt sz86_o0)
      have ne86_o1_wvalue_s3 : wvalue_s3 ≠ b86_o1 := Nat.ne_of_lt (Nat.lt_of_lt_of_le G82.lt sz86_o1)
      have ne86_o1_wvalue_s4 : wvalue_s4 ≠ b86_o1 := Nat.ne_of_lt (Nat.lt_of_lt_of_le G83.lt sz86_o1)
      have ne86_o1_wvalue_wpieces_j : wvalue_wpieces_j ≠ b86_o1 := Nat.ne_of_lt (Nat.lt_of_lt_of_le G84.lt sz86_o1)
      have K86 := K61.trans K86q own_a0
      have Z86 := Nat.le_trans Z61 K86q.1
      have sy86_o0 : h0.size ≤ b86_o0 := Nat.le_trans K61.1 sz86_o0
      have sy86_o1 : h0.size ≤ b86_o1 := Nat.le_trans K61.1 sz86_o1
      have hk86 := Nat.le_trans hk61 K86q.1
      obtain ⟨G91, G92, G93⟩ := own_k2 K86q nin0 G72 G73 G74
      obtain ⟨G94, G95, G96⟩ := own_k2 K86q nin0 G75 G76 G77
      obtain ⟨G97, G98, G99, G100, G101⟩ := own_k4 K86q nin0 G67 G68 G69 G70 G85
      obtain ⟨G102, G103, G104, G105⟩ := own_k3 K86q nin0 G63 G64 G65 G66
      have G106 := (own_sta_keep0 G79 K86q)
      have G107 := (own_sta_keep0 G80 K86q)
      have G108 := (G82.keep K86q nin0)
      have G109 := (G83.keep K86q nin0)
      have G110 := (G84.keep K86q nin0)
      refine xastoreW X86 hx (hb hby at_197) rfl rfl (l' := #[A0, A1, A2, A3, A4, A5, A6, A7, rv s3, rv s4, A8, iv c2, iv w12, A9, rv j, iv (1 : Int32), rv b86_o0, .unset, .unset]) rfl rfl ?_
      exact own_rm74 l Z a0 hw hs hx hby hlk hml hret (A0) (A1) (A2) (A3) (A4) (A5) (A6) (A7) s3 ((.val (.ref s4))) (A8) ((.val (.int c2))) ((.val (.int w12))) (A9) j b86_o0 zaa zab ((nar .byte (c2.toInt8.toInt32))) wvalue_wpieces_j_1 wvalue_wpieces_j_2 wvalue_wpieces_j_3 wvalue_s3_0 wvalue_s3_1 wvalue_s3_2 wvalue_s3_3 wvalue_s3 k_wvalue_s3 ((0 : Int32)) ((0 : Int32)) ((0 : Int32)) b86_o1 ko0_86 ((.ref s3)) wpieces_j wvalue_wpieces_j uo0_61 k_wvalue_wpieces_j T86.heap n0 Z86 (X86.more (by decide : 33 ≤ _) (by decide : 109 ≤ _)) rfl N86 hS1 hk86 hZ1 hown1  G106 hcs zaf G107 G91 G92 G93 G108 G87 G88 G89 G90 G102 G105 G103 G104 G97 G98 G99 G101 G100 G110
    · have G111 : Arv Z T30.heap wvalue_s3 k_wvalue_s3 .byte (1 : Int32) [(.int wvalue_s3_0), (.int wvalue_s3_1), (.int wvalue_s3_2), (.int wvalue_s3_3)] J0 := hk58 ▸ G53
      show own_FinW p e below s _ _ _ (T30.setTop (mkF m 185 #[A0, A1, A2, A3, A4, A5, A6, A7, rv s3, rv s4, A8, iv c2, iv w12, A9, rv j, iv (1 : Int32), .unset, .unset, .unset] []))
      refine xaloadW X30 hx (hb hby at_185) rfl rfl rfl ?_
      refine xiloadW X30 hx (hb hby at_187) rfl rfl ?_
      refine oVW X30 hx hZ1 hown1 hml (w_ hw 52 rfl) (w_ hw 53 rfl) (w_ hw 55 rfl) (w_ hw 54 rfl) (own_rm60 hw hs j c2 s3 wvalue_s3 k_wvalue_s3 ([(.int wvalue_s3_0), (.int wvalue_s3_1), (.int wvalue_s3_2), (.int wvalue_s3_3)]) ((1 : Int32)) wpieces_j wvalue_wpieces_j wcount_wpieces_j umaybeLatin1_wpieces_j k_wvalue_wpieces_j ([(.int wvalue_wpieces_j_0), (.int wvalue_wpieces_j_1), (.int wvalue_wpieces_j_2), (.int wvalue_wpieces_j_3)]) zaa T30.heap n0 Z30 G31 G32 G34 ⟨G40, G41, G42, G111⟩ G33 ⟨G35, G36, G37, G38, G39, G52⟩ G49 hcnt g_wpieces_j g_j hcs (show ¬ ((0 : Int32) < (((0 : Int32) + (1 : Int32)) - (16 : Int32))) from (by first | decide | assumption | exact Nat.le_of_ble_eq_true rfl)) g_wvalue_wpieces_j (show ¬ ((1 : Int32) < (0 : Int32)) from (by first | decide | assumption | exact Nat.le_of_ble_eq_true rfl)) (show (0 : Int32).toNatClampNeg + (1 : Int32).toNatClampNeg ≤ (16 : Int32).toNatClampNeg from (by first | decide | assumption | exact Nat.le_of_ble_eq_true rfl)) (show (0 : Int32).toNatClampNeg + (1 : Int32).toNatClampNeg ≤ [(.int wvalue_wpieces_j_0), (.int wvalue_wpieces_j_1), (.int wvalue_wpieces_j_2), (.int wvalue_wpieces_j_3)].length from (by first | decide | assumption | exact Nat.le_of_ble_eq_true rfl)) (arv_ne G111 G52 (Or.inl (by decide))) (show ¬ ((0 : Int32) < ((((0 : Int32) + (1 : Int32)) + (1 : Int32)) - (16 : Int32))) from (by first | decide | assumption | exact Nat.le_of_ble_eq_true rfl)) hc2 (show ¬ (((0 : Int32) + (1 : Int32)) < (0 : Int32)) from (by first | decide | assumption | exact Nat.le_of_ble_eq_true rfl)) (show ((0 : Int32) + (1 : Int32)) < (16 : Int32) from (by first | decide | assumption | exact Nat.le_of_ble_eq_true rfl)) (show ((0 : Int32) + (1 : Int32)).toNatClampNeg < (own_cat [(.int wvalue_wpieces_j_0), (.int wvalue_wpieces_j_1), (.int wvalue_wpieces_j_2), (.int wvalue_wpieces_j_3)] [(.int wvalue_s3_0), (.int wvalue_s3_1), (.int wvalue_s3_2), (.int wvalue_s3_3)] (0 : Int32) (1 : Int32)).length from (by first | decide | assumption | exact Nat.le_of_ble_eq_true rfl))) (w_ hw 56 rfl) (w_ hw 32 rfl) rfl G31 [(.int c2)] [] 0 (lenOf own_pd33 rfl) rfl (hb hby at_189) rfl rfl rfl fun T112 L112 v112 X112 hQ112 => ?_
      obtain ⟨N112q, K112q, uo0_112, rfl, G113, G114, G115, G116, G117, G118, G119, G120, G121, G122⟩ := hQ112
      have N112 := Fr.app N30 N112q
      have K112 := K30.trans K112q (own_aW 2 rfl (own_aW 0 rfl (own_aW 1 rfl own_a0)))
      have Z112 := Nat.le_trans Z30 K112q.1
      have hk112 := Nat.le_trans hk30 K112q.1
      obtain ⟨G123, G124, G125⟩ := own_k2 K112q (ninS (Exa.neArv G40 G52 (w_ hw 9 rfl)) (ninS (Exa.ne G40 G31 (by decide)) (ninS (Exa.ne G40 G35 (by decide)) nin0))) G40 G41 G42
      obtain ⟨G126, G127, G128⟩ := own_k2 K112q (ninS (Exa.neArv G43 G52 (w_ hw 9 rfl)) (ninS (Exa.ne G43 G31 (by decide)) (ninS (Exa.ne G43 G35 (by decide)) nin0))) G43 G44 G45
      have G129 := (G35.keep K112q)
      have G130 := (own_sta_keep G49 K112q (own_nS (own_nst_arv G52) (own_nS (own_nst_exa G31) (own_nS (own_nst_exa G35) own_n0))))
      have G131 := (own_sta_keep G50 K112q (own_nS (own_nst_arv G52) (own_nS (own_nst_exa G31) (own_nS (own_nst_exa G35) own_n0))))
      have G132 := (G31.keep K112q)
      have G133 := (G111.keep K112q (ninS (arv_ne G111 G52 (Or.inl (by decide))) (ninS (Ne.symm (Exa.neArv G31 G111 (w_ hw 31 rfl))) (ninS (Ne.symm (Exa.neArv G35 G111 (w_ hw 64 rfl))) nin0))))
      have G134 := (G54.keep K112q (ninS ne_wvalue_s4_wvalue_wpieces_j (ninS (Ne.symm (Exa.neArv G31 G54 (w_ hw 31 rfl))) (ninS (Ne.symm (Exa.neArv G35 G54 (w_ hw 64 rfl))) nin0))))
      have G135 : Arv Z T112.heap wvalue_wpieces_j k_wvalue_wpieces_j .byte (16 : Int32) [(.int wvalue_s3_0), (.int (nar .byte (c2.toInt8.toInt32))), (.int wvalue_wpieces_j_2), (.int wvalue_wpieces_j_3)] J0 := G113
      have G136 : Fld Z T112.heap wpieces_j cN2 "count" "I" J2 := G122
      refine xiloadW X112 hx (hb hby at_192) rfl rfl ?_
      refine oCW X112 hx hZ1 hown1 hml (w_ hw 175 rfl) (w_ hw 176 rfl) (own_rm20 hw hs c2 zaa T112.heap n0 Z112 G130 hcs hc2) (w_ hw 177 rfl) (w_ hw 10 rfl) rfl [(.int c2)] [] 0 (lenOf own_pd14 rfl) rfl (hb hby at_194) rfl rfl rfl fun T137 L137 v137 X137 hQ137 => ?_
      obtain ⟨N137q, K137q, b137_o0, gg137_o0, sz137_o0, b137_o1, gg137_o1, sz137_o1, ko0_137, rfl, G138, G139, G140, G141⟩ := hQ137
      have N137 := Fr.app N112 N137q
      have ne137_o0_s3 : s3 ≠ b137_o0 := Nat.ne_of_lt (Nat.lt_of_lt_of_le G123.lt sz137_o0)
      have ne137_o0_s4 : s4 ≠ b137_o0 := Nat.ne_of_lt (Nat.lt_of_lt_of_le G126.lt sz137_o0)
      have ne137_o1_wvalue_s3 : wvalue_s3 ≠ b137_o1 := Nat.ne_of_lt (Nat.lt_of_lt_of_le G133.lt sz137_o1)
      have ne137_o1_wvalue_s4 : wvalue_s4 ≠ b137_o1 := Nat.ne_of_lt (Nat.lt_of_lt_of_le G134.lt sz137_o1)
      have ne137_o1_wvalue_wpieces_j : wvalue_wpieces_j ≠ b137_o1 := Nat.ne_of_lt (Nat.lt_of_lt_of_le G135.lt sz137_o1)
      have K137 := K112.trans K137q own_a0
      have Z137 := Nat.le_trans Z112 K137q.1
      have sy137_o0 : h0.size ≤ b137_o0 := Nat.le_trans K112.1 sz137_o0
      have sy137_o1 : h0.size ≤ b137_o1 := Nat.le_trans K112.1 sz137_o1
      have hk137 := Nat.le_trans hk112 K137q.1
      obtain ⟨G142, G143, G144⟩ := own_k2 K137q nin0 G123 G124 G125
      obtain ⟨G145, G146, G147⟩ := own_k2 K137q nin0 G126 G127 G128
      obtain ⟨G148, G149, G150, G151, G152⟩ := own_k4 K137q nin0 G118 G119 G120 G121 G136
      obtain ⟨G153, G154, G155, G156⟩ := own_k3 K137q nin0 G114 G115 G116 G117
      have G157 := (own_sta_keep0 G130 K137q)
      have G158 := (own_sta_keep0 G131 K137q)
      have G159 := (G133.keep K137q nin0)
      have G160 := (G134.keep K137q nin0)
      have G161 := (G135.keep K137q nin0)
      refine xastoreW X137 hx (hb hby at_197) rfl rfl (l' := #[A0, A1, A2, A3, A4, A5, A6, A7, rv s3, rv s4, A8, iv c2, iv w12, A9, rv j, iv (1 : Int32), rv b137_o0, .unset, .unset]) rfl rfl ?_
      exact own_rm78 l Z a0 hw hs hx hby hlk hml hret (A0) (A1) (A2) (A3) (A4) (A5) (A6) (A7) s3 ((.val (.ref s4))) (A8) ((.val (.int c2))) ((.val (.int w12))) (A9) j b137_o0 zaa zab wvalue_s3_0 ((nar .byte (c2.toInt8.toInt32))) wvalue_wpieces_j_2 wvalue_wpieces_j_3 wvalue_s3_1 wvalue_s3_2 wvalue_s3_3 wvalue_s3 k_wvalue_s3 ((0 : Int32)) ((0 : Int32)) ((0 : Int32)) b137_o1 ko0_137 ((.ref s3)) wpieces_j wvalue_wpieces_j uo0_112 k_wvalue_wpieces_j T137.heap n0 Z137 (X137.more (by decide : 33 ≤ _) (by decide : 109 ≤ _)) rfl N137 hS1 hk137 hZ1 hown1  G157 hcs zaf G158 G142 G143 G144 G159 G138 G139 G140 G141 G153 G156 G154 G155 G148 G149 G150 G152 G151 G161
    · have G162 : Arv Z T30.heap wvalue_s3 k_wvalue_s3 .byte (2 : Int32) [(.int wvalue_s3_0), (.int wvalue_s3_1), (.int wvalue_s3_2), (.int wvalue_s3_3)] J0 := hk59 ▸ G53
      show own_FinW p e below s _ _ _ (T30.setTop (mkF m 185 #[A0, A1, A2, A3, A4, A5, A6, A7, rv s3, rv s4, A8, iv c2, iv w12, A9, rv j, iv (1 : Int32), .unset, .unset, .unset] []))
      refine xaloadW X30 hx (hb hby at_185) rfl rfl rfl ?_
      refine xiloadW X30 hx (hb hby at_187) rfl rfl ?_
      refine oVW X30 hx hZ1 hown1 hml (w_ hw 52 rfl) (w_ hw 53 rfl) (w_ hw 55 rfl) (w_ hw 54 rfl) (own_rm60 hw hs j c2 s3 wvalue_s3 k_wvalue_s3 ([(.int wvalue_s3_0), (.int wvalue_s3_1), (.int wvalue_s3_2), (.int wvalue_s3_3)]) ((2 : Int32)) wpieces_j wvalue_wpieces_j wcount_wpieces_j umaybeLatin1_wpieces_j k_wvalue_wpieces_j ([(.int wvalue_wpieces_j_0), (.int wvalue_wpieces_j_1), (.int wvalue_wpieces_j_2), (.int wvalue_wpieces_j_3)]) zaa T30.heap n0 Z30 G31 G32 G34 ⟨G40, G41, G42, G162⟩ G33 ⟨G35, G36, G37, G38, G39, G52⟩ G49 hcnt g_wpieces_j g_j hcs (show ¬ ((0 : Int32) < (((0 : Int32) + (2 : Int32)) - (16 : Int32))) from (by first | decide | assumption | exact Nat.le_of_ble_eq_true rfl)) g_wvalue_wpieces_j (show ¬ ((2 : Int32) < (0 : Int32)) from (by first | decide | assumption | exact Nat.le_of_ble_eq_true rfl)) (show (0 : Int32).toNatClampNeg + (2 : Int32).toNatClampNeg ≤ (16 : Int32).toNatClampNeg from (by first | decide | assumption | exact Nat.le_of_ble_eq_true rfl)) (show (0 : Int32).toNatClampNeg + (2 : Int32).toNatClampNeg ≤ [(.int wvalue_wpieces_j_0), (.int wvalue_wpieces_j_1), (.int wvalue_wpieces_j_2), (.int wvalue_wpieces_j_3)].length from (by first | decide | assumption | exact Nat.le_of_ble_eq_true rfl)) (arv_ne G162 G52 (Or.inl (by decide))) (show ¬ ((0 : Int32) < ((((0 : Int32) + (2 : Int32)) + (1 : Int32)) - (16 : Int32))) from (by first | decide | assumption | exact Nat.le_of_ble_eq_true rfl)) hc2 (show ¬ (((0 : Int32) + (2 : Int32)) < (0 : Int32)) from (by first | decide | assumption | exact Nat.le_of_ble_eq_true rfl)) (show ((0 : Int32) + (2 : Int32)) < (16 : Int32) from (by first | decide | assumption | exact Nat.le_of_ble_eq_true rfl)) (show ((0 : Int32) + (2 : Int32)).toNatClampNeg < (own_cat [(.int wvalue_wpieces_j_0), (.int wvalue_wpieces_j_1), (.int wvalue_wpieces_j_2), (.int wvalue_wpieces_j_3)] [(.int wvalue_s3_0), (.int wvalue_s3_1), (.int wvalue_s3_2), (.int wvalue_s3_3)] (0 : Int32) (2 : Int32)).length from (by first | decide | assumption | exact Nat.le_of_ble_eq_true rfl))) (w_ hw 56 rfl) (w_ hw 32 rfl) rfl G31 [(.int c2)] [] 0 (lenOf own_pd33 rfl) rfl (hb hby at_189) rfl rfl rfl fun T163 L163 v163 X163 hQ163 => ?_
      obtain ⟨N163q, K163q, uo0_163, rfl, G164, G165, G166, G167, G168, G169, G170, G171, G172, G173⟩ := hQ163
      have N163 := Fr.app N30 N163q
      have K163 := K30.trans K163q (own_aW 2 rfl (own_aW 0 rfl (own_aW 1 rfl own_a0)))
      have Z163 := Nat.le_trans Z30 K163q.1
      have hk163 := Nat.le_trans hk30 K163q.1
      obtain ⟨G174, G175, G176⟩ := own_k2 K163q (ninS (Exa.neArv G40 G52 (w_ hw 9 rfl)) (ninS (Exa.ne G40 G31 (by decide)) (ninS (Exa.ne G40 G35 (by decide)) nin0))) G40 G41 G42
      obtain ⟨G177, G178, G179⟩ := own_k2 K163q (ninS (Exa.neArv G43 G52 (w_ hw 9 rfl)) (ninS (Exa.ne G43 G31 (by decide)) (ninS (Exa.ne G43 G35 (by decide)) nin0))) G43 G44 G45
      have G180 := (G35.keep K163q)
      have G181 := (own_sta_keep G49 K163q (own_nS (own_nst_arv G52) (own_nS (own_nst_exa G31) (own_nS (own_nst_exa G35) own_n0))))
      have G182 := (own_sta_keep G50 K163q (own_nS (own_nst_arv G52) (own_nS (own_nst_exa G31) (own_nS (own_nst_exa G35) own_n0))))
      have G183 := (G31.keep K163q)
      have G184 := (G162.keep K163q (ninS (arv_ne G162 G52 (Or.inl (by decide))) (ninS (Ne.symm (Exa.neArv G31 G162 (w_ hw 31 rfl))) (ninS (Ne.symm (Exa.neArv G35 G162 (w_ hw 64 rfl))) nin0))))
      have G185 := (G54.keep K163q (ninS ne_wvalue_s4_wvalue_wpieces_j (ninS (Ne.symm (Exa.neArv G31 G54 (w_ hw 31 rfl))) (ninS (Ne.symm (Exa.neArv G35 G54 (w_ hw 64 rfl))) nin0))))
      have G186 : Arv Z T163.heap wvalue_wpieces_j k_wvalue_wpieces_j .byte (16 : Int32) [(.int wvalue_s3_0), (.int wvalue_s3_1), (.int (nar .byte (c2.toInt8.toInt32))), (.int wvalue_wpieces_j_3)] J0 := G164
      have G187 : Fld Z T163.heap wpieces_j cN2 "count" "I" J3 := G173
      refine xiloadW X163 hx (hb hby at_192) rfl rfl ?_
      refine oCW X163 hx hZ1 hown1 hml (w_ hw 175 rfl) (w_ hw 176 rfl) (own_rm20 hw hs c2 zaa T163.heap n0 Z163 G181 hcs hc2) (w_ hw 177 rfl) (w_ hw 10 rfl) rfl [(.int c2)] [] 0 (lenOf own_pd14 rfl) rfl (hb hby at_194) rfl rfl rfl fun T188 L188 v188 X188 hQ188 => ?_
      obtain ⟨N188q, K188q, b188_o0, gg188_o0, sz188_o0, b188_o1, gg188_o1, sz188_o1, ko0_188, rfl, G189, G190, G191, G192⟩ := hQ188
      have N188 := Fr.app N163 N188q
      have ne188_o0_s3 : s3 ≠ b188_o0 := Nat.ne_of_lt (Nat.lt_of_lt_of_le G174.lt sz188_o0)
      have ne188_o0_s4 : s4 ≠ b188_o0 := Nat.ne_of_lt (Nat.lt_of_lt_of_le G177.lt sz188_o0)
      have ne188_o1_wvalue_s3 : wvalue_s3 ≠ b188_o1 := Nat.ne_of_lt (Nat.lt_of_lt_of_le G184.lt sz188_o1)
      have ne188_o1_wvalue_s4 : wvalue_s4 ≠ b188_o1 := Nat.ne_of_lt (Nat.lt_of_lt_of_le G185.lt sz188_o1)
      have ne188_o1_wvalue_wpieces_j : wvalue_wpieces_j ≠ b188_o1 := Nat.ne_of_lt (Nat.lt_of_lt_of_le G186.lt sz188_o1)
      have K188 := K163.trans K188q own_a0
      have Z188 := Nat.le_trans Z163 K188q.1
      have sy188_o0 : h0.size ≤ b188_o0 := Nat.le_trans K163.1 sz188_o0
      have sy188_o1 : h0.size ≤ b188_o1 := Nat.le_trans K163.1 sz188_o1
      have hk188 := Nat.le_trans hk163 K188q.1
      obtain ⟨G193, G194, G195⟩ := own_k2 K188q nin0 G174 G175 G176
      obtain ⟨G196, G197, G198⟩ := own_k2 K188q nin0 G177 G178 G179
      obtain ⟨G199, G200, G201, G202, G203⟩ := own_k4 K188q nin0 G169 G170 G171 G172 G187
      obtain ⟨G204, G205, G206, G207⟩ := own_k3 K188q nin0 G165 G166 G167 G168
      have G208 := (own_sta_keep0 G181 K188q)
      have G209 := (own_sta_keep0 G182 K188q)
      have G210 := (G184.keep K188q nin0)
      have G211 := (G185.keep K188q nin0)
      have G212 := (G186.keep K188q nin0)
      refine xastoreW X188 hx (hb hby at_197) rfl rfl (l' := #[A0, A1, A2, A3, A4, A5, A6, A7, rv s3, rv s4, A8, iv c2, iv w12, A9, rv j, iv (1 : Int32), rv b188_o0, .unset, .unset]) rfl rfl ?_
      exact own_rm81 l Z a0 hw hs hx hby hlk hml hret (A0) (A1) (A2) (A3) (A4) (A5) (A6) (A7) s3 ((.val (.ref s4))) (A8) ((.val (.int c2))) ((.val (.int w12))) (A9) j b188_o0 zaa zab wvalue_s3_0 wvalue_s3_1 ((nar .byte (c2.toInt8.toInt32))) wvalue_wpieces_j_3 wvalue_s3_2 wvalue_s3_3 wvalue_s3 k_wvalue_s3 ((0 : Int32)) ((0 : Int32)) ((0 : Int32)) b188_o1 ko0_188 ((.ref s3)) wpieces_j wvalue_wpieces_j uo0_163 k_wvalue_wpieces_j T188.heap n0 Z188 (X188.more (by decide : 33 ≤ _) (by decide : 109 ≤ _)) rfl N188 hS1 hk188 hZ1 hown1  G208 hcs zaf G209 G193 G194 G195 G210 G189 G190 G191 G192 G204 G207 G205 G206 G199 G200 G201 G203 G202 G212
  · refine xifNoW X30 hx (hb hby at_168) rfl ((if0 _ _).trans (feq hc56).1) rfl ?_
    rcases id hls3 with hk213 | hk214 | hk215
    · have G216 : Arv Z T30.heap wvalue_s3 k_wvalue_s3 .byte (0 : Int32) [(.int wvalue_s3_0), (.int wvalue_s3_1), (.int wvalue_s3_2), (.int wvalue_s3_3)] J0 := hk213 ▸ G53
      show own_FinW p e below s _ _ _ (T30.setTop (mkF m 171 #[A0, A1, A2, A3, A4, A5, A6, A7, rv s3, rv s4, A8, iv c2, iv w12, A9, rv j, iv (1 : Int32), .unset, .unset, .unset] []))
      rcases id hls4 with hk217 | hk218 | hk219
      · have G220 : Arv Z T30.heap wvalue_s4 k_wvalue_s4 .byte (0 : Int32) [(.int wvalue_s4_0), (.int wvalue_s4_1), (.int wvalue_s4_2), (.int wvalue_s4_3)] J0 := hk217 ▸ G54
        show own_FinW p e below s _ _ _ (T30.setTop (mkF m 171 #[A0, A1, A2, A3, A4, A5, A6, A7, rv s3, rv s4, A8, iv c2, iv w12, A9, rv j, iv (1 : Int32), .unset, .unset, .unset] []))
        refine xaloadW X30 hx (hb hby at_171) rfl rfl rfl ?_
        refine xaloadW X30 hx (hb hby at_173) rfl rfl rfl ?_
        refine oVW X30 hx hZ1 hown1 hml (w_ hw 40 rfl) (w_ hw 41 rfl) (w_ hw 43 rfl) (w_ hw 42 rfl) (own_rm55 hw hs j s4 s3 wvalue_s3 k_wvalue_s3 wvalue_s3_0 wvalue_s3_1 wvalue_s3_2 wvalue_s3_3 ((.ref wpieces_j)) T30.heap n0 Z30 G31 G32 G34 ⟨G40, G41, G42, G216⟩ G33 g_j) (w_ hw 44 rfl) (w_ hw 32 rfl) rfl G31 [(.ref s4)] [] 0 (lenOf own_pd16 rfl) rfl (hb hby at_175) rfl rfl rfl fun T221 L221 v221 X221 hQ221 => ?_
        obtain ⟨N221q, K221q, rfl, G222, G223, G224, G225⟩ := hQ221
        have N221 := Fr.app N30 N221q
        have K221 := K30.trans K221q (own_aW 0 rfl own_a0)
        have Z221 := Nat.le_trans Z30 K221q.1
        have hk221 := Nat.le_trans hk30 K221q.1
        obtain ⟨G226, G227, G228, G229, G230⟩ := own_k4 K221q (ninS (Exa.ne G35 G31 (by decide)) nin0) G35 G36 G37 G38 G39
        obtain ⟨G231, G232, G233⟩ := own_k2 K221q (ninS (Exa.ne G40 G31 (by decide)) nin0) G40 G41 G42
        obtain ⟨G234, G235, G236⟩ := own_k2 K221q (ninS (Exa.ne G43 G31 (by decide)) nin0) G43 G44 G45
        have G237 := (own_sta_keep G49 K221q (own_nS (own_nst_exa G31) own_n0))
        have G238 := (own_sta_keep G50 K221q (own_nS (own_nst_exa G31) own_n0))
        have G239 := (G31.keep K221q)
        have G240 := (G52.keep K221q (ninS (Ne.symm (Exa.neArv G31 G52 (w_ hw 31 rfl))) nin0))
        have G241 := (G216.keep K221q (ninS (Ne.symm (Exa.neArv G31 G216 (w_ hw 31 rfl))) nin0))
        have G242 := (G220.keep K221q (ninS (Ne.symm (Exa.neArv G31 G220 (w_ hw 31 rfl))) nin0))
        refine xaloadW X221 hx (hb hby at_178) rfl rfl rfl ?_
        refine xastoreW X221 hx (hb hby at_180) rfl rfl (l' := #[A0, A1, A2, A3, A4, A5, A6, A7, rv s3, rv s4, A8, iv c2, iv w12, A9, rv j, iv (1 : Int32), rv s4, .unset, .unset]) rfl rfl ?_
        refine xgotoW X221 hx 182 199 rfl (hb hby at_182) rfl ?_
        exact own_rm72 l Z a0 hw hs hx hby hlk hml hret (A0) (A1) (A2) (A3) (A4) (A5) (A6) (A7) s3 ((.val (.ref s4))) (A8) ((.val (.int c2))) ((.val (.int w12))) (A9) j s4 zaa zab wvalue_s3_0 wvalue_s3_1 wvalue_s3_2 wvalue_s3_3 wvalue_s3 k_wvalue_s3 wvalue_s4_0 wvalue_s4_1 wvalue_s4_2 wvalue_s4_3 wvalue_s4 k_wvalue_s4 ((.ref wpieces_j)) T221.heap n0 Z221 (X221.more (by decide : 31 ≤ _) (by decide : 104 ≤ _)) rfl N221 hS1 hk221 hZ1 hown1  G237 hcs zaf G238 G231 G232 G233 G241 G234 G235 G236 G242 G222 G223 G225 G224
      · have G243 : Arv Z T30.heap wvalue_s4 k_wvalue_s4 .byte (1 : Int32) [(.int wvalue_s4_0), (.int wvalue_s4_1), (.int wvalue_s4_2), (.int wvalue_s4_3)] J0 := hk218 ▸ G54
        show own_FinW p e below s _ _ _ (T30.setTop (mkF m 171 #[A0, A1, A2, A3, A4, A5, A6, A7, rv s3, rv s4, A8, iv c2, iv w12, A9, rv j, iv (1 : Int32), .unset, .unset, .unset] []))
        refine xaloadW X30 hx (hb hby at_171) rfl rfl rfl ?_
        refine xaloadW X30 hx (hb hby at_173) rfl rfl rfl ?_
        refine oVW X30 hx hZ1 hown1 hml (w_ hw 40 rfl) (w_ hw 41 rfl) (w_ hw 43 rfl) (w_ hw 42 rfl) (own_rm55 hw hs j s4 s3 wvalue_s3 k_wvalue_s3 wvalue_s3_0 wvalue_s3_1 wvalue_s3_2 wvalue_s3_3 ((.ref wpieces_j)) T30.heap n0 Z30 G31 G32 G34 ⟨G40, G41, G42, G216⟩ G33 g_j) (w_ hw 44 rfl) (w_ hw 32 rfl) rfl G31 [(.ref s4)] [] 0 (lenOf own_pd16 rfl) rfl (hb hby at_175) rfl rfl rfl fun T244 L244 v244 X244 hQ244 => ?_
        obtain ⟨N244q, K244q, rfl, G245, G246, G247, G248⟩ := hQ244
        have N244 := Fr.app N30 N244q
        have K244 := K30.trans K244q (own_aW 0 rfl own_a0)
        have Z244 := Nat.le_trans Z30 K244q.1
        have hk244 := Nat.le_trans hk30 K244q.1
        obtain ⟨G249, G250, G251, G252, G253⟩ := own_k4 K244q (ninS (Exa.ne G35 G31 (by decide)) nin0) G35 G36 G37 G38 G39
        obtain ⟨G254, G255, G256⟩ := own_k2 K244q (ninS (Exa.ne G40 G31 (by decide)) nin0) G40 G41 G42
        obtain ⟨G257, G258, G259⟩ := own_k2 K244q (ninS (Exa.ne G43 G31 (by decide)) nin0) G43 G44 G45
        have G260 := (own_sta_keep G49 K244q (own_nS (own_nst_exa G31) own_n0))
        have G261 := (own_sta_keep G50 K244q (own_nS (own_nst_exa G31) own_n0))
        have G262 := (G31.keep K244q)
        have G263 := (G52.keep K244q (ninS (Ne.symm (Exa.neArv G31 G52 (w_ hw 31 rfl))) nin0))
        have G264 := (G216.keep K244q (ninS (Ne.symm (Exa.neArv G31 G216 (w_ hw 31 rfl))) nin0))
        have G265 := (G243.keep K244q (ninS (Ne.symm (Exa.neArv G31 G243 (w_ hw 31 rfl))) nin0))
        refine xaloadW X244 hx (hb hby at_178) rfl rfl rfl ?_
        refine xastoreW X244 hx (hb hby at_180) rfl rfl (l' := #[A0, A1, A2, A3, A4, A5, A6, A7, rv s3, rv s4, A8, iv c2, iv w12, A9, rv j, iv (1 : Int32), rv s4, .unset, .unset]) rfl rfl ?_
        refine xgotoW X244 hx 182 199 rfl (hb hby at_182) rfl ?_
        exact own_rm73 l Z a0 hw hs hx hby hlk hml hret (A0) (A1) (A2) (A3) (A4) (A5) (A6) (A7) s3 ((.val (.ref s4))) (A8) ((.val (.int c2))) ((.val (.int w12))) (A9) j s4 zaa zab wvalue_s3_0 wvalue_s3_1 wvalue_s3_2 wvalue_s3_3 wvalue_s3 k_wvalue_s3 wvalue_s4_0 wvalue_s4_1 wvalue_s4_2 wvalue_s4_3 wvalue_s4 k_wvalue_s4 ((.ref wpieces_j)) T244.heap n0 Z244 (X244.more (by decide : 31 ≤ _) (by decide : 104 ≤ _)) rfl N244 hS1 hk244 hZ1 hown1  G260 hcs zaf G261 G254 G255 G256 G264 G257 G258 G259 G265 G245 G246 G248 G247
      · have G266 : Arv Z T30.heap wvalue_s4 k_wvalue_s4 .byte (2 : Int32) [(.int wvalue_s4_0), (.int wvalue_s4_1), (.int wvalue_s4_2), (.int wvalue_s4_3)] J0 := hk219 ▸ G54
        show own_FinW p e below s _ _ _ (T30.setTop (mkF m 171 #[A0, A1, A2, A3, A4, A5, A6, A7, rv s3, rv s4, A8, iv c2, iv w12, A9, rv j, iv (1 : Int32), .unset, .unset, .unset] []))
        refine xaloadW X30 hx (hb hby at_171) rfl rfl rfl ?_
        refine xaloadW X30 hx (hb hby at_173) rfl rfl rfl ?_
        refine oVW X30 hx hZ1 hown1 hml (w_ hw 40 rfl) (w_ hw 41 rfl) (w_ hw 43 rfl) (w_ hw 42 rfl) (own_rm55 hw hs j s4 s3 wvalue_s3 k_wvalue_s3 wvalue_s3_0 wvalue_s3_1 wvalue_s3_2 wvalue_s3_3 ((.ref wpieces_j)) T30.heap n0 Z30 G31 G32 G34 ⟨G40, G41, G42, G216⟩ G33 g_j) (w_ hw 44 rfl) (w_ hw 32 rfl) rfl G31 [(.ref s4)] [] 0 (lenOf own_pd16 rfl) rfl (hb hby at_175) rfl rfl rfl fun T267 L267 v267 X267 hQ267 => ?_
        obtain ⟨N267q, K267q, rfl, G268, G269, G270, G271⟩ := hQ267
        have N267 := Fr.app N30 N267q
        have K267 := K30.trans K267q (own_aW 0 rfl own_a0)
        have Z267 := Nat.le_trans Z30 K267q.1
        have hk267 := Nat.le_trans hk30 K267q.1
        obtain ⟨G272, G273, G274, G275, G276⟩ := own_k4 K267q (ninS (Exa.ne G35 G31 (by decide)) nin0) G35 G36 G37 G38 G39
        obtain ⟨G277, G278, G279⟩ := own_k2 K267q (ninS (Exa.ne G40 G31 (by decide)) nin0) G40 G41 G42
        obtain ⟨G280, G281, G282⟩ := own_k2 K267q (ninS (Exa.ne G43 G31 (by decide)) nin0) G43 G44 G45
        have G283 := (own_sta_keep G49 K267q (own_nS (own_nst_exa G31) own_n0))
        have G284 := (own_sta_keep G50 K267q (own_nS (own_nst_exa G31) own_n0))
        have G285 := (G31.keep K267q)
        have G286 := (G52.keep K267q (ninS (Ne.symm (Exa.neArv G31 G52 (w_ hw 31 rfl))) nin0))
        have G287 := (G216.keep K267q (ninS (Ne.symm (Exa.neArv G31 G216 (w_ hw 31 rfl))) nin0))
        have G288 := (G266.keep K267q (ninS (Ne.symm (Exa.neArv G31 G266 (w_ hw 31 rfl))) nin0))
        refine xaloadW X267 hx (hb hby at_178) rfl rfl rfl ?_
        refine xastoreW X267 hx (hb hby at_180) rfl rfl (l' := #[A0, A1, A2, A3, A4, A5, A6, A7, rv s3, rv s4, A8, iv c2, iv w12, A9, rv j, iv (1 : Int32), rv s4, .unset, .unset]) rfl rfl ?_
        refine xgotoW X267 hx 182 199 rfl (hb hby at_182) rfl ?_
        exact own_rm75 l Z a0 hw hs hx hby hlk hml hret (A0) (A1) (A2) (A3) (A4) (A5) (A6) (A7) s3 ((.val (.ref s4))) (A8) ((.val (.int c2))) ((.val (.int w12))) (A9) j s4 zaa zab wvalue_s3_0 wvalue_s3_1 wvalue_s3_2 wvalue_s3_3 wvalue_s3 k_wvalue_s3 wvalue_s4_0 wvalue_s4_1 wvalue_s4_2 wvalue_s4_3 wvalue_s4 k_wvalue_s4 ((.ref wpieces_j)) T267.heap n0 Z267 (X267.more (by decide : 31 ≤ _) (by decide : 104 ≤ _)) rfl N267 hS1 hk267 hZ1 hown1  G283 hcs zaf G284 G277 G278 G279 G287 G280 G281 G282 G288 G268 G269 G271 G270
    · have G289 : Arv Z T30.heap wvalue_s3 k_wvalue_s3 .byte (1 : Int32) [(.int wvalue_s3_0), (.int wvalue_s3_1), (.int wvalue_s3_2), (.int wvalue_s3_3)] J0 := hk214 ▸ G53
      show own_FinW p e below s _ _ _ (T30.setTop (mkF m 171 #[A0, A1, A2, A3, A4, A5, A6, A7, rv s3, rv s4, A8, iv c2, iv w12, A9, rv j, iv (1 : Int32), .unset, .unset, .unset] []))
      rcases id hls4 with hk290 | hk291 | hk292
      · have G293 : Arv Z T30.heap wvalue_s4 k_wvalue_s4 .byte (0 : Int32) [(.int wvalue_s4_0), (.int wvalue_s4_1), (.int wvalue_s4_2), (.int wvalue_s4_3)] J0 := hk290 ▸ G54
        show own_FinW p e below s _ _ _ (T30.setTop (mkF m 171 #[A0, A1, A2, A3, A4, A5, A6, A7, rv s3, rv s4, A8, iv c2, iv w12, A9, rv j, iv (1 : Int32), .unset, .unset, .unset] []))
        refine xaloadW X30 hx (hb hby at_171) rfl rfl rfl ?_
        refine xaloadW X30 hx (hb hby at_173) rfl rfl rfl ?_
        refine oVW X30 hx hZ1 hown1 hml (w_ hw 40 rfl) (w_ hw 41 rfl) (w_ hw 43 rfl) (w_ hw 42 rfl) (own_rm56 hw hs j s4 s3 wvalue_s3 k_wvalue_s3 ([(.int wvalue_s3_0), (.int wvalue_s3_1), (.int wvalue_s3_2), (.int wvalue_s3_3)]) ((1 : Int32)) ((.ref wpieces_j)) wvalue_s4 k_wvalue_s4 wvalue_s4_0 wvalue_s4_1 wvalue_s4_2 wvalue_s4_3 T30.heap n0 Z30 G31 G32 G34 ⟨G40, G41, G42, G289⟩ G33 ⟨G43, G44, G45, G293⟩ (show ¬ ((1 : Int32) = (0 : Int32)) from (by first | decide | assumption | exact Nat.le_of_ble_eq_true rfl))) (w_ hw 44 rfl) (w_ hw 32 rfl) rfl G31 [(.ref s4)] [] 0 (lenOf own_pd16 rfl) rfl (hb hby at_175) rfl rfl rfl fun T294 L294 v294 X294 hQ294 => ?_
        obtain ⟨rfl, N294q, e294⟩ := hQ294
        have N294 := Fr.app N30 N294q
        refine xaloadW X294 hx (hb hby at_178) rfl rfl rfl ?_
        refine xastoreW X294 hx (hb hby at_180) rfl rfl (l' := #[A0, A1, A2, A3, A4, A5, A6, A7, rv s3, rv s4, A8, iv c2, iv w12, A9, rv j, iv (1 : Int32), rv s4, .unset, .unset]) rfl rfl ?_
        refine xgotoW X294 hx 182 199 rfl (hb hby at_182) rfl ?_
        exact own_rm77 l Z a0 hw hs hx hby hlk hml hret (A0) (A1) (A2) (A3) (A4) (A5) (A6) (A7) s3 ((.val (.ref s4))) (A8) ((.val (.int c2))) ((.val (.int w12))) (A9) j s4 zaa zab wvalue_s3_0 wvalue_s3_1 wvalue_s3_2 wvalue_s3_3 wvalue_s3 k_wvalue_s3 wvalue_s4_0 wvalue_s4_1 wvalue_s4_2 wvalue_s4_3 wvalue_s4 k_wvalue_s4 ((.ref wpieces_j)) T30.heap n0 Z30 (X294.more (by decide : 31 ≤ _) (by decide : 104 ≤ _)) e294 N294 hS1 hk30 hZ1 hown1  G49 hcs zaf G50 G40 G41 G42 G289 G43 G44 G45 G293 G31 G32 G34 G33
      · have G295 : Arv Z T30.heap wvalue_s4 k_wvalue_s4 .byte (1 : Int32) [(.int wvalue_s4_0), (.int wvalue_s4_1), (.int wvalue_s4_2), (.int wvalue_s4_3)] J0 := hk291 ▸ G54
        show own_FinW p e below s _ _ _ (T30.setTop (mkF m 171 #[A0, A1, A2, A3, A4, A5, A6, A7, rv s3, rv s4, A8, iv c2, iv w12, A9, rv j, iv (1 : Int32), .unset, .unset, .unset] []))
        refine xaloadW X30 hx (hb hby at_171) rfl rfl rfl ?_
        refine xaloadW X30 hx (hb hby at_173) rfl rfl rfl ?_
        refine oVW X30 hx hZ1 hown1 hml (w_ hw 40 rfl) (w_ hw 41 rfl) (w_ hw 43 rfl) (w_ hw 42 rfl) (own_rm58 hw hs j s4 s3 wvalue_s3 k_wvalue_s3 ([(.int wvalue_s3_0), (.int wvalue_s3_1), (.int wvalue_s3_2), (.int wvalue_s3_3)]) ((1 : Int32)) wpieces_j wvalue_wpieces_j wcount_wpieces_j umaybeLatin1_wpieces_j k_wvalue_wpieces_j ([(.int wvalue_wpieces_j_0), (.int wvalue_wpieces_j_1), (.int wvalue_wpieces_j_2), (.int wvalue_wpieces_j_3)]) wvalue_s4 k_wvalue_s4 ([(.int wvalue_s4_0), (.int wvalue_s4_1), (.int wvalue_s4_2), (.int wvalue_s4_3)]) ((1 : Int32)) zaa T30.heap n0 Z30 G31 G32 G34 ⟨G40, G41, G42, G289⟩ G33 ⟨G35, G36, G37, G38, G39, G52⟩ ⟨G43, G44, G45, G295⟩ G49 (show ¬ ((1 : Int32) = (0 : Int32)) from (by first | decide | assumption | exact Nat.le_of_ble_eq_true rfl)) (show ¬ ((1 : Int32) = (0 : Int32)) from (by first | decide | assumption | exact Nat.le_of_ble_eq_true rfl)) hcnt g_wpieces_j g_j hcs (show ¬ ((0 : Int32) < (((0 : Int32) + (1 : Int32)) - (16 : Int32))) from (by first | decide | assumption | exact Nat.le_of_ble_eq_true rfl)) g_wvalue_wpieces_j (show ¬ ((1 : Int32) < (0 : Int32)) from (by first | decide | assumption | exact Nat.le_of_ble_eq_true rfl)) (show (0 : Int32).toNatClampNeg + (1 : Int32).toNatClampNeg ≤ (16 : Int32).toNatClampNeg from (by first | decide | assumption | exact Nat.le_of_ble_eq_true rfl)) (show (0 : Int32).toNatClampNeg + (1 : Int32).toNatClampNeg ≤ [(.int wvalue_wpieces_j_0), (.int wvalue_wpieces_j_1), (.int wvalue_wpieces_j_2), (.int wvalue_wpieces_j_3)].length from (by first | decide | assumption | exact Nat.le_of_ble_eq_true rfl)) (arv_ne G289 G52 (Or.inl (by decide))) (arv_ne G295 G52 (Or.inl (by decide))) (show ¬ ((0 : Int32) < ((((0 : Int32) + (1 : Int32)) + (1 : Int32)) - (16 : Int32))) from (by first | decide | assumption | exact Nat.le_of_ble_eq_true rfl)) (show ¬ (((0 : Int32) + (1 : Int32)) < (0 : Int32)) from (by first | decide | assumption | exact Nat.le_of_ble_eq_true rfl)) (show ¬ ((1 : Int32) < (0 : Int32)) from (by first | decide | assumption | exact Nat.le_of_ble_eq_true rfl)) (show ((0 : Int32) + (1 : Int32)).toNatClampNeg + (1 : Int32).toNatClampNeg ≤ (16 : Int32).toNatClampNeg from (by first | decide | assumption | exact Nat.le_of_ble_eq_true rfl)) (show ((0 : Int32) + (1 : Int32)).toNatClampNeg + (1 : Int32).toNatClampNeg ≤ (own_cat [(.int wvalue_wpieces_j_0), (.int wvalue_wpieces_j_1), (.int wvalue_wpieces_j_2), (.int wvalue_wpieces_j_3)] [(.int wvalue_s3_0), (.int wvalue_s3_1), (.int wvalue_s3_2), (.int wvalue_s3_3)] (0 : Int32) (1 : Int32)).length from (by first | decide | assumption | exact Nat.le_of_ble_eq_true rfl))) (w_ hw 44 rfl) (w_ hw 32 rfl) rfl G31 [(.ref s4)] [] 0 (lenOf own_pd16 rfl) rfl (hb hby at_175) rfl rfl rfl fun T296 L296 v296 X296 hQ296 => ?_
        obtain ⟨N296q, K296q, uo0_296, rfl, G297, G298, G299, G300, G301, G302, G303, G304, G305, G306⟩ := hQ296
        have N296 := Fr.app N30 N296q
        have K296 := K30.trans K296q (own_aW 2 rfl (own_aW 0 rfl (own_aW 1 rfl own_a0)))
        have Z296 := Nat.le_trans Z30 K296q.1
        have hk296 := Nat.le_trans hk30 K296q.1
        obtain ⟨G307, G308, G309⟩ := own_k2 K296q (ninS (Exa.neArv G40 G52 (w_ hw 9 rfl)) (ninS (Exa.ne G40 G31 (by decide)) (ninS (Exa.ne G40 G35 (by decide)) nin0))) G40 G41 G42
        obtain ⟨G310, G311, G312⟩ := own_k2 K296q (ninS (Exa.neArv G43 G52 (w_ hw 9 rfl)) (ninS (Exa.ne G43 G31 (by decide)) (ninS (Exa.ne G43 G35 (by decide)) nin0))) G43 G44 G45
        have G313 := (G35.keep K296q)
        have G314 := (own_sta_keep G49 K296q (own_nS (own_nst_arv G52) (own_nS (own_nst_exa G31) (own_nS (own_nst_exa G35) own_n0))))
        have G315 := (own_sta_keep G50 K296q (own_nS (own_nst_arv G52) (own_nS (own_nst_exa G31) (own_nS (own_nst_exa G35) own_n0))))
        have G316 := (G31.keep K296q)
        have G317 := (G289.keep K296q (ninS (arv_ne G289 G52 (Or.inl (by decide))) (ninS (Ne.symm (Exa.neArv G31 G289 (w_ hw 31 rfl))) (ninS (Ne.symm (Exa.neArv G35 G289 (w_ hw 64 rfl))) nin0))))
        have G318 := (G295.keep K296q (ninS (arv_ne G295 G52 (Or.inl (by decide))) (ninS (Ne.symm (Exa.neArv G31 G295 (w_ hw 31 rfl))) (ninS (Ne.symm (Exa.neArv G35 G295 (w_ hw 64 rfl))) nin0))))
        have G319 : Arv Z T296.heap wvalue_wpieces_j k_wvalue_wpieces_j .byte (16 : Int32) [(.int wvalue_s3_0), (.int wvalue_s4_0), (.int wvalue_wpieces_j_2), (.int wvalue_wpieces_j_3)] J0 := G297
        have G320 : Fld Z T296.heap wpieces_j cN2 "count" "I" J2 := G306
        refine xaloadW X296 hx (hb hby at_178) rfl rfl rfl ?_
        refine xastoreW X296 hx (hb hby at_180) rfl rfl (l' := #[A0, A1, A2, A3, A4, A5, A6, A7, rv s3, rv s4, A8, iv c2, iv w12, A9, rv j, iv (1 : Int32), rv s4, .unset, .unset]) rfl rfl ?_
        refine xgotoW X296 hx 182 199 rfl (hb hby at_182) rfl ?_
        exact own_rm78 l Z a0 hw hs hx hby hlk hml hret (A0) (A1) (A2) (A3) (A4) (A5) (A6) (A7) s3 ((.val (.ref s4))) (A8) ((.val (.int c2))) ((.val (.int w12))) (A9) j s4 zaa zab wvalue_s3_0 wvalue_s4_0 wvalue_wpieces_j_2 wvalue_wpieces_j_3 wvalue_s3_1 wvalue_s3_2 wvalue_s3_3 wvalue_s3 k_wvalue_s3 wvalue_s4_1 wvalue_s4_2 wvalue_s4_3 wvalue_s4 k_wvalue_s4 ((.ref s3)) wpieces_j wvalue_wpieces_j uo0_296 k_wvalue_wpieces_j T296.heap n0 Z296 (X296.more (by decide : 31 ≤ _) (by decide : 104 ≤ _)) rfl N296 hS1 hk296 hZ1 hown1  G314 hcs zaf G315 G307 G308 G309 G317 G310 G311 G312 G318 G298 G301 G299 G300 G302 G303 G304 G320 G305 G319
      · have G321 : Arv Z T30.heap wvalue_s4 k_wvalue_s4 .byte (2 : Int32) [(.int wvalue_s4_0), (.int wvalue_s4_1), (.int wvalue_s4_2), (.int wvalue_s4_3)] J0 := hk292 ▸ G54
        show own_FinW p e below s _ _ _ (T30.setTop (mkF m 171 #[A0, A1, A2, A3, A4, A5, A6, A7, rv s3, rv s4, A8, iv c2, iv w12, A9, rv j, iv (1 : Int32), .unset, .unset, .unset] []))
        refine xaloadW X30 hx (hb hby at_171) rfl rfl rfl ?_
        refine xaloadW X30 hx (hb hby at_173) rfl rfl rfl ?_
        refine oVW X30 hx hZ1 hown1 hml (w_ hw 40 rfl) (w_ hw 41 rfl) (w_ hw 43 rfl) (w_ hw 42 rfl) (own_rm58 hw hs j s4 s3 wvalue_s3 k_wvalue_s3 ([(.int wvalue_s3_0), (.int wvalue_s3_1), (.int wvalue_s3_2), (.int wvalue_s3_3)]) ((1 : Int32)) wpieces_j wvalue_wpieces_j wcount_wpieces_j umaybeLatin1_wpieces_j k_wvalue_wpieces_j ([(.int wvalue_wpieces_j_0), (.int wvalue_wpieces_j_1), (.int wvalue_wpieces_j_2), (.int wvalue_wpieces_j_3)]) wvalue_s4 k_wvalue_s4 ([(.int wvalue_s4_0), (.int wvalue_s4_1), (.int wvalue_s4_2), (.int wvalue_s4_3)]) ((2 : Int32)) zaa T30.heap n0 Z30 G31 G32 G34 ⟨G40, G41, G42, G289⟩ G33 ⟨G35, G36, G37, G38, G39, G52⟩ ⟨G43, G44, G45, G321⟩ G49 (show ¬ ((1 : Int32) = (0 : Int32)) from (by first | decide | assumption | exact Nat.le_of_ble_eq_true rfl)) (show ¬ ((2 : Int32) = (0 : Int32)) from (by first | decide | assumption | exact Nat.le_of_ble_eq_true rfl)) hcnt g_wpieces_j g_j hcs (show ¬ ((0 : Int32) < (((0 : Int32) + (1 : Int32)) - (16 : Int32))) from (by first | decide | assumption | exact Nat.le_of_ble_eq_true rfl)) g_wvalue_wpieces_j (show ¬ ((1 : Int32) < (0 : Int32)) from (by first | decide | assumption | exact Nat.le_of_ble_eq_true rfl)) (show (0 : Int32).toNatClampNeg + (1 : Int32).toNatClampNeg ≤ (16 : Int32).toNatClampNeg from (by first | decide | assumption | exact Nat.le_of_ble_eq_true rfl)) (show (0 : Int32).toNatClampNeg + (1 : Int32).toNatClampNeg ≤ [(.int wvalue_wpieces_j_0), (.int wvalue_wpieces_j_1), (.int wvalue_wpieces_j_2), (.int wvalue_wpieces_j_3)].length from (by first | decide | assumption | exact Nat.le_of_ble_eq_true rfl)) (arv_ne G289 G52 (Or.inl (by decide))) (arv_ne G321 G52 (Or.inl (by decide))) (show ¬ ((0 : Int32) < ((((0 : Int32) + (1 : Int32)) + (2 : Int32)) - (16 : Int32))) from (by first | decide | assumption | exact Nat.le_of_ble_eq_true rfl)) (show ¬ (((0 : Int32) + (1 : Int32)) < (0 : Int32)) from (by first | decide | assumption | exact Nat.le_of_ble_eq_true rfl)) (show ¬ ((2 : Int32) < (0 : Int32)) from (by first | decide | assumption | exact Nat.le_of_ble_eq_true rfl)) (show ((0 : Int32) + (1 : Int32)).toNatClampNeg + (2 : Int32).toNatClampNeg ≤ (16 : Int32).toNatClampNeg from (by first | decide | assumption | exact Nat.le_of_ble_eq_true rfl)) (show ((0 : Int32) + (1 : Int32)).toNatClampNeg + (2 : Int32).toNatClampNeg ≤ (own_cat [(.int wvalue_wpieces_j_0), (.int wvalue_wpieces_j_1), (.int wvalue_wpieces_j_2), (.int wvalue_wpieces_j_3)] [(.int wvalue_s3_0), (.int wvalue_s3_1), (.int wvalue_s3_2), (.int wvalue_s3_3)] (0 : Int32) (1 : Int32)).length from (by first | decide | assumption | exact Nat.le_of_ble_eq_true rfl))) (w_ hw 44 rfl) (w_ hw 32 rfl) rfl G31 [(.ref s4)] [] 0 (lenOf own_pd16 rfl) rfl (hb hby at_175) rfl rfl rfl fun T322 L322 v322 X322 hQ322 => ?_
        obtain ⟨N322q, K322q, uo0_322, rfl, G323, G324, G325, G326, G327, G328, G329, G330, G331, G332⟩ := hQ322
        have N322 := Fr.app N30 N322q
        have K322 := K30.trans K322q (own_aW 2 rfl (own_aW 0 rfl (own_aW 1 rfl own_a0)))
        have Z322 := Nat.le_trans Z30 K322q.1
        have hk322 := Nat.le_trans hk30 K322q.1
        obtain ⟨G333, G334, G335⟩ := own_k2 K322q (ninS (Exa.neArv G40 G52 (w_ hw 9 rfl)) (ninS (Exa.ne G40 G31 (by decide)) (ninS (Exa.ne G40 G35 (by decide)) nin0))) G40 G41 G42
        obtain ⟨G336, G337, G338⟩ := own_k2 K322q (ninS (Exa.neArv G43 G52 (w_ hw 9 rfl)) (ninS (Exa.ne G43 G31 (by decide)) (ninS (Exa.ne G43 G35 (by decide)) nin0))) G43 G44 G45
        have G339 := (G35.keep K322q)
        have G340 := (own_sta_keep G49 K322q (own_nS (own_nst_arv G52) (own_nS (own_nst_exa G31) (own_nS (own_nst_exa G35) own_n0))))
        have G341 := (own_sta_keep G50 K322q (own_nS (own_nst_arv G52) (own_nS (own_nst_exa G31) (own_nS (own_nst_exa G35) own_n0))))
        have G342 := (G31.keep K322q)
        have G343 := (G289.keep K322q (ninS (arv_ne G289 G52 (Or.inl (by decide))) (ninS (Ne.symm (Exa.neArv G31 G289 (w_ hw 31 rfl))) (ninS (Ne.symm (Exa.neArv G35 G289 (w_ hw 64 rfl))) nin0))))
        have G344 := (G321.keep K322q (ninS (arv_ne G321 G52 (Or.inl (by decide))) (ninS (Ne.symm (Exa.neArv G31 G321 (w_ hw 31 rfl))) (ninS (Ne.symm (Exa.neArv G35 G321 (w_ hw 64 rfl))) nin0))))
        have G345 : Arv Z T322.heap wvalue_wpieces_j k_wvalue_wpieces_j .byte (16 : Int32) [(.int wvalue_s3_0), (.int wvalue_s4_0), (.int wvalue_s4_1), (.int wvalue_wpieces_j_3)] J0 := G323
        have G346 : Fld Z T322.heap wpieces_j cN2 "count" "I" J3 := G332
        refine xaloadW X322 hx (hb hby at_178) rfl rfl rfl ?_
        refine xastoreW X322 hx (hb hby at_180) rfl rfl (l' := #[A0, A1, A2, A3, A4, A5, A6, A7, rv s3, rv s4, A8, iv c2, iv w12, A9, rv j, iv (1 : Int32), rv s4, .unset, .unset]) rfl rfl ?_
        refine xgotoW X322 hx 182 199 rfl (hb hby at_182) rfl ?_
        exact own_rm79 l Z a0 hw hs hx hby hlk hml hret (A0) (A1) (A2) (A3) (A4) (A5) (A6) (A7) s3 ((.val (.ref s4))) (A8) ((.val (.int c2))) ((.val (.int w12))) (A9) j s4 zaa zab wvalue_s3_0 wvalue_s4_0 wvalue_s4_1 wvalue_wpieces_j_3 wvalue_s3_1 wvalue_s3_2 wvalue_s3_3 wvalue_s3 k_wvalue_s3 wvalue_s4_2 wvalue_s4_3 wvalue_s4 k_wvalue_s4 ((.ref s3)) wpieces_j wvalue_wpieces_j uo0_322 k_wvalue_wpieces_j T322.heap n0 Z322 (X322.more (by decide : 31 ≤ _) (by decide : 104 ≤ _)) rfl N322 hS1 hk322 hZ1 hown1  G340 hcs zaf G341 G333 G334 G335 G343 G336 G337 G338 G344 G324 G327 G325 G326 G328 G329 G330 G346 G331 G345
    · have G347 : Arv Z T30.heap wvalue_s3 k_wvalue_s3 .byte (2 : Int32) [(.int wvalue_s3_0), (.int wvalue_s3_1), (.int wvalue_s3_2), (.int wvalue_s3_3)] J0 := hk215 ▸ G53
      show own_FinW p e below s _ _ _ (T30.setTop (mkF m 171 #[A0, A1, A2, A3, A4, A5, A6, A7, rv s3, rv s4, A8, iv c2, iv w12, A9, rv j, iv (1 : Int32), .unset, .unset, .unset] []))
      rcases id hls4 with hk348 | hk349 | hk350
      · have G351 : Arv Z T30.heap wvalue_s4 k_wvalue_s4 .byte (0 : Int32) [(.int wvalue_s4_0), (.int wvalue_s4_1), (.int wvalue_s4_2), (.int wvalue_s4_3)] J0 := hk348 ▸ G54
        show own_FinW p e below s _ _ _ (T30.setTop (mkF m 171 #[A0, A1, A2, A3, A4, A5, A6, A7, rv s3, rv s4, A8, iv c2, iv w12, A9, rv j, iv (1 : Int32), .unset, .unset, .unset] []))
        refine xaloadW X30 hx (hb hby at_171) rfl rfl rfl ?_
        refine xaloadW X30 hx (hb hby at_173) rfl rfl rfl ?_
        refine oVW X30 hx hZ1 hown1 hml (w_ hw 40 rfl) (w_ hw 41 rfl) (w_ hw 43 rfl) (w_ hw 42 rfl) (own_rm56 hw hs j s4 s3 wvalue_s3 k_wvalue_s3 ([(.int wvalue_s3_0), (.int wvalue_s3_1), (.int wvalue_s3_2), (.int wvalue_s3_3)]) ((2 : Int32)) ((.ref wpieces_j)) wvalue_s4 k_wvalue_s4 wvalue_s4_0 wvalue_s4_1 wvalue_s4_2 wvalue_s4_3 T30.heap n0 Z30 G31 G32 G34 ⟨G40, G41, G42, G347⟩ G33 ⟨G43, G44, G45, G351⟩ (show ¬ ((2 : Int32) = (0 : Int32)) from (by first | decide | assumption | exact Nat.le_of_ble_eq_true rfl))) (w_ hw 44 rfl) (w_ hw 32 rfl) rfl G31 [(.ref s4)] [] 0 (lenOf own_pd16 rfl) rfl (hb hby at_175) rfl rfl rfl fun T352 L352 v352 X352 hQ352 => ?_
        obtain ⟨rfl, N352q, e352⟩ := hQ352
        have N352 := Fr.app N30 N352q
        refine xaloadW X352 hx (hb hby at_178) rfl rfl rfl ?_
        refine xastoreW X352 hx (hb hby at_180) rfl rfl (l' := #[A0, A1, A2, A3, A4, A5, A6, A7, rv s3, rv s4, A8, iv c2, iv w12, A9, rv j, iv (1 : Int32), rv s4, .unset, .unset]) rfl rfl ?_
        refine xgotoW X352 hx 182 199 rfl (hb hby at_182) rfl ?_
        exact own_rm80 l Z a0 hw hs hx hby hlk hml hret (A0) (A1) (A2) (A3) (A4) (A5) (A6) (A7) s3 ((.val (.ref s4))) (A8) ((.val (.int c2))) ((.val (.int w12))) (A9) j s4 zaa zab wvalue_s3_0 wvalue_s3_1 wvalue_s3_2 wvalue_s3_3 wvalue_s3 k_wvalue_s3 wvalue_s4_0 wvalue_s4_1 wvalue_s4_2 wvalue_s4_3 wvalue_s4 k_wvalue_s4 ((.ref wpieces_j)) T30.heap n0 Z30 (X352.more (by decide : 31 ≤ _) (by decide : 104 ≤ _)) e352 N352 hS1 hk30 hZ1 hown1  G49 hcs zaf G50 G40 G41 G42 G347 G43 G44 G45 G351 G31 G32 G34 G33
      · have G353 : Arv Z T30.heap wvalue_s4 k_wvalue_s4 .byte (1 : Int32) [(.int wvalue_s4_0), (.int wvalue_s4_1), (.int wvalue_s4_2), (.int wvalue_s4_3)] J0 := hk349 ▸ G54
        show own_FinW p e below s _ _ _ (T30.setTop (mkF m 171 #[A0, A1, A2, A3, A4, A5, A6, A7, rv s3, rv s4, A8, iv c2, iv w12, A9, rv j, iv (1 : Int32), .unset, .unset, .unset] []))
        refine xaloadW X30 hx (hb hby at_171) rfl rfl rfl ?_
        refine xaloadW X30 hx (hb hby at_173) rfl rfl rfl ?_
        refine oVW X30 hx hZ1 hown1 hml (w_ hw 40 rfl) (w_ hw 41 rfl) (w_ hw 43 rfl) (w_ hw 42 rfl) (own_rm58 hw hs j s4 s3 wvalue_s3 k_wvalue_s3 ([(.int wvalue_s3_0), (.int wvalue_s3_1), (.int wvalue_s3_2), (.int wvalue_s3_3)]) ((2 : Int32)) wpieces_j wvalue_wpieces_j wcount_wpieces_j umaybeLatin1_wpieces_j k_wvalue_wpieces_j ([(.int wvalue_wpieces_j_0), (.int wvalue_wpieces_j_1), (.int wvalue_wpieces_j_2), (.int wvalue_wpieces_j_3)]) wvalue_s4 k_wvalue_s4 ([(.int wvalue_s4_0), (.int wvalue_s4_1), (.int wvalue_s4_2), (.int wvalue_s4_3)]) ((1 : Int32)) zaa T30.heap n0 Z30 G31 G32 G34 ⟨G40, G41, G42, G347⟩ G33 ⟨G35, G36, G37, G38, G39, G52⟩ ⟨G43, G44, G45, G353⟩ G49 (show ¬ ((2 : Int32) = (0 : Int32)) from (by first | decide | assumption | exact Nat.le_of_ble_eq_true rfl)) (show ¬ ((1 : Int32) = (0 : Int32)) from (by first | decide | assumption | exact Nat.le_of_ble_eq_true rfl)) hcnt g_wpieces_j g_j hcs (show ¬ ((0 : Int32) < (((0 : Int32) + (2 : Int32)) - (16 : Int32))) from (by first | decide | assumption | exact Nat.le_of_ble_eq_true rfl)) g_wvalue_wpieces_j (show ¬ ((2 : Int32) < (0 : Int32)) from (by first | decide | assumption | exact Nat.le_of_ble_eq_true rfl)) (show (0 : Int32).toNatClampNeg + (2 : Int32).toNatClampNeg ≤ (16 : Int32).toNatClampNeg from (by first | decide | assumption | exact Nat.le_of_ble_eq_true rfl)) (show (0 : Int32).toNatClampNeg + (2 : Int32).toNatClampNeg ≤ [(.int wvalue_wpieces_j_0), (.int wvalue_wpieces_j_1), (.int wvalue_wpieces_j_2), (.int wvalue_wpieces_j_3)].length from (by first | decide | assumption | exact Nat.le_of_ble_eq_true rfl)) (arv_ne G347 G52 (Or.inl (by decide))) (arv_ne G353 G52 (Or.inl (by decide))) (show ¬ ((0 : Int32) < ((((0 : Int32) + (2 : Int32)) + (1 : Int32)) - (16 : Int32))) from (by first | decide | assumption | exact Nat.le_of_ble_eq_true rfl)) (show ¬ (((0 : Int32) + (2 : Int32)) < (0 : Int32)) from (by first | decide | assumption | exact Nat.le_of_ble_eq_true rfl)) (show ¬ ((1 : Int32) < (0 : Int32)) from (by first | decide | assumption | exact Nat.le_of_ble_eq_true rfl)) (show ((0 : Int32) + (2 : Int32)).toNatClampNeg + (1 : Int32).toNatClampNeg ≤ (16 : Int32).toNatClampNeg from (by first | decide | assumption | exact Nat.le_of_ble_eq_true rfl)) (show ((0 : Int32) + (2 : Int32)).toNatClampNeg + (1 : Int32).toNatClampNeg ≤ (own_cat [(.int wvalue_wpieces_j_0), (.int wvalue_wpieces_j_1), (.int wvalue_wpieces_j_2), (.int wvalue_wpieces_j_3)] [(.int wvalue_s3_0), (.int wvalue_s3_1), (.int wvalue_s3_2), (.int wvalue_s3_3)] (0 : Int32) (2 : Int32)).length from (by first | decide | assumption | exact Nat.le_of_ble_eq_true rfl))) (w_ hw 44 rfl) (w_ hw 32 rfl) rfl G31 [(.ref s4)] [] 0 (lenOf own_pd16 rfl) rfl (hb hby at_175) rfl rfl rfl fun T354 L354 v354 X354 hQ354 => ?_
        obtain ⟨N354q, K354q, uo0_354, rfl, G355, G356, G357, G358, G359, G360, G361, G362, G363, G364⟩ := hQ354
        have N354 := Fr.app N30 N354q
        have K354 := K30.trans K354q (own_aW 2 rfl (own_aW 0 rfl (own_aW 1 rfl own_a0)))
        have Z354 := Nat.le_trans Z30 K354q.1
        have hk354 := Nat.le_trans hk30 K354q.1
        obtain ⟨G365, G366, G367⟩ := own_k2 K354q (ninS (Exa.neArv G40 G52 (w_ hw 9 rfl)) (ninS (Exa.ne G40 G31 (by decide)) (ninS (Exa.ne G40 G35 (by decide)) nin0))) G40 G41 G42
        obtain ⟨G368, G369, G370⟩ := own_k2 K354q (ninS (Exa.neArv G43 G52 (w_ hw 9 rfl)) (ninS (Exa.ne G43 G31 (by decide)) (ninS (Exa.ne G43 G35 (by decide)) nin0))) G43 G44 G45
        have G371 := (G35.keep K354q)
        have G372 := (own_sta_keep G49 K354q (own_nS (own_nst_arv G52) (own_nS (own_nst_exa G31) (own_nS (own_nst_exa G35) own_n0))))
        have G373 := (own_sta_keep G50 K354q (own_nS (own_nst_arv G52) (own_nS (own_nst_exa G31) (own_nS (own_nst_exa G35) own_n0))))
        have G374 := (G31.keep K354q)
        have G375 := (G347.keep K354q (ninS (arv_ne G347 G52 (Or.inl (by decide))) (ninS (Ne.symm (Exa.neArv G31 G347 (w_ hw 31 rfl))) (ninS (Ne.symm (Exa.neArv G35 G347 (w_ hw 64 rfl))) nin0))))
        have G376 := (G353.keep K354q (ninS (arv_ne G353 G52 (Or.inl (by decide))) (ninS (Ne.symm (Exa.neArv G31 G353 (w_ hw 31 rfl))) (ninS (Ne.symm (Exa.neArv G35 G353 (w_ hw 64 rfl))) nin0))))
        have G377 : Arv Z T354.heap wvalue_wpieces_j k_wvalue_wpieces_j .byte (16 : Int32) [(.int wvalue_s3_0), (.int wvalue_s3_1), (.int wvalue_s4_0), (.int wvalue_wpieces_j_3)] J0 := G355
        have G378 : Fld Z T354.heap wpieces_j cN2 "count" "I" J3 := G364
        refine xaloadW X354 hx (hb hby at_178) rfl rfl rfl ?_
        refine xastoreW X354 hx (hb hby at_180) rfl rfl (l' := #[A0, A1, A2, A3, A4, A5, A6, A7, rv s3, rv s4, A8, iv c2, iv w12, A9, rv j, iv (1 : Int32), rv s4, .unset, .unset]) rfl rfl ?_
        refine xgotoW X354 hx 182 199 rfl (hb hby at_182) rfl ?_
        exact own_rm81 l Z a0 hw hs hx hby hlk hml hret (A0) (A1) (A2) (A3) (A4) (A5) (A6) (A7) s3 ((.val (.ref s4))) (A8) ((.val (.int c2))) ((.val (.int w12))) (A9) j s4 zaa zab wvalue_s3_0 wvalue_s3_1 wvalue_s4_0 wvalue_wpieces_j_3 wvalue_s3_2 wvalue_s3_3 wvalue_s3 k_wvalue_s3 wvalue_s4_1 wvalue_s4_2 wvalue_s4_3 wvalue_s4 k_wvalue_s4 ((.ref s3)) wpieces_j wvalue_wpieces_j uo0_354 k_wvalue_wpieces_j T354.heap n0 Z354 (X354.more (by decide : 31 ≤ _) (by decide : 104 ≤ _)) rfl N354 hS1 hk354 hZ1 hown1  G372 hcs zaf G373 G365 G366 G367 G375 G368 G369 G370 G376 G356 G359 G357 G358 G360 G361 G362 G378 G363 G377
      · have G379 : Arv Z T30.heap wvalue_s4 k_wvalue_s4 .byte (2 : Int32) [(.int wvalue_s4_0), (.int wvalue_s4_1), (.int wvalue_s4_2), (.int wvalue_s4_3)] J0 := hk350 ▸ G54
        show own_FinW p e below s _ _ _ (T30.setTop (mkF m 171 #[A0, A1, A2, A3, A4, A5, A6, A7, rv s3, rv s4, A8, iv c2, iv w12, A9, rv j, iv (1 : Int32), .unset, .unset, .unset] []))
        refine xaloadW X30 hx (hb hby at_171) rfl rfl rfl ?_
        refine xaloadW X30 hx (hb hby at_173) rfl rfl rfl ?_
        refine oVW X30 hx hZ1 hown1 hml (w_ hw 40 rfl) (w_ hw 41 rfl) (w_ hw 43 rfl) (w_ hw 42 rfl) (own_rm58 hw hs j s4 s3 wvalue_s3 k_wvalue_s3 ([(.int wvalue_s3_0), (.int wvalue_s3_1), (.int wvalue_s3_2), (.int wvalue_s3_3)]) ((2 : Int32)) wpieces_j wvalue_wpieces_j wcount_wpieces_j umaybeLatin1_wpieces_j k_wvalue_wpieces_j ([(.int wvalue_wpieces_j_0), (.int wvalue_wpieces_j_1), (.int wvalue_wpieces_j_2), (.int wvalue_wpieces_j_3)]) wvalue_s4 k_wvalue_s4 ([(.int wvalue_s4_0), (.int wvalue_s4_1), (.int wvalue_s4_2), (.int wvalue_s4_3)]) ((2 : Int32)) zaa T30.heap n0 Z30 G31 G32 G34 ⟨G40, G41, G42, G347⟩ G33 ⟨G35, G36, G37, G38, G39, G52⟩ ⟨G43, G44, G45, G379⟩ G49 (show ¬ ((2 : Int32) = (0 : Int32)) from (by first | decide | assumption | exact Nat.le_of_ble_eq_true rfl)) (show ¬ ((2 : Int32) = (0 : Int32)) from (by first | decide | assumption | exact Nat.le_of_ble_eq_true rfl)) hcnt g_wpieces_j g_j hcs (show ¬ ((0 : Int32) < (((0 : Int32) + (2 : Int32)) - (16 : Int32))) from (by first | decide | assumption | exact Nat.le_of_ble_eq_true rfl)) g_wvalue_wpieces_j (show ¬ ((2 : Int32) < (0 : Int32)) from (by first | decide | assumption | exact Nat.le_of_ble_eq_true rfl)) (show (0 : Int32).toNatClampNeg + (2 : Int32).toNatClampNeg ≤ (16 : Int32).toNatClampNeg from (by first | decide | assumption | exact Nat.le_of_ble_eq_true rfl)) (show (0 : Int32).toNatClampNeg + (2 : Int32).toNatClampNeg ≤ [(.int wvalue_wpieces_j_0), (.int wvalue_wpieces_j_1), (.int wvalue_wpieces_j_2), (.int wvalue_wpieces_j_3)].length from (by first | decide | assumption | exact Nat.le_of_ble_eq_true rfl)) (arv_ne G347 G52 (Or.inl (by decide))) (arv_ne G379 G52 (Or.inl (by decide))) (show ¬ ((0 : Int32) < ((((0 : Int32) + (2 : Int32)) + (2 : Int32)) - (16 : Int32))) from (by first | decide | assumption | exact Nat.le_of_ble_eq_true rfl)) (show ¬ (((0 : Int32) + (2 : Int32)) < (0 : Int32)) from (by first | decide | assumption | exact Nat.le_of_ble_eq_true rfl)) (show ¬ ((2 : Int32) < (0 : Int32)) from (by first | decide | assumption | exact Nat.le_of_ble_eq_true rfl)) (show ((0 : Int32) + (2 : Int32)).toNatClampNeg + (2 : Int32).toNatClampNeg ≤ (16 : Int32).toNatClampNeg from (by first | decide | assumption | exact Nat.le_of_ble_eq_true rfl)) (show ((0 : Int32) + (2 : Int32)).toNatClampNeg + (2 : Int32).toNatClampNeg ≤ (own_cat [(.int wvalue_wpieces_j_0), (.int wvalue_wpieces_j_1), (.int wvalue_wpieces_j_2), (.int wvalue_wpieces_j_3)] [(.int wvalue_s3_0), (.int wvalue_s3_1), (.int wvalue_s3_2), (.int wvalue_s3_3)] (0 : Int32) (2 : Int32)).length from (by first | decide | assumption | exact Nat.le_of_ble_eq_true rfl))) (w_ hw 44 rfl) (w_ hw 32 rfl) rfl G31 [(.ref s4)] [] 0 (lenOf own_pd16 rfl) rfl (hb hby at_175) rfl rfl rfl fun T380 L380 v380 X380 hQ380 => ?_
        obtain ⟨N380q, K380q, uo0_380, rfl, G381, G382, G383, G384, G385, G386, G387, G388, G389, G390⟩ := hQ380
        have N380 := Fr.app N30 N380q
        have K380 := K30.trans K380q (own_aW 2 rfl (own_aW 0 rfl (own_aW 1 rfl own_a0)))
        have Z380 := Nat.le_trans Z30 K380q.1
        have hk380 := Nat.le_trans hk30 K380q.1
        obtain ⟨G391, G392, G393⟩ := own_k2 K380q (ninS (Exa.neArv G40 G52 (w_ hw 9 rfl)) (ninS (Exa.ne G40 G31 (by decide)) (ninS (Exa.ne G40 G35 (by decide)) nin0))) G40 G41 G42
        obtain ⟨G394, G395, G396⟩ := own_k2 K380q (ninS (Exa.neArv G43 G52 (w_ hw 9 rfl)) (ninS (Exa.ne G43 G31 (by decide)) (ninS (Exa.ne G43 G35 (by decide)) nin0))) G43 G44 G45
        have G397 := (G35.keep K380q)
        have G398 := (own_sta_keep G49 K380q (own_nS (own_nst_arv G52) (own_nS (own_nst_exa G31) (own_nS (own_nst_exa G35) own_n0))))
        have G399 := (own_sta_keep G50 K380q (own_nS (own_nst_arv G52) (own_nS (own_nst_exa G31) (own_nS (own_nst_exa G35) own_n0))))
        have G400 := (G31.keep K380q)
        have G401 := (G347.keep K380q (ninS (arv_ne G347 G52 (Or.inl (by decide))) (ninS (Ne.symm (Exa.neArv G31 G347 (w_ hw 31 rfl))) (ninS (Ne.symm (Exa.neArv G35 G347 (w_ hw 64 rfl))) nin0))))
        have G402 := (G379.keep K380q (ninS (arv_ne G379 G52 (Or.inl (by decide))) (ninS (Ne.symm (Exa.neArv G31 G379 (w_ hw 31 rfl))) (ninS (Ne.symm (Exa.neArv G35 G379 (w_ hw 64 rfl))) nin0))))
        have G403 : Arv Z T380.heap wvalue_wpieces_j k_wvalue_wpieces_j .byte (16 : Int32) [(.int wvalue_s3_0), (.int wvalue_s3_1), (.int wvalue_s4_0), (.int wvalue_s4_1)] J0 := G381
        have G404 : Fld Z T380.heap wpieces_j cN2 "count" "I" J4 := G390
        refine xaloadW X380 hx (hb hby at_178) rfl rfl rfl ?_
        refine xastoreW X380 hx (hb hby at_180) rfl rfl (l' := #[A0, A1, A2, A3, A4, A5, A6, A7, rv s3, rv s4, A8, iv c2, iv w12, A9, rv j, iv (1 : Int32), rv s4, .unset, .unset]) rfl rfl ?_
        refine xgotoW X380 hx 182 199 rfl (hb hby at_182) rfl ?_
        exact own_rm82 l Z a0 hw hs hx hby hlk hml hret (A0) (A1) (A2) (A3) (A4) (A5) (A6) (A7) s3 ((.val (.ref s4))) (A8) ((.val (.int c2))) ((.val (.int w12))) (A9) j s4 zaa zab wvalue_s3_0 wvalue_s3_1 wvalue_s4_0 wvalue_s4_1 wvalue_s3_2 wvalue_s3_3 wvalue_s3 k_wvalue_s3 wvalue_s4_2 wvalue_s4_3 wvalue_s4 k_wvalue_s4 ((.ref s3)) wpieces_j wvalue_wpieces_j uo0_380 k_wvalue_wpieces_j T380.heap n0 Z380 (X380.more (by decide : 31 ≤ _) (by decide : 104 ≤ _)) rfl N380 hS1 hk380 hZ1 hown1  G398 hcs zaf G399 G391 G392 G393 G401 G394 G395 G396 G402 G382 G385 G383 G384 G386 G387 G388 G404 G389 G403

theorem own_pd34 : parseMethodDescriptor "(I)Ljava/lang/String;" = some ⟨[.int], some (.object "java/lang/String")⟩ := by decide +kernel
theorem own_ef85 (m : MethodId) (p0 : Int32) (p1 : Int32) (p2 : Int32) (p3 : Int32) (p4 : Int32) (p5 : Int32) : entryFrame m #[(.int p0), (.int p1), (.int p2), (.int p3), (.int p4), (.int p5)] maxLocals = mkF m 0 #[.val (.int p0), .val (.int p1), .val (.int p2), .val (.int p3), .val (.int p4), .val (.int p5), .unset, .unset, .unset, .unset, .unset, .unset, .unset, .unset, .unset, .unset, .unset, .unset, .unset] [] := by first | (simp [entryFrame, mkF, argsToLocals, Value.category, maxLocals]; done) | rfl
def own_Q85 (Z : State) (p0 : Int32) (p1 : Int32) (p2 : Int32) (p3 : Int32) (p4 : Int32) (p5 : Int32) (zaa : Int32) (zab : Value) (h0 : Heap) (n0 : Nat) (v : Option Value) (h : Heap) (L : List Loc) : Prop := v = some (.int 1) ∧ Fr n0 L
set_option maxRecDepth 65536 in
set_option maxHeartbeats 40000000 in
theorem own_rm85 (l : Launch) (Z : State) (a0 : Array Value) (hw : ∀ d ∈ tables_1, d.before a0 Z = true) (hs : ∀ d ∈ jdkStatics_1, d.before a0 Z = true) (ws : List Jvm.Cond) (p0 : Int32) (p1 : Int32) (p2 : Int32) (p3 : Int32) (p4 : Int32) (p5 : Int32) (zaa : Int32) (zab : Value) (h0 : Heap) (n0 : Nat) (Z0 : n0 ≤ h0.size) (zac : Sta Z h0 cN0 "COMPACT_STRINGS" "Z" (.int zaa)) (hcs : ¬ (zaa = (0 : Int32))) (zaf : zab.isRef = true) (zan : Sta Z h0 "jdk/internal/util/Preconditions" "SIOOBE_FORMATTER" "Ljava/util/function/BiFunction;" zab) :
    MetFree l x (head1 (Jvm.Cond.code x code maxLocals ret :: ws) room_1) (fun a U => a = #[(.int p0), (.int p1), (.int p2), (.int p3), (.int p4), (.int p5)] ∧ Z.Warmed39 U.vm ∧ U.heap = h0 ∧ CHv Z consts_1 U.vm h0) (fun _ _ _ _ _ => True) (fun _ U o U' => ∃ v L, o = .returned v ∧ own_Q85 Z p0 p1 p2 p3 p4 p5 zaa zab h0 n0 v U'.heap L ∧ ReturnedEndW U o U' L room_1.cells room_1.slots) := by
  refine MetFree.of_bodySF (plainFor_of_name own_pn4) hisR ?_
  intro p e s m args below meth c s₁ Bd hml0 hP hK
  obtain ⟨rfl, hZ, hh, hCH⟩ := hP
  have hx := Bd.exec
  have hby := Bd.bytes
  have hlk := Bd.notSynchronized
  have hml : c.maxLocals = 19 := hml0
  have hown : s.vm.findClass "com/example/nearfield/nearfield/JoinedTextClearPinLaw" = some m.cls := findClass_of_methodNamed Bd.named
  have hnm := (name_of_methodNamed Bd.named Bd.method).1
  have X0 : Stand p l e room_1 (s.setVm s.vm) m #[(.int p0), (.int p1), (.int p2), (.int p3), (.int p4), (.int p5)] below meth c s₁ [] 0 0 := Stand.of_body Bd
  have e0 : s₁.heap = h0 := by rw [← hh, Bd.state]; rfl
  have N0 := Fr.nil n0
  have KR : Keep h0 h0 [] := Keep.refl _ _
  have hS0 : s.Since s.vm h0.size := (State.WarmedH.refl s).since _
  have hk0 : h0.size ≤ h0.size := Nat.le_refl _
  have H0 : CHr Z consts_1 s.vm s.heap s.vm h0 := by rw [hh]; exact CHr.refl hCH
  show own_FinW p e below s room_1.cells room_1.slots (own_Q85 Z p0 p1 p2 p3 p4 p5 zaa zab h0 n0) (s₁.setTop (entryFrame m #[(.int p0), (.int p1), (.int p2), (.int p3), (.int p4), (.int p5)] maxLocals))
  refine own_castW (own_ef85 m p0 p1 p2 p3 p4 p5) ?_
  refine xiloadNW X0 hx (hb hby at_0) rfl rfl ?_
  obtain ⟨_, _, ⟨T1, L1, k1, n1⟩, -, Y1, hT1, hg1, ⟨Lc1, hQ1, l1, y1, z1, hC1⟩, st1⟩ := callSS X0 hx (y := own_y18) hown (mvT hZ (w_ hw 0 rfl)) (mvT hZ (w_ hw 1 rfl)) (mvT hZ (w_ hw 2 rfl)) (mvT hZ (w_ hw 3 rfl)) (by decide) (backOfSH (W := 0) (own_rm28 hw hs p0 zaa h0 n0 Z0 zac hcs) hZ (w_ hw 3 rfl) (w_ hw 2 rfl) (by decide) (by decide) (own_ew hw) H0.1) (g := (mkF m 1 #[iv p0, iv p1, iv p2, iv p3, iv p4, iv p5, .unset, .unset, .unset, .unset, .unset, .unset, .unset, .unset, .unset, .unset, .unset, .unset, .unset] [(.int p0)])) rfl (by rw [hml]; rfl) (argsL := [(.int p0)]) (rest := []) (lenOf own_pd34 rfl) rfl (by show 2 * 0 + _ ≤ _; exact Nat.le_of_eq rfl) (hb hby at_1) (fun _ _ => ⟨rfl, e0, (by decide : 0 + 6 ≤ _), (by decide : 0 + 12 ≤ _)⟩)
  dsimp only [Pt.U, Pt.locs, Pt.cells, Pt.slots] at Y1 hT1 hg1 l1 y1 z1 st1 hQ1 hC1
  subst l1 y1 z1
  obtain ⟨X1, hS1, hZ1, hown1⟩ := rebS hS0 (by rw [e0]; exact hk0) Y1 hT1 hg1 hZ hown
  have H1 := H0.trans hC1
  obtain ⟨N1q, K1q, b1_x0, b1_x1, ko0_1, ln_1, v0_1, v1_1, rfl, G2, G3, G4, G5, hl1⟩ := hQ1
  have N1 := Fr.app N0 N1q
  have K1 := KR.trans K1q own_a0
  have Z1 := Nat.le_trans Z0 K1q.1
  have hk1 := Nat.le_refl T1.heap.size
  have G6 := (own_sta_keep0 zac K1q)
  have G7 := (own_sta_keep0 zan K1q)
  refine own_stepW (fun _ k => st1.trans k) ?_
  refine xastoreW X1 hx (hb hby at_4) rfl rfl (l' := #[iv p0, iv p1, iv p2, iv p3, iv p4, iv p5, rv b1_x0, .unset, .unset, .unset, .unset, .unset, .unset, .unset, .unset, .unset, .unset, .unset, .unset]) rfl rfl ?_
  refine xiloadNW X1 hx (hb hby at_6) rfl rfl ?_
  obtain ⟨_, _, ⟨T8, L8, k8, n8⟩, -, Y8, hT8, hg8, ⟨Lc8, hQ8, l8, y8, z8, hC8⟩, st8⟩ := callSS X1 hx (y := own_y18) hown1 (mvT hZ1 (w_ hw 0 rfl)) (mvT hZ1 (w_ hw 1 rfl)) (mvT hZ1 (w_ hw 2 rfl)) (mvT hZ1 (w_ hw 3 rfl)) (by decide) (backOfSH (W := 0) (own_rm28 hw hs p1 zaa T1.heap n0 Z1 G6 hcs) hZ1 (w_ hw 3 rfl) (w_ hw 2 rfl) (by decide) (by decide) (own_ew hw) H1.1) (g := (mkF m 7 #[iv p0, iv p1, iv p2, iv p3, iv p4, iv p5, rv b1_x0, .unset, .unset, .unset, .unset, .unset, .unset, .unset, .unset, .unset, .unset, .unset, .unset] [(.int p1)])) rfl (by rw [hml]; rfl) (argsL := [(.int p1)]) (rest := []) (lenOf own_pd34 rfl) rfl (by show 2 * 0 + _ ≤ _; exact Nat.le_of_eq rfl) (hb hby at_7) (fun _ _ => ⟨rfl, rfl, (by decide : 6 + 6 ≤ _), (by decide : 12 + 12 ≤ _)⟩)
  dsimp only [Pt.U, Pt.locs, Pt.cells, Pt.slots] at Y8 hT8 hg8 l8 y8 z8 st8 hQ8 hC8
  subst l8 y8 z8
  obtain ⟨X8, hS8, hZ8, hown8⟩ := rebS hS1 hk1 Y8 hT8 hg8 hZ1 hown1
  have H8 := H1.trans hC8
  obtain ⟨N8q, K8q, b8_x0, b8_x1, ko0_8, ln_8, v0_8, v1_8, rfl, G9, G10, G11, G12, hl8⟩ := hQ8
  have N8 := Fr.app N1 N8q
  have K8 := K1.trans K8q own_a0
  have Z8 := Nat.le_trans Z1 K8q.1
  have hk8 := Nat.le_refl T8.heap.size
  obtain ⟨G13, G14, G15⟩ := own_k2 K8q nin0 G2 G3 G4
  have G16 := (own_sta_keep0 G6 K8q)
  have G17 := (own_sta_keep0 G7 K8q)
  have G18 := (G5.keep K8q nin0)
  refine own_stepW (fun _ k => st8.trans k) ?_
  refine xastoreW X8 hx (hb hby at_10) rfl rfl (l' := #[iv p0, iv p1, iv p2, iv p3, iv p4, iv p5, rv b1_x0, rv b8_x0, .unset, .unset, .unset, .unset, .unset, .unset, .unset, .unset, .unset, .unset, .unset]) rfl rfl ?_
  refine xiloadNW X8 hx (hb hby at_12) rfl rfl ?_
  obtain ⟨_, _, ⟨T19, L19, k19, n19⟩, -, Y19, hT19, hg19, ⟨Lc19, hQ19, l19, y19, z19, hC19⟩, st19⟩ := callSS X8 hx (y := own_y18) hown8 (mvT hZ8 (w_ hw 0 rfl)) (mvT hZ8 (w_ hw 1 rfl)) (mvT hZ8 (w_ hw 2 rfl)) (mvT hZ8 (w_ hw 3 rfl)) (by decide) (backOfSH (W := 0) (own_rm28 hw hs p2 zaa T8.heap n0 Z8 G16 hcs) hZ8 (w_ hw 3 rfl) (w_ hw 2 rfl) (by decide) (by decide) (own_ew hw) H8.1) (g := (mkF m 13 #[iv p0, iv p1, iv p2, iv p3, iv p4, iv p5, rv b1_x0, rv b8_x0, .unset, .unset, .unset, .unset, .unset, .unset, .unset, .unset, .unset, .unset, .unset] [(.int p2)])) rfl (by rw [hml]; rfl) (argsL := [(.int p2)]) (rest := []) (lenOf own_pd34 rfl) rfl (by show 2 * 0 + _ ≤ _; exact Nat.le_of_eq rfl) (hb hby at_13) (fun _ _ => ⟨rfl, rfl, (by decide : 12 + 6 ≤ _), (by decide : 24 + 12 ≤ _)⟩)
  dsimp only [Pt.U, Pt.locs, Pt.cells, Pt.slots] at Y19 hT19 hg19 l19 y19 z19 st19 hQ19 hC19
  subst l19 y19 z19
  obtain ⟨X19, hS19, hZ19, hown19⟩ := rebS hS8 hk8 Y19 hT19 hg19 hZ8 hown8
  have H19 := H8.trans hC19
  obtain ⟨N19q, K19q, b19_x0, b19_x1, ko0_19, ln_19, v0_19, v1_19, rfl, G20, G21, G22, G23, hl19⟩ := hQ19
  have N19 := Fr.app N8 N19q
  have K19 := K8.trans K19q own_a0
  have Z19 := Nat.le_trans Z8 K19q.1
  have hk19 := Nat.le_refl T19.heap.size
  obtain ⟨G24, G25, G26⟩ := own_k2 K19q nin0 G13 G14 G15
  obtain ⟨G27, G28, G29⟩ := own_k2 K19q nin0 G9 G10 G11
  have G30 := (own_sta_keep0 G16 K19q)
  have G31 := (own_sta_keep0 G17 K19q)
  have G32 := (G18.keep K19q nin0)
  have G33 := (G12.keep K19q nin0)
  refine own_stepW (fun _ k => st19.trans k) ?_
  show own_FinW p e below s _ _ _ (T19.setTop (mkF m 16 #[iv p0, iv p1, iv p2, iv p3, iv p4, iv p5, rv b1_x0, rv b8_x0, .unset, .unset, .unset, .unset, .unset, .unset, .unset, .unset, .unset, .unset, .unset] [(.ref b19_x0)]))
  refine xastoreW X19 hx (hb hby at_16) rfl rfl (l' := #[iv p0, iv p1, iv p2, iv p3, iv p4, iv p5, rv b1_x0, rv b8_x0, rv b19_x0, .unset, .unset, .unset, .unset, .unset, .unset, .unset, .unset, .unset, .unset]) rfl rfl ?_
  refine xiloadNW X19 hx (hb hby at_18) rfl rfl ?_
  obtain ⟨_, _, ⟨T34, L34, k34, n34⟩, -, Y34, hT34, hg34, ⟨Lc34, hQ34, l34, y34, z34, hC34⟩, st34⟩ := callSS X19 hx (y := own_y18) hown19 (mvT hZ19 (w_ hw 0 rfl)) (mvT hZ19 (w_ hw 1 rfl)) (mvT hZ19 (w_ hw 2 rfl)) (mvT hZ19 (w_ hw 3 rfl)) (by decide) (backOfSH (W := 0) (own_rm28 hw hs p3 zaa T19.heap n0 Z19 G30 hcs) hZ19 (w_ hw 3 rfl) (w_ hw 2 rfl) (by decide) (by decide) (own_ew hw) H19.1) (g := (mkF m 19 #[iv p0, iv p1, iv p2, iv p3, iv p4, iv p5, rv b1_x0, rv b8_x0, rv b19_x0, .unset, .unset, .unset, .unset, .unset, .unset, .unset, .unset, .unset, .unset] [(.int p3)])) rfl (by rw [hml]; rfl) (argsL := [(.int p3)]) (rest := []) (lenOf own_pd34 rfl) rfl (by show 2 * 0 + _ ≤ _; exact Nat.le_of_eq rfl) (hb hby at_19) (fun _ _ => ⟨rfl, rfl, (by decide : 18 + 6 ≤ _), (by decide : 36 + 12 ≤ _)⟩)
  dsimp only [Pt.U, Pt.locs, Pt.cells, Pt.slots] at Y34 hT34 hg34 l34 y34 z34 st34 hQ34 hC34
  subst l34 y34 z34
  obtain ⟨X34, hS34, hZ34, hown34⟩ := rebS hS19 hk19 Y34 hT34 hg34 hZ19 hown19
  have H34 := H19.trans hC34
  obtain ⟨N34q, K34q, b34_x0, b34_x1, ko0_34, ln_34, v0_34, v1_34, rfl, G35, G36, G37, G38, hl34⟩ := hQ34
  have N34 := Fr.app N19 N34q
  have K34 := K19.trans K34q own_a0
  have Z34 := Nat.le_trans Z19 K34q.1
  have hk34 := Nat.le_refl T34.heap.size
  obtain ⟨G39, G40, G41⟩ := own_k2 K34q nin0 G24 G25 G26
  obtain ⟨G42, G43, G44⟩ := own_k2 K34q nin0 G27 G28 G29
  obtain ⟨G45, G46, G47⟩ := own_k2 K34q nin0 G20 G21 G22
  have G48 := (own_sta_keep0 G30 K34q)
  have G49 := (own_sta_keep0 G31 K34q)
  have G50 := (G32.keep K34q nin0)
  have G51 := (G33.keep K34q nin0)
  have G52 := (G23.keep K34q nin0)
  refine own_stepW (fun _ k => st34.trans k) ?_
  refine xastoreW X34 hx (hb hby at_22) rfl rfl (l' := #[iv p0, iv p1, iv p2, iv p3, iv p4, iv p5, rv b1_x0, rv b8_x0, rv b19_x0, rv b34_x0, .unset, .unset, .unset, .unset, .unset, .unset, .unset, .unset, .unset]) rfl rfl ?_
  refine xiloadW X34 hx (hb hby at_24) rfl rfl ?_
  refine own_stepW (fun _ k => XS.sipush X34.here hx rfl (hb hby at_26) k) ?_
  refine own_stepW (fun _ k => XS.iand X34.here hx rfl (hb hby at_29) rfl k) ?_
  refine own_stepW (fun _ k => XS.i2c X34.here hx rfl (hb hby at_30) rfl k) ?_
  refine xistoreW X34 hx (hb hby at_31) rfl (l' := #[iv p0, iv p1, iv p2, iv p3, iv p4, iv p5, rv b1_x0, rv b8_x0, rv b19_x0, rv b34_x0, iv ((p4 &&& (255 : Int32)).toUInt32.toUInt16.toUInt32.toInt32), .unset, .unset, .unset, .unset, .unset, .unset, .unset, .unset]) rfl rfl ?_
  refine xiloadW X34 hx (hb hby at_33) rfl rfl ?_
  show own_FinW p e below s _ _ _ (T34.setTop (mkF m 35 #[iv p0, iv p1, iv p2, iv p3, iv p4, iv p5, rv b1_x0, rv b8_x0, rv b19_x0, rv b34_x0, iv ((p4 &&& (255 : Int32)).toUInt32.toUInt16.toUInt32.toInt32), .unset, .unset, .unset, .unset, .unset, .unset, .unset, .unset] [(.int p4)]))
  refine xbipushW X34 hx (hb hby at_35) rfl ?_
  refine own_stepW (fun _ k => XS.iushr X34.here hx rfl (hb hby at_37) rfl k) ?_
  refine own_stepW (fun _ k => XS.sipush X34.here hx rfl (hb hby at_38) k) ?_
  refine own_stepW (fun _ k => XS.iand X34.here hx rfl (hb hby at_41) rfl k) ?_
  refine own_stepW (fun _ k => XS.i2c X34.here hx rfl (hb hby at_42) rfl k) ?_
  refine xistoreW X34 hx (hb hby at_43) rfl (l' := #[iv p0, iv p1, iv p2, iv p3, iv p4, iv p5, rv b1_x0, rv b8_x0, rv b19_x0, rv b34_x0, iv ((p4 &&& (255 : Int32)).toUInt32.toUInt16.toUInt32.toInt32), iv ((((p4.toUInt32 >>> ((8 : Int32) &&& 31).toUInt32).toInt32) &&& (255 : Int32)).toUInt32.toUInt16.toUInt32.toInt32), .unset, .unset, .unset, .unset, .unset, .unset, .unset]) rfl rfl ?_
  refine own_join (F := own_FinW p e below s room_1.cells room_1.slots (own_Q85 Z p0 p1 p2 p3 p4 p5 zaa zab h0 n0)) X34 rfl (β := Int32) (fun w53 => (mkF m 62 #[iv p0, iv p1, iv p2, iv p3, iv p4, iv p5, rv b1_x0, rv b8_x0, rv b19_x0, rv b34_x0, iv ((p4 &&& (255 : Int32)).toUInt32.toUInt16.toUInt32.toInt32), iv ((((p4.toUInt32 >>> ((8 : Int32) &&& 31).toUInt32).toInt32) &&& (255 : Int32)).toUInt32.toUInt16.toUInt32.toInt32), iv w53, .unset, .unset, .unset, .unset, .unset, .unset] [])) (fun w53 => True) ?_ ?_
  · intro Tj53 Xj53 ej53 w53 hj53
    show own_FinW p e below s _ _ _ (Tj53.setTop (mkF m 62 #[iv p0, iv p1, iv p2, iv p3, iv p4, iv p5, rv b1_x0, rv b8_x0, rv b19_x0, rv b34_x0, iv ((p4 &&& (255 : Int32)).toUInt32.toUInt16.toUInt32.toInt32), iv ((((p4.toUInt32 >>> ((8 : Int32) &&& 31).toUInt32).toInt32) &&& (255 : Int32)).toUInt32.toUInt16.toUInt32.toInt32), iv w53, .unset, .unset, .unset, .unset, .unset, .unset] []))
    refine xiloadW Xj53 hx (hb hby at_62) rfl rfl ?_
    refine xiconstW Xj53 hx (hb hby at_64) rfl ?_
    refine own_stepW (fun _ k => XS.iand Xj53.here hx rfl (hb hby at_65) rfl k) ?_
    refine xistoreW Xj53 hx (hb hby at_66) rfl (l' := #[iv p0, iv p1, iv p2, iv p3, iv p4, iv p5, rv b1_x0, rv b8_x0, rv b19_x0, rv b34_x0, iv ((p4 &&& (255 : Int32)).toUInt32.toUInt16.toUInt32.toInt32), iv ((((p4.toUInt32 >>> ((8 : Int32) &&& 31).toUInt32).toInt32) &&& (255 : Int32)).toUInt32.toUInt16.toUInt32.toInt32), iv w53, iv (p5 &&& (3 : Int32)), .unset, .unset, .unset, .unset, .unset]) rfl rfl ?_
    obtain ⟨T54, h54, X54, e54, E54, A54, D54, -, st54⟩ := newO Xj53 hx hZ34 hown34 (w_ hw 30 rfl) (w_ hw 31 rfl) (w_ hw 32 rfl) ej53 (g := (mkF m 68 #[iv p0, iv p1, iv p2, iv p3, iv p4, iv p5, rv b1_x0, rv b8_x0, rv b19_x0, rv b34_x0, iv ((p4 &&& (255 : Int32)).toUInt32.toUInt16.toUInt32.toInt32), iv ((((p4.toUInt32 >>> ((8 : Int32) &&& 31).toUInt32).toInt32) &&& (255 : Int32)).toUInt32.toUInt16.toUInt32.toInt32), iv w53, iv (p5 &&& (3 : Int32)), .unset, .unset, .unset, .unset, .unset] [])) rfl (hb hby at_68) (by decide) (by decide)
    obtain ⟨b54, g54⟩ : ∃ z, z = T34.heap.size := ⟨_, rfl⟩
    rw [← g54] at A54 D54 st54
    have gg54 : n0 ≤ b54 := Nat.le_trans Z34 (Nat.le_of_eq g54.symm)
    have sz54 : h0.size ≤ b54 := Nat.le_trans K34.1 (Nat.le_of_eq g54.symm)
    have K54 : Keep h0 h54 [] := K34.ext E54
    have Z54 : n0 ≤ h54.size := Nat.le_trans Z34 E54.1
    have hk54 := Nat.le_trans hk34 E54.1
    have H55 := H34.trans (CHr.ext E54 H34.1)
    obtain ⟨G56, G57, G58⟩ := own_e2 E54 G39 G40 G41
    obtain ⟨G59, G60, G61⟩ := own_e2 E54 G42 G43 G44
    obtain ⟨G62, G63, G64⟩ := own_e2 E54 G45 G46 G47
    obtain ⟨G65, G66, G67⟩ := own_e2 E54 G35 G36 G37
    have G68 := (G48.ext E54)
    have G69 := (G49.ext E54)
    have G70 := (G50.ext E54)
    have G71 := (G51.ext E54)
    have G72 := (G52.ext E54)
    have G73 := (G38.ext E54)
    have G74 : Fld Z h54 b54 cN3 "piece" "Ljava/lang/String;" .null := D54 (Or.inl (w_ hw 39 rfl)) (ty := (.object cN0)) (by decide)
    have G75 : Fld Z h54 b54 cN3 "joined" "Z" J0 := D54 (Or.inl (w_ hw 46 rfl)) (ty := .boolean) (by decide)
    have G76 : Fld Z h54 b54 cN3 "pieces" "Ljava/lang/StringBuilder;" .null := D54 (Or.inl (w_ hw 62 rfl)) (ty := (.object cN1)) (by decide)
    refine own_stepW st54 ?_
    refine xdupW X54 hx (hb hby at_71) rfl rfl rfl ?_
    obtain ⟨_, _, ⟨T77, L77, k77, n77⟩, -, Y77, hT77, hg77, ⟨Lc77, hQ77, l77, y77, z77, hC77⟩, st77⟩ := X54.specialBackS hx (y := own_y19) rfl hown34 (mvT hZ34 (w_ hw 33 rfl)) (mvT hZ34 (w_ hw 34 rfl)) (mvT hZ34 (w_ hw 35 rfl)) (by decide) (backOfSH (W := 1) (own_rm29 hw hs b54 .null (J0) .null h54 n0 Z54 A54 G74 G75 G76 gg54) hZ34 (w_ hw 35 rfl) (w_ hw 32 rfl) (by decide) (by decide) (own_ew hw) H55.1) (g := (mkF m 72 #[iv p0, iv p1, iv p2, iv p3, iv p4, iv p5, rv b1_x0, rv b8_x0, rv b19_x0, rv b34_x0, iv ((p4 &&& (255 : Int32)).toUInt32.toUInt16.toUInt32.toInt32), iv ((((p4.toUInt32 >>> ((8 : Int32) &&& 31).toUInt32).toInt32) &&& (255 : Int32)).toUInt32.toUInt16.toUInt32.toInt32), iv w53, iv (p5 &&& (3 : Int32)), .unset, .unset, .unset, .unset, .unset] [(.ref b54), (.ref b54)])) rfl (by rw [hml]; rfl) (Steps.refl _) (a := b54) (argsL := []) (rest := [(.ref b54)]) (lenOf own_pd26 rfl) rfl (by show 2 * 0 + _ ≤ _; exact Nat.le_of_eq rfl) (hb hby at_72) (fun _ _ => ⟨rfl, e54, (by decide : 25 + 2 ≤ _), (by decide : 51 + 4 ≤ _)⟩)
    dsimp only [Pt.U, Pt.locs, Pt.cells, Pt.slots] at Y77 hT77 hg77 l77 y77 z77 st77 hQ77 hC77
    subst l77 y77 z77
    obtain ⟨X77, hS77, hZ77, hown77⟩ := rebS hS34 (by rw [e54]; exact hk54) Y77 hT77 hg77 hZ34 hown34
    have H77 := H55.trans hC77
    obtain ⟨N77q, K77q, b77_x0, b77_x1, ko0_77, rfl, G78, G79, G80, G81, G82, G83, G84, G85⟩ := hQ77
    have N77 := Fr.app N34 N77q
    have K77 := K54.trans K77q (own_aB sz54 own_a0)
    have Z77 := Nat.le_trans Z54 K77q.1
    have hk77 := Nat.le_refl T77.heap.size
    obtain ⟨G86, G87, G88⟩ := own_k2 K77q (ninS (Exa.ne G56 A54 (by decide)) nin0) G56 G57 G58
    obtain ⟨G89, G90, G91⟩ := own_k2 K77q (ninS (Exa.ne G59 A54 (by decide)) nin0) G59 G60 G61
    obtain ⟨G92, G93, G94⟩ := own_k2 K77q (ninS (Exa.ne G62 A54 (by decide)) nin0) G62 G63 G64
    obtain ⟨G95, G96, G97⟩ := own_k2 K77q (ninS (Exa.ne G65 A54 (by decide)) nin0) G65 G66 G67
    have G98 := (own_sta_keep G68 K77q (own_nS (own_nst_exa A54) own_n0))
    have G99 := (own_sta_keep G69 K77q (own_nS (own_nst_exa A54) own_n0))
    have G100 := (G70.keep K77q (ninS (Ne.symm (Exa.neArv A54 G70 (w_ hw 31 rfl))) nin0))
    have G101 := (G71.keep K77q (ninS (Ne.symm (Exa.neArv A54 G71 (w_ hw 31 rfl))) nin0))
    have G102 := (G72.keep K77q (ninS (Ne.symm (Exa.neArv A54 G72 (w_ hw 31 rfl))) nin0))
    have G103 := (G73.keep K77q (ninS (Ne.symm (Exa.neArv A54 G73 (w_ hw 31 rfl))) nin0))
    have G104 := (A54.keep K77q)
    refine own_stepW (fun _ k => st77.trans k) ?_
    refine xastoreW X77 hx (hb hby at_75) rfl rfl (l' := #[iv p0, iv p1, iv p2, iv p3, iv p4, iv p5, rv b1_x0, rv b8_x0, rv b19_x0, rv b34_x0, iv ((p4 &&& (255 : Int32)).toUInt32.toUInt16.toUInt32.toInt32), iv ((((p4.toUInt32 >>> ((8 : Int32) &&& 31).toUInt32).toInt32) &&& (255 : Int32)).toUInt32.toUInt16.toUInt32.toInt32), iv w53, iv (p5 &&& (3 : Int32)), rv b54, .unset, .unset, .unset, .unset]) rfl rfl ?_
    rcases own_md p5 with hk105 | hk106 | hk107 | hk108
    · rw [hk105]
      show own_FinW p e below s _ _ _ (T77.setTop (mkF m 77 #[iv p0, iv p1, iv p2, iv p3, iv p4, iv p5, rv b1_x0, rv b8_x0, rv b19_x0, rv b34_x0, iv ((p4 &&& (255 : Int32)).toUInt32.toUInt16.toUInt32.toInt32), iv ((((p4.toUInt32 >>> ((8 : Int32) &&& 31).toUInt32).toInt32) &&& (255 : Int32)).toUInt32.toUInt16.toUInt32.toInt32), iv w53, iv (0 : Int32), rv b54, .unset, .unset, .unset, .unset] []))
      refine xiloadW X77 hx (hb hby at_77) rfl rfl ?_
      refine xiconstW X77 hx (hb hby at_79) rfl ?_
      refine xicmpYesW X77 hx 80 90 rfl (hb hby at_80) rfl (tlt (by decide : (0 : Int32) < (1 : Int32))).1 rfl ?_
      refine xiloadW X77 hx (hb hby at_90) rfl rfl ?_
      refine xiconstW X77 hx (hb hby at_92) rfl ?_
      refine xicmpYesW X77 hx 93 103 rfl (hb hby at_93) rfl (feq (by decide : ¬ ((0 : Int32) = (2 : Int32)))).2 rfl ?_
      refine xiloadW X77 hx (hb hby at_103) rfl rfl ?_
      refine xiconstW X77 hx (hb hby at_105) rfl ?_
      refine xicmpYesW X77 hx 106 116 rfl (hb hby at_106) rfl (feq (by decide : ¬ ((0 : Int32) = (3 : Int32)))).2 rfl ?_
      exact own_rm83 l Z a0 hw hs hx hby hlk hml Bd.returns ((.val (.int p0))) ((.val (.int p1))) ((.val (.int p2))) ((.val (.int p3))) ((.val (.int p4))) ((.val (.int p5))) ((.val (.ref b1_x0))) ((.val (.ref b8_x0))) b19_x0 b34_x0 ((.val (.int ((p4 &&& (255 : Int32)).toUInt32.toUInt16.toUInt32.toInt32)))) (((((p4.toUInt32 >>> ((8 : Int32) &&& 31).toUInt32).toInt32) &&& (255 : Int32)).toUInt32.toUInt16.toUInt32.toInt32)) w53 ((.val J0)) b54 zaa zab ((.ref b77_x0)) (J0) b19_x1 ko0_19 v0_19 v1_19 ((0 : Int32)) ((0 : Int32)) ln_19 b34_x1 ko0_34 v0_34 v1_34 ((0 : Int32)) ((0 : Int32)) ln_34 T77.heap n0 Z77 (X77.more (by decide : 27 ≤ _) (by decide : 55 ≤ _)) rfl N77 hS77 hk77 hZ77 hown77 H77 G98 hcs zaf G99 G78 G81 G79 G80 G92 G94 G93 G102 hl19 G95 G97 G96 G103 hl34 (show ¬ ((255 : Int32) < ((((p4.toUInt32 >>> ((8 : Int32) &&& 31).toUInt32).toInt32) &&& (255 : Int32)).toUInt32.toUInt16.toUInt32.toInt32)) from own_c8 _) gg54
    · rw [hk106]
      show own_FinW p e below s _ _ _ (T77.setTop (mkF m 77 #[iv p0, iv p1, iv p2, iv p3, iv p4, iv p5, rv b1_x0, rv b8_x0, rv b19_x0, rv b34_x0, iv ((p4 &&& (255 : Int32)).toUInt32.toUInt16.toUInt32.toInt32), iv ((((p4.toUInt32 >>> ((8 : Int32) &&& 31).toUInt32).toInt32) &&& (255 : Int32)).toUInt32.toUInt16.toUInt32.toInt32), iv w53, iv (1 : Int32), rv b54, .unset, .unset, .unset, .unset] []))
      refine xiloadW X77 hx (hb hby at_77) rfl rfl ?_
      refine xiconstW X77 hx (hb hby at_79) rfl ?_
      refine xicmpNoW X77 hx (hb hby at_80) rfl (flt (by decide : ¬ ((1 : Int32) < (1 : Int32)))).1 rfl ?_
      refine xaloadW X77 hx (hb hby at_83) rfl rfl rfl ?_
      refine xaloadW X77 hx (hb hby at_85) rfl rfl rfl ?_
      refine oVW X77 hx hZ77 hown77 hml (w_ hw 40 rfl) (w_ hw 41 rfl) (w_ hw 43 rfl) (w_ hw 42 rfl) (own_rm55 hw hs b54 b1_x0 b77_x0 b77_x1 ko0_77 ((0 : Int32)) ((0 : Int32)) ((0 : Int32)) ((0 : Int32)) .null T77.heap n0 Z77 G78 G79 G81 ⟨G82, G84, G83, G85⟩ G80 gg54) (w_ hw 44 rfl) (w_ hw 32 rfl) rfl G78 [(.ref b1_x0)] [] 0 (lenOf own_pd16 rfl) rfl (hb hby at_87) rfl rfl rfl fun T109 L109 v109 X109 hQ109 => ?_
      obtain ⟨N109q, K109q, rfl, G110, G111, G112, G113⟩ := hQ109
      have N109 := Fr.app N77 N109q
      have K109 := K77.trans K109q (own_aB sz54 own_a0)
      have Z109 := Nat.le_trans Z77 K109q.1
      have hk109 := Nat.le_trans hk77 K109q.1
      have H114 := H77.trans (CHr.keep K109q (sfS (Safe.exa (EL := consts_1) hZ77.alike G78 (by decide) (by decide)) sf0) H77.1)
      obtain ⟨G115, G116, G117⟩ := own_k2 K109q (ninS (Exa.ne G86 G78 (by decide)) nin0) G86 G87 G88
      obtain ⟨G118, G119, G120⟩ := own_k2 K109q (ninS (Exa.ne G89 G78 (by decide)) nin0) G89 G90 G91
      obtain ⟨G121, G122, G123⟩ := own_k2 K109q (ninS (Exa.ne G92 G78 (by decide)) nin0) G92 G93 G94
      obtain ⟨G124, G125, G126⟩ := own_k2 K109q (ninS (Exa.ne G95 G78 (by decide)) nin0) G95 G96 G97
      obtain ⟨G127, G128, G129⟩ := own_k2 K109q (ninS (Exa.ne G82 G78 (by decide)) nin0) G82 G83 G84
      have G130 := (own_sta_keep G98 K109q (own_nS (own_nst_exa G78) own_n0))
      have G131 := (own_sta_keep G99 K109q (own_nS (own_nst_exa G78) own_n0))
      have G132 := (G100.keep K109q (ninS (Ne.symm (Exa.neArv G78 G100 (w_ hw 31 rfl))) nin0))
      have G133 := (G101.keep K109q (ninS (Ne.symm (Exa.neArv G78 G101 (w_ hw 31 rfl))) nin0))
      have G134 := (G102.keep K109q (ninS (Ne.symm (Exa.neArv G78 G102 (w_ hw 31 rfl))) nin0))
      have G135 := (G103.keep K109q (ninS (Ne.symm (Exa.neArv G78 G103 (w_ hw 31 rfl))) nin0))
      have G136 := (G78.keep K109q)
      have G137 := (G85.keep K109q (ninS (Ne.symm (Exa.neArv G78 G85 (w_ hw 31 rfl))) nin0))
      refine xiloadW X109 hx (hb hby at_90) rfl rfl ?_
      refine xiconstW X109 hx (hb hby at_92) rfl ?_
      refine xicmpYesW X109 hx 93 103 rfl (hb hby at_93) rfl (feq (by decide : ¬ ((1 : Int32) = (2 : Int32)))).2 rfl ?_
      refine xiloadW X109 hx (hb hby at_103) rfl rfl ?_
      show own_FinW p e below s _ _ _ (T109.setTop (mkF m 105 #[iv p0, iv p1, iv p2, iv p3, iv p4, iv p5, rv b1_x0, rv b8_x0, rv b19_x0, rv b34_x0, iv ((p4 &&& (255 : Int32)).toUInt32.toUInt16.toUInt32.toInt32), iv ((((p4.toUInt32 >>> ((8 : Int32) &&& 31).toUInt32).toInt32) &&& (255 : Int32)).toUInt32.toUInt16.toUInt32.toInt32), iv w53, iv (1 : Int32), rv b54, .unset, .unset, .unset, .unset] [J1]))
      refine xiconstW X109 hx (hb hby at_105) rfl ?_
      refine xicmpYesW X109 hx 106 116 rfl (hb hby at_106) rfl (feq (by decide : ¬ ((1 : Int32) = (3 : Int32)))).2 rfl ?_
      exact own_rm83 l Z a0 hw hs hx hby hlk hml Bd.returns ((.val (.int p0))) ((.val (.int p1))) ((.val (.int p2))) ((.val (.int p3))) ((.val (.int p4))) ((.val (.int p5))) ((.val (.ref b1_x0))) ((.val (.ref b8_x0))) b19_x0 b34_x0 ((.val (.int ((p4 &&& (255 : Int32)).toUInt32.toUInt16.toUInt32.toInt32)))) (((((p4.toUInt32 >>> ((8 : Int32) &&& 31).toUInt32).toInt32) &&& (255 : Int32)).toUInt32.toUInt16.toUInt32.toInt32)) w53 ((.val J1)) b54 zaa zab ((.ref b1_x0)) (J0) b19_x1 ko0_19 v0_19 v1_19 ((0 : Int32)) ((0 : Int32)) ln_19 b34_x1 ko0_34 v0_34 v1_34 ((0 : Int32)) ((0 : Int32)) ln_34 T109.heap n0 Z109 (X109.more (by decide : 27 ≤ _) (by decide : 55 ≤ _)) rfl N109 hS77 hk109 hZ77 hown77 H114 G130 hcs zaf G131 G110 G113 G111 G112 G121 G123 G122 G134 hl19 G124 G126 G125 G135 hl34 (show ¬ ((255 : Int32) < ((((p4.toUInt32 >>> ((8 : Int32) &&& 31).toUInt32).toInt32) &&& (255 : Int32)).toUInt32.toUInt16.toUInt32.toInt32)) from own_c8 _) gg54
    · rw [hk107]
      show own_FinW p e below s _ _ _ (T77.setTop (mkF m 77 #[iv p0, iv p1, iv p2, iv p3, iv p4, iv p5, rv b1_x0, rv b8_x0, rv b19_x0, rv b34_x0, iv ((p4 &&& (255 : Int32)).toUInt32.toUInt16.toUInt32.toInt32), iv ((((p4.toUInt32 >>> ((8 : Int32) &&& 31).toUInt32).toInt32) &&& (255 : Int32)).toUInt32.toUInt16.toUInt32.toInt32), iv w53, iv (2 : Int32), rv b54, .unset, .unset, .unset, .unset] []))
      refine xiloadW X77 hx (hb hby at_77) rfl rfl ?_
      refine xiconstW X77 hx (hb hby at_79) rfl ?_
      refine xicmpNoW X77 hx (hb hby at_80) rfl (flt (by decide : ¬ ((2 : Int32) < (1 : Int32)))).1 rfl ?_
      refine xaloadW X77 hx (hb hby at_83) rfl rfl rfl ?_
      refine xaloadW X77 hx (hb hby at_85) rfl rfl rfl ?_
      refine oVW X77 hx hZ77 hown77 hml (w_ hw 40 rfl) (w_ hw 41 rfl) (w_ hw 43 rfl) (w_ hw 42 rfl) (own_rm55 hw hs b54 b1_x0 b77_x0 b77_x1 ko0_77 ((0 : Int32)) ((0 : Int32)) ((0 : Int32)) ((0 : Int32)) .null T77.heap n0 Z77 G78 G79 G81 ⟨G82, G84, G83, G85⟩ G80 gg54) (w_ hw 44 rfl) (w_ hw 32 rfl) rfl G78 [(.ref b1_x0)] [] 0 (lenOf own_pd16 rfl) rfl (hb hby at_87) rfl rfl rfl fun T138 L138 v138 X138 hQ138 => ?_
      obtain ⟨N138q, K138q, rfl, G139, G140, G141, G142⟩ := hQ138
      have N138 := Fr.app N77 N138q
      have K138 := K77.trans K138q (own_aB sz54 own_a0)
      have Z138 := Nat.le_trans Z77 K138q.1
      have hk138 := Nat.le_trans hk77 K138q.1
      have H143 := H77.trans (CHr.keep K138q (sfS (Safe.exa (EL := consts_1) hZ77.alike G78 (by decide) (by decide)) sf0) H77.1)
      obtain ⟨G144, G145, G146⟩ := own_k2 K138q (ninS (Exa.ne G86 G78 (by decide)) nin0) G86 G87 G88
      obtain ⟨G147, G148, G149⟩ := own_k2 K138q (ninS (Exa.ne G89 G78 (by decide)) nin0) G89 G90 G91
      obtain ⟨G150, G151, G152⟩ := own_k2 K138q (ninS (Exa.ne G92 G78 (by decide)) nin0) G92 G93 G94
      obtain ⟨G153, G154, G155⟩ := own_k2 K138q (ninS (Exa.ne G95 G78 (by decide)) nin0) G95 G96 G97
      obtain ⟨G156, G157, G158⟩ := own_k2 K138q (ninS (Exa.ne G82 G78 (by decide)) nin0) G82 G83 G84
      have G159 := (own_sta_keep G98 K138q (own_nS (own_nst_exa G78) own_n0))
      have G160 := (own_sta_keep G99 K138q (own_nS (own_nst_exa G78) own_n0))
      have G161 := (G100.keep K138q (ninS (Ne.symm (Exa.neArv G78 G100 (w_ hw 31 rfl))) nin0))
      have G162 := (G101.keep K138q (ninS (Ne.symm (Exa.neArv G78 G101 (w_ hw 31 rfl))) nin0))
      have G163 := (G102.keep K138q (ninS (Ne.symm (Exa.neArv G78 G102 (w_ hw 31 rfl))) nin0))
      have G164 := (G103.keep K138q (ninS (Ne.symm (Exa.neArv G78 G103 (w_ hw 31 rfl))) nin0))
      have G165 := (G78.keep K138q)
      have G166 := (G85.keep K138q (ninS (Ne.symm (Exa.neArv G78 G85 (w_ hw 31 rfl))) nin0))
      refine xiloadW X138 hx (hb hby at_90) rfl rfl ?_
      refine xiconstW X138 hx (hb hby at_92) rfl ?_
      refine xicmpNoW X138 hx (hb hby at_93) rfl (teq (by decide : (2 : Int32) = (2 : Int32))).2 rfl ?_
      rcases id hl1 with hk167 | hk168 | hk169
      · have G170 : Arv Z T138.heap b1_x1 ko0_1 .byte (0 : Int32) [(.int v0_1), (.int v1_1), J0, J0] J0 := hk167 ▸ G161
        show own_FinW p e below s _ _ _ (T138.setTop (mkF m 96 #[iv p0, iv p1, iv p2, iv p3, iv p4, iv p5, rv b1_x0, rv b8_x0, rv b19_x0, rv b34_x0, iv ((p4 &&& (255 : Int32)).toUInt32.toUInt16.toUInt32.toInt32), iv ((((p4.toUInt32 >>> ((8 : Int32) &&& 31).toUInt32).toInt32) &&& (255 : Int32)).toUInt32.toUInt16.toUInt32.toInt32), iv w53, iv (2 : Int32), rv b54, .unset, .unset, .unset, .unset] []))
        refine xaloadW X138 hx (hb hby at_96) rfl rfl rfl ?_
        refine xaloadW X138 hx (hb hby at_98) rfl rfl rfl ?_
        refine oVW X138 hx hZ77 hown77 hml (w_ hw 40 rfl) (w_ hw 41 rfl) (w_ hw 43 rfl) (w_ hw 42 rfl) (own_rm55 hw hs b54 b8_x0 b1_x0 b1_x1 ko0_1 v0_1 v1_1 ((0 : Int32)) ((0 : Int32)) .null T138.heap n0 Z138 G139 G140 G142 ⟨G144, G146, G145, G170⟩ G141 gg54) (w_ hw 44 rfl) (w_ hw 32 rfl) rfl G139 [(.ref b8_x0)] [] 0 (lenOf own_pd16 rfl) rfl (hb hby at_100) rfl rfl rfl fun T171 L171 v171 X171 hQ171 => ?_
        obtain ⟨N171q, K171q, rfl, G172, G173, G174, G175⟩ := hQ171
        have N171 := Fr.app N138 N171q
        have K171 := K138.trans K171q (own_aB sz54 own_a0)
        have Z171 := Nat.le_trans Z138 K171q.1
        have hk171 := Nat.le_trans hk138 K171q.1
        have H176 := H143.trans (CHr.keep K171q (sfS (Safe.exa (EL := consts_1) hZ77.alike G139 (by decide) (by decide)) sf0) H143.1)
        obtain ⟨G177, G178, G179⟩ := own_k2 K171q (ninS (Exa.ne G144 G139 (by decide)) nin0) G144 G145 G146
        obtain ⟨G180, G181, G182⟩ := own_k2 K171q (ninS (Exa.ne G147 G139 (by decide)) nin0) G147 G148 G149
        obtain ⟨G183, G184, G185⟩ := own_k2 K171q (ninS (Exa.ne G150 G139 (by decide)) nin0) G150 G151 G152
        obtain ⟨G186, G187, G188⟩ := own_k2 K171q (ninS (Exa.ne G153 G139 (by decide)) nin0) G153 G154 G155
        obtain ⟨G189, G190, G191⟩ := own_k2 K171q (ninS (Exa.ne G156 G139 (by decide)) nin0) G156 G157 G158
        have G192 := (own_sta_keep G159 K171q (own_nS (own_nst_exa G139) own_n0))
        have G193 := (own_sta_keep G160 K171q (own_nS (own_nst_exa G139) own_n0))
        have G194 := (G170.keep K171q (ninS (Ne.symm (Exa.neArv G139 G170 (w_ hw 31 rfl))) nin0))
        have G195 := (G162.keep K171q (ninS (Ne.symm (Exa.neArv G139 G162 (w_ hw 31 rfl))) nin0))
        have G196 := (G163.keep K171q (ninS (Ne.symm (Exa.neArv G139 G163 (w_ hw 31 rfl))) nin0))
        have G197 := (G164.keep K171q (ninS (Ne.symm (Exa.neArv G139 G164 (w_ hw 31 rfl))) nin0))
        have G198 := (G139.keep K171q)
        have G199 := (G166.keep K171q (ninS (Ne.symm (Exa.neArv G139 G166 (w_ hw 31 rfl))) nin0))
        refine xiloadW X171 hx (hb hby at_103) rfl rfl ?_
        refine xiconstW X171 hx (hb hby at_105) rfl ?_
        refine xicmpYesW X171 hx 106 116 rfl (hb hby at_106) rfl (feq (by decide : ¬ ((2 : Int32) = (3 : Int32)))).2 rfl ?_
        exact own_rm83 l Z a0 hw hs hx hby hlk hml Bd.returns ((.val (.int p0))) ((.val (.int p1))) ((.val (.int p2))) ((.val (.int p3))) ((.val (.int p4))) ((.val (.int p5))) ((.val (.ref b1_x0))) ((.val (.ref b8_x0))) b19_x0 b34_x0 ((.val (.int ((p4 &&& (255 : Int32)).toUInt32.toUInt16.toUInt32.toInt32)))) (((((p4.toUInt32 >>> ((8 : Int32) &&& 31).toUInt32).toInt32) &&& (255 : Int32)).toUInt32.toUInt16.toUInt32.toInt32)) w53 ((.val J2)) b54 zaa zab ((.ref b8_x0)) (J0) b19_x1 ko0_19 v0_19 v1_19 ((0 : Int32)) ((0 : Int32)) ln_19 b34_x1 ko0_34 v0_34 v1_34 ((0 : Int32)) ((0 : Int32)) ln_34 T171.heap n0 Z171 (X171.more (by decide : 27 ≤ _) (by decide : 55 ≤ _)) rfl N171 hS77 hk171 hZ77 hown77 H176 G192 hcs zaf G193 G172 G175 G173 G174 G183 G185 G184 G196 hl19 G186 G188 G187 G197 hl34 (show ¬ ((255 : Int32) < ((((p4.toUInt32 >>> ((8 : Int32) &&& 31).toUInt32).toInt32) &&& (255 : Int32)).toUInt32.toUInt16.toUInt32.toInt32)) from own_c8 _) gg54
      · have G200 : Arv Z T138.heap b1_x1 ko0_1 .byte (1 : Int32) [(.int v0_1), (.int v1_1), J0, J0] J0 := hk168 ▸ G161
        show own_FinW p e below s _ _ _ (T138.setTop (mkF m 96 #[iv p0, iv p1, iv p2, iv p3, iv p4, iv p5, rv b1_x0, rv b8_x0, rv b19_x0, rv b34_x0, iv ((p4 &&& (255 : Int32)).toUInt32.toUInt16.toUInt32.toInt32), iv ((((p4.toUInt32 >>> ((8 : Int32) &&& 31).toUInt32).toInt32) &&& (255 : Int32)).toUInt32.toUInt16.toUInt32.toInt32), iv w53, iv (2 : Int32), rv b54, .unset, .unset, .unset, .unset] []))
        rcases id hl8 with hk201 | hk202 | hk203
        · have G204 : Arv Z T138.heap b8_x1 ko0_8 .byte (0 : Int32) [(.int v0_8), (.int v1_8), J0, J0] J0 := hk201 ▸ G162
          show own_FinW p e below s _ _ _ (T138.setTop (mkF m 96 #[iv p0, iv p1, iv p2, iv p3, iv p4, iv p5, rv b1_x0, rv b8_x0, rv b19_x0, rv b34_x0, iv ((p4 &&& (255 : Int32)).toUInt32.toUInt16.toUInt32.toInt32), iv ((((p4.toUInt32 >>> ((8 : Int32) &&& 31).toUInt32).toInt32) &&& (255 : Int32)).toUInt32.toUInt16.toUInt32.toInt32), iv w53, iv (2 : Int32), rv b54, .unset, .unset, .unset, .unset] []))
          refine xaloadW X138 hx (hb hby at_96) rfl rfl rfl ?_
          refine xaloadW X138 hx (hb hby at_98) rfl rfl rfl ?_
          refine oVW X138 hx hZ77 hown77 hml (w_ hw 40 rfl) (w_ hw 41 rfl) (w_ hw 43 rfl) (w_ hw 42 rfl) (own_rm56 hw hs b54 b8_x0 b1_x0 b1_x1 ko0_1 ([(.int v0_1), (.int v1_1), J0, J0]) ((1 : Int32)) .null b8_x1 ko0_8 v0_8 v1_8 ((0 : Int32)) ((0 : Int32)) T138.heap n0 Z138 G139 G140 G142 ⟨G144, G146, G145, G200⟩ G141 ⟨G147, G149, G148, G204⟩ (show ¬ ((1 : Int32) = (0 : Int32)) from (by first | decide | assumption | exact Nat.le_of_ble_eq_true rfl))) (w_ hw 44 rfl) (w_ hw 32 rfl) rfl G139 [(.ref b8_x0)] [] 0 (lenOf own_pd16 rfl) rfl (hb hby at_100) rfl rfl rfl fun T205 L205 v205 X205 hQ205 => ?_
          obtain ⟨rfl, N205q, e205⟩ := hQ205
          have N205 := Fr.app N138 N205q
          refine xiloadW X205 hx (hb hby at_103) rfl rfl ?_
          refine xiconstW X205 hx (hb hby at_105) rfl ?_
          refine xicmpYesW X205 hx 106 116 rfl (hb hby at_106) rfl (feq (by decide : ¬ ((2 : Int32) = (3 : Int32)))).2 rfl ?_
          exact own_rm83 l Z a0 hw hs hx hby hlk hml Bd.returns ((.val (.int p0))) ((.val (.int p1))) ((.val (.int p2))) ((.val (.int p3))) ((.val (.int p4))) ((.val (.int p5))) ((.val (.ref b1_x0))) ((.val (.ref b8_x0))) b19_x0 b34_x0 ((.val (.int ((p4 &&& (255 : Int32)).toUInt32.toUInt16.toUInt32.toInt32)))) (((((p4.toUInt32 >>> ((8 : Int32) &&& 31).toUInt32).toInt32) &&& (255 : Int32)).toUInt32.toUInt16.toUInt32.toInt32)) w53 ((.val J2)) b54 zaa zab ((.ref b1_x0)) (J0) b19_x1 ko0_19 v0_19 v1_19 ((0 : Int32)) ((0 : Int32)) ln_19 b34_x1 ko0_34 v0_34 v1_34 ((0 : Int32)) ((0 : Int32)) ln_34 T138.heap n0 Z138 (X205.more (by decide : 27 ≤ _) (by decide : 55 ≤ _)) e205 N205 hS77 hk138 hZ77 hown77 H143 G159 hcs zaf G160 G139 G142 G140 G141 G150 G152 G151 G163 hl19 G153 G155 G154 G164 hl34 (show ¬ ((255 : Int32) < ((((p4.toUInt32 >>> ((8 : Int32) &&& 31).toUInt32).toInt32) &&& (255 : Int32)).toUInt32.toUInt16.toUInt32.toInt32)) from own_c8 _) gg54
        · have G206 : Arv Z T138.heap b8_x1 ko0_8 .byte (1 : Int32) [(.int v0_8), (.int v1_8), J0, J0] J0 := hk202 ▸ G162
          show own_FinW p e below s _ _ _ (T138.setTop (mkF m 96 #[iv p0, iv p1, iv p2, iv p3, iv p4, iv p5, rv b1_x0, rv b8_x0, rv b19_x0, rv b34_x0, iv ((p4 &&& (255 : Int32)).toUInt32.toUInt16.toUInt32.toInt32), iv ((((p4.toUInt32 >>> ((8 : Int32) &&& 31).toUInt32).toInt32) &&& (255 : Int32)).toUInt32.toUInt16.toUInt32.toInt32), iv w53, iv (2 : Int32), rv b54, .unset, .unset, .unset, .unset] []))
          refine xaloadW X138 hx (hb hby at_96) rfl rfl rfl ?_
          refine xaloadW X138 hx (hb hby at_98) rfl rfl rfl ?_
          refine oVW X138 hx hZ77 hown77 hml (w_ hw 40 rfl) (w_ hw 41 rfl) (w_ hw 43 rfl) (w_ hw 42 rfl) (own_rm57 hw hs b54 b8_x0 b1_x0 b1_x1 ko0_1 ([(.int v0_1), (.int v1_1), J0, J0]) ((1 : Int32)) b8_x1 ko0_8 ([(.int v0_8), (.int v1_8), J0, J0]) ((1 : Int32)) zaa T138.heap n0 Z138 G139 G140 G142 ⟨G144, G146, G145, G200⟩ G141 ⟨G147, G149, G148, G206⟩ G159 (show ¬ ((1 : Int32) = (0 : Int32)) from (by first | decide | assumption | exact Nat.le_of_ble_eq_true rfl)) (show ¬ ((1 : Int32) = (0 : Int32)) from (by first | decide | assumption | exact Nat.le_of_ble_eq_true rfl)) hcs gg54 (show ¬ ((0 : Int32) < (((0 : Int32) + (1 : Int32)) - (16 : Int32))) from (by first | decide | assumption | exact Nat.le_of_ble_eq_true rfl)) (show ¬ ((1 : Int32) < (0 : Int32)) from (by first | decide | assumption | exact Nat.le_of_ble_eq_true rfl)) (show (0 : Int32).toNatClampNeg + (1 : Int32).toNatClampNeg ≤ (16 : Int32).toNatClampNeg from (by first | decide | assumption | exact Nat.le_of_ble_eq_true rfl)) (show (0 : Int32).toNatClampNeg + (1 : Int32).toNatClampNeg ≤ [J0, J0, J0, J0].length from (by first | decide | assumption | exact Nat.le_of_ble_eq_true rfl)) (show ¬ ((0 : Int32) < ((((0 : Int32) + (1 : Int32)) + (1 : Int32)) - (16 : Int32))) from (by first | decide | assumption | exact Nat.le_of_ble_eq_true rfl)) (show ¬ (((0 : Int32) + (1 : Int32)) < (0 : Int32)) from (by first | decide | assumption | exact Nat.le_of_ble_eq_true rfl)) (show ¬ ((1 : Int32) < (0 : Int32)) from (by first | decide | assumption | exact Nat.le_of_ble_eq_true rfl)) (show ((0 : Int32) + (1 : Int32)).toNatClampNeg + (1 : Int32).toNatClampNeg ≤ (16 : Int32).toNatClampNeg from (by first | decide | assumption | exact Nat.le_of_ble_eq_true rfl)) (show ((0 : Int32) + (1 : Int32)).toNatClampNeg + (1 : Int32).toNatClampNeg ≤ (own_cat [J0, J0, J0, J0] [(.int v0_1), (.int v1_1), J0, J0] (0 : Int32) (1 : Int32)).length from (by first | decide | assumption | exact Nat.le_of_ble_eq_true rfl))) (w_ hw 44 rfl) (w_ hw 32 rfl) rfl G139 [(.ref b8_x0)] [] 0 (lenOf own_pd16 rfl) rfl (hb hby at_100) rfl rfl rfl fun T207 L207 v207 X207 hQ207 => ?_
          obtain ⟨N207q, K207q, b207_o0, gg207_o0, sz207_o0, b207_o1, gg207_o1, sz207_o1, ko0_207, uo0_207, rfl, G208, G209, G210, G211, G212, G213, G214, G215, G216, G217⟩ := hQ207
          have N207 := Fr.app N138 N207q
          have ne207_o1_b1_x1 : b1_x1 ≠ b207_o1 := Nat.ne_of_lt (Nat.lt_of_lt_of_le G200.lt sz207_o1)
          have ne207_o1_b8_x1 : b8_x1 ≠ b207_o1 := Nat.ne_of_lt (Nat.lt_of_lt_of_le G206.lt sz207_o1)
          have ne207_o1_b19_x1 : b19_x1 ≠ b207_o1 := Nat.ne_of_lt (Nat.lt_of_lt_of_le G163.lt sz207_o1)
          have ne207_o1_b34_x1 : b34_x1 ≠ b207_o1 := Nat.ne_of_lt (Nat.lt_of_lt_of_le G164.lt sz207_o1)
          have ne207_o1_b77_x1 : b77_x1 ≠ b207_o1 := Nat.ne_of_lt (Nat.lt_of_lt_of_le G166.lt sz207_o1)
          have K207 := K138.trans K207q (own_aB sz54 own_a0)
          have Z207 := Nat.le_trans Z138 K207q.1
          have sy207_o0 : h0.size ≤ b207_o0 := Nat.le_trans K138.1 sz207_o0
          have sy207_o1 : h0.size ≤ b207_o1 := Nat.le_trans K138.1 sz207_o1
          have hk207 := Nat.le_trans hk138 K207q.1
          have H218 := H143.trans (CHr.keep K207q (sfS (Safe.exa (EL := consts_1) hZ77.alike G139 (by decide) (by decide)) sf0) H143.1)
          obtain ⟨G219, G220, G221⟩ := own_k2 K207q (ninS (Exa.ne G144 G139 (by decide)) nin0) G144 G145 G146
          obtain ⟨G222, G223, G224⟩ := own_k2 K207q (ninS (Exa.ne G147 G139 (by decide)) nin0) G147 G148 G149
          obtain ⟨G225, G226, G227⟩ := own_k2 K207q (ninS (Exa.ne G150 G139 (by decide)) nin0) G150 G151 G152
          obtain ⟨G228, G229, G230⟩ := own_k2 K207q (ninS (Exa.ne G153 G139 (by decide)) nin0) G153 G154 G155
          obtain ⟨G231, G232, G233⟩ := own_k2 K207q (ninS (Exa.ne G156 G139 (by decide)) nin0) G156 G157 G158
          have G234 := (own_sta_keep G159 K207q (own_nS (own_nst_exa G139) own_n0))
          have G235 := (own_sta_keep G160 K207q (own_nS (own_nst_exa G139) own_n0))
          have G236 := (G200.keep K207q (ninS (Ne.symm (Exa.neArv G139 G200 (w_ hw 31 rfl))) nin0))
          have G237 := (G206.keep K207q (ninS (Ne.symm (Exa.neArv G139 G206 (w_ hw 31 rfl))) nin0))
          have G238 := (G163.keep K207q (ninS (Ne.symm (Exa.neArv G139 G163 (w_ hw 31 rfl))) nin0))
          have G239 := (G164.keep K207q (ninS (Ne.symm (Exa.neArv G139 G164 (w_ hw 31 rfl))) nin0))
          have G240 := (G139.keep K207q)
          have G241 := (G166.keep K207q (ninS (Ne.symm (Exa.neArv G139 G166 (w_ hw 31 rfl))) nin0))
          have G242 : Fld Z T207.heap b207_o0 cN2 "count" "I" J2 := G216
          have G243 : Arv Z T207.heap b207_o1 ko0_207 .byte (16 : Int32) [(.int v0_1), (.int v0_8), J0, J0] J0 := G217
          refine xiloadW X207 hx (hb hby at_103) rfl rfl ?_
          refine xiconstW X207 hx (hb hby at_105) rfl ?_
          refine xicmpYesW X207 hx 106 116 rfl (hb hby at_106) rfl (feq (by decide : ¬ ((2 : Int32) = (3 : Int32)))).2 rfl ?_
          exact own_rm84 l Z a0 hw hs hx hby hlk hml Bd.returns ((.val (.int p0))) ((.val (.int p1))) ((.val (.int p2))) ((.val (.int p3))) ((.val (.int p4))) ((.val (.int p5))) ((.val (.ref b1_x0))) ((.val (.ref b8_x0))) b19_x0 b34_x0 ((.val (.int ((p4 &&& (255 : Int32)).toUInt32.toUInt16.toUInt32.toInt32)))) (((((p4.toUInt32 >>> ((8 : Int32) &&& 31).toUInt32).toInt32) &&& (255 : Int32)).toUInt32.toUInt16.toUInt32.toInt32)) w53 ((.val J2)) b54 zaa zab ((.ref b1_x0)) (J1) b207_o0 b207_o1 ((2 : Int32)) uo0_207 ko0_207 v0_1 v0_8 ((0 : Int32)) ((0 : Int32)) b19_x1 ko0_19 v0_19 v1_19 ((0 : Int32)) ((0 : Int32)) ln_19 b34_x1 ko0_34 v0_34 v1_34 ((0 : Int32)) ((0 : Int32)) ln_34 T207.heap n0 Z207 (X207.more (by decide : 29 ≤ _) (by decide : 75 ≤ _)) rfl N207 hS77 hk207 hZ77 hown77 H218 G234 hcs zaf G235 G208 G209 G211 G210 G212 G213 G214 G242 G215 G243 (show ¬ ((2 : Int32) < (0 : Int32)) from (by first | decide | assumption | exact Nat.le_of_ble_eq_true rfl)) G225 G227 G226 G238 hl19 G228 G230 G229 G239 hl34 (show ¬ ((255 : Int32) < ((((p4.toUInt32 >>> ((8 : Int32) &&& 31).toUInt32).toInt32) &&& (255 : Int32)).toUInt32.toUInt16.toUInt32.toInt32)) from own_c8 _) gg54 gg207_o0 gg207_o1 ne207_o1_b34_x1
        · have G244 : Arv Z T138.heap b8_x1 ko0_8 .byte (2 : Int32) [(.int v0_8), (.int v1_8), J0, J0] J0 := hk203 ▸ G162
          show own_FinW p e below s _ _ _ (T138.setTop (mkF m 96 #[iv p0, iv p1, iv p2, iv p3, iv p4, iv p5, rv b1_x0, rv b8_x0, rv b19_x0, rv b34_x0, iv ((p4 &&& (255 : Int32)).toUInt32.toUInt16.toUInt32.toInt32), iv ((((p4.toUInt32 >>> ((8 : Int32) &&& 31).toUInt32).toInt32) &&& (255 : Int32)).toUInt32.toUInt16.toUInt32.toInt32), iv w53, iv (2 : Int32), rv b54, .unset, .unset, .unset, .unset] []))
          refine xaloadW X138 hx (hb hby at_96) rfl rfl rfl ?_
          refine xaloadW X138 hx (hb hby at_98) rfl rfl rfl ?_
          refine oVW X138 hx hZ77 hown77 hml (w_ hw 40 rfl) (w_ hw 41 rfl) (w_ hw 43 rfl) (w_ hw 42 rfl) (own_rm57 hw hs b54 b8_x0 b1_x0 b1_x1 ko0_1 ([(.int v0_1), (.int v1_1), J0, J0]) ((1 : Int32)) b8_x1 ko0_8 ([(.int v0_8), (.int v1_8), J0, J0]) ((2 : Int32)) zaa T138.heap n0 Z138 G139 G140 G142 ⟨G144, G146, G145, G200⟩ G141 ⟨G147, G149, G148, G244⟩ G159 (show ¬ ((1 : Int32) = (0 : Int32)) from (by first | decide | assumption | exact Nat.le_of_ble_eq_true rfl)) (show ¬ ((2 : Int32) = (0 : Int32)) from (by first | decide | assumption | exact Nat.le_of_ble_eq_true rfl)) hcs gg54 (show ¬ ((0 : Int32) < (((0 : Int32) + (1 : Int32)) - (16 : Int32))) from (by first | decide | assumption | exact Nat.le_of_ble_eq_true rfl)) (show ¬ ((1 : Int32) < (0 : Int32)) from (by first | decide | assumption | exact Nat.le_of_ble_eq_true rfl)) (show (0 : Int32).toNatClampNeg + (1 : Int32).toNatClampNeg ≤ (16 : Int32).toNatClampNeg from (by first | decide | assumption | exact Nat.le_of_ble_eq_true rfl)) (show (0 : Int32).toNatClampNeg + (1 : Int32).toNatClampNeg ≤ [J0, J0, J0, J0].length from (by first | decide | assumption | exact Nat.le_of_ble_eq_true rfl)) (show ¬ ((0 : Int32) < ((((0 : Int32) + (1 : Int32)) + (2 : Int32)) - (16 : Int32))) from (by first | decide | assumption | exact Nat.le_of_ble_eq_true rfl)) (show ¬ (((0 : Int32) + (1 : Int32)) < (0 : Int32)) from (by first | decide | assumption | exact Nat.le_of_ble_eq_true rfl)) (show ¬ ((2 : Int32) < (0 : Int32)) from (by first | decide | assumption | exact Nat.le_of_ble_eq_true rfl)) (show ((0 : Int32) + (1 : Int32)).toNatClampNeg + (2 : Int32).toNatClampNeg ≤ (16 : Int32).toNatClampNeg from (by first | decide | assumption | exact Nat.le_of_ble_eq_true rfl)) (show ((0 : Int32) + (1 : Int32)).toNatClampNeg + (2 : Int32).toNatClampNeg ≤ (own_cat [J0, J0, J0, J0] [(.int v0_1), (.int v1_1), J0, J0] (0 : Int32) (1 : Int32)).length from (by first | decide | assumption | exact Nat.le_of_ble_eq_true rfl))) (w_ hw 44 rfl) (w_ hw 32 rfl) rfl G139 [(.ref b8_x0)] [] 0 (lenOf own_pd16 rfl) rfl (hb hby at_100) rfl rfl rfl fun T245 L245 v245 X245 hQ245 => ?_
          obtain ⟨N245q, K245q, b245_o0, gg245_o0, sz245_o0, b245_o1, gg245_o1, sz245_o1, ko0_245, uo0_245, rfl, G246, G247, G248, G249, G250, G251, G252, G253, G254, G255⟩ := hQ245
          have N245 := Fr.app N138 N245q
          have ne245_o1_b1_x1 : b1_x1 ≠ b245_o1 := Nat.ne_of_lt (Nat.lt_of_lt_of_le G200.lt sz245_o1)
          have ne245_o1_b8_x1 : b8_x1 ≠ b245_o1 := Nat.ne_of_lt (Nat.lt_of_lt_of_le G244.lt sz245_o1)
          have ne245_o1_b19_x1 : b19_x1 ≠ b245_o1 := Nat.ne_of_lt (Nat.lt_of_lt_of_le G163.lt sz245_o1)
          have ne245_o1_b34_x1 : b34_x1 ≠ b245_o1 := Nat.ne_of_lt (Nat.lt_of_lt_of_le G164.lt sz245_o1)
          have ne245_o1_b77_x1 : b77_x1 ≠ b245_o1 := Nat.ne_of_lt (Nat.lt_of_lt_of_le G166.lt sz245_o1)
          have K245 := K138.trans K245q (own_aB sz54 own_a0)
          have Z245 := Nat.le_trans Z138 K245q.1
          have sy245_o0 : h0.size ≤ b245_o0 := Nat.le_trans K138.1 sz245_o0
          have sy245_o1 : h0.size ≤ b245_o1 := Nat.le_trans K138.1 sz245_o1
          have hk245 := Nat.le_trans hk138 K245q.1
          have H256 := H143.trans (CHr.keep K245q (sfS (Safe.exa (EL := consts_1) hZ77.alike G139 (by decide) (by decide)) sf0) H143.1)
          obtain ⟨G257, G258, G259⟩ := own_k2 K245q (ninS (Exa.ne G144 G139 (by decide)) nin0) G144 G145 G146
          obtain ⟨G260, G261, G262⟩ := own_k2 K245q (ninS (Exa.ne G147 G139 (by decide)) nin0) G147 G148 G149
          obtain ⟨G263, G264, G265⟩ := own_k2 K245q (ninS (Exa.ne G150 G139 (by decide)) nin0) G150 G151 G152
          obtain ⟨G266, G267, G268⟩ := own_k2 K245q (ninS (Exa.ne G153 G139 (by decide)) nin0) G153 G154 G155
          obtain ⟨G269, G270, G271⟩ := own_k2 K245q (ninS (Exa.ne G156 G139 (by decide)) nin0) G156 G157 G158
          have G272 := (own_sta_keep G159 K245q (own_nS (own_nst_exa G139) own_n0))
          have G273 := (own_sta_keep G160 K245q (own_nS (own_nst_exa G139) own_n0))
          have G274 := (G200.keep K245q (ninS (Ne.symm (Exa.neArv G139 G200 (w_ hw 31 rfl))) nin0))
          have G275 := (G244.keep K245q (ninS (Ne.symm (Exa.neArv G139 G244 (w_ hw 31 rfl))) nin0))
          have G276 := (G163.keep K245q (ninS (Ne.symm (Exa.neArv G139 G163 (w_ hw 31 rfl))) nin0))
          have G277 := (G164.keep K245q (ninS (Ne.symm (Exa.neArv G139 G164 (w_ hw 31 rfl))) nin0))
          have G278 := (G139.keep K245q)
          have G279 := (G166.keep K245q (ninS (Ne.symm (Exa.neArv G139 G166 (w_ hw 31 rfl))) nin0))
          have G280 : Fld Z T245.heap b245_o0 cN2 "count" "I" J3 := G254
          have G281 : Arv Z T245.heap b245_o1 ko0_245 .byte (16 : Int32) [(.int v0_1), (.int v0_8), (.int v1_8), J0] J0 := G255
          refine xiloadW X245 hx (hb hby at_103) rfl rfl ?_
          refine xiconstW X245 hx (hb hby at_105) rfl ?_
          refine xicmpYesW X245 hx 106 116 rfl (hb hby at_106) rfl (feq (by decide : ¬ ((2 : Int32) = (3 : Int32)))).2 rfl ?_
          exact own_rm84 l Z a0 hw hs hx hby hlk hml Bd.returns ((.val (.int p0))) ((.val (.int p1))) ((.val (.int p2))) ((.val (.int p3))) ((.val (.int p4))) ((.val (.int p5))) ((.val (.ref b1_x0))) ((.val (.ref b8_x0))) b19_x0 b34_x0 ((.val (.int ((p4 &&& (255 : Int32)).toUInt32.toUInt16.toUInt32.toInt32)))) (((((p4.toUInt32 >>> ((8 : Int32) &&& 31).toUInt32).toInt32) &&& (255 : Int32)).toUInt32.toUInt16.toUInt32.toInt32)) w53 ((.val J2)) b54 zaa zab ((.ref b1_x0)) (J1) b245_o0 b245_o1 ((3 : Int32)) uo0_245 ko0_245 v0_1 v0_8 v1_8 ((0 : Int32)) b19_x1 ko0_19 v0_19 v1_19 ((0 : Int32)) ((0 : Int32)) ln_19 b34_x1 ko0_34 v0_34 v1_34 ((0 : Int32)) ((0 : Int32)) ln_34 T245.heap n0 Z245 (X245.more (by decide : 29 ≤ _) (by decide : 75 ≤ _)) rfl N245 hS77 hk245 hZ77 hown77 H256 G272 hcs zaf G273 G246 G247 G249 G248 G250 G251 G252 G280 G253 G281 (show ¬ ((3 : Int32) < (0 : Int32)) from (by first | decide | assumption | exact Nat.le_of_ble_eq_true rfl)) G263 G265 G264 G276 hl19 G266 G268 G267 G277 hl34 (show ¬ ((255 : Int32) < ((((p4.toUInt32 >>> ((8 : Int32) &&& 31).toUInt32).toInt32) &&& (255 : Int32)).toUInt32.toUInt16.toUInt32.toInt32)) from own_c8 _) gg54 gg245_o0 gg245_o1 ne245_o1_b34_x1
      · have G282 : Arv Z T138.heap b1_x1 ko0_1 .byte (2 : Int32) [(.int v0_1), (.int v1_1), J0, J0] J0 := hk169 ▸ G161
        show own_FinW p e below s _ _ _ (T138.setTop (mkF m 96 #[iv p0, iv p1, iv p2, iv p3, iv p4, iv p5, rv b1_x0, rv b8_x0, rv b19_x0, rv b34_x0, iv ((p4 &&& (255 : Int32)).toUInt32.toUInt16.toUInt32.toInt32), iv ((((p4.toUInt32 >>> ((8 : Int32) &&& 31).toUInt32).toInt32) &&& (255 : Int32)).toUInt32.toUInt16.toUInt32.toInt32), iv w53, iv (2 : Int32), rv b54, .unset, .unset, .unset, .unset] []))
        rcases id hl8 with hk283 | hk284 | hk285
        · have G286 : Arv Z T138.heap b8_x1 ko0_8 .byte (0 : Int32) [(.int v0_8), (.int v1_8), J0, J0] J0 := hk283 ▸ G162
          show own_FinW p e below s _ _ _ (T138.setTop (mkF m 96 #[iv p0, iv p1, iv p2, iv p3, iv p4, iv p5, rv b1_x0, rv b8_x0, rv b19_x0, rv b34_x0, iv ((p4 &&& (255 : Int32)).toUInt32.toUInt16.toUInt32.toInt32), iv ((((p4.toUInt32 >>> ((8 : Int32) &&& 31).toUInt32).toInt32) &&& (255 : Int32)).toUInt32.toUInt16.toUInt32.toInt32), iv w53, iv (2 : Int32), rv b54, .unset, .unset, .unset, .unset] []))
          refine xaloadW X138 hx (hb hby at_96) rfl rfl rfl ?_
          refine xaloadW X138 hx (hb hby at_98) rfl rfl rfl ?_
          refine oVW X138 hx hZ77 hown77 hml (w_ hw 40 rfl) (w_ hw 41 rfl) (w_ hw 43 rfl) (w_ hw 42 rfl) (own_rm56 hw hs b54 b8_x0 b1_x0 b1_x1 ko0_1 ([(.int v0_1), (.int v1_1), J0, J0]) ((2 : Int32)) .null b8_x1 ko0_8 v0_8 v1_8 ((0 : Int32)) ((0 : Int32)) T138.heap n0 Z138 G139 G140 G142 ⟨G144, G146, G145, G282⟩ G141 ⟨G147, G149, G148, G286⟩ (show ¬ ((2 : Int32) = (0 : Int32)) from (by first | decide | assumption | exact Nat.le_of_ble_eq_true rfl))) (w_ hw 44 rfl) (w_ hw 32 rfl) rfl G139 [(.ref b8_x0)] [] 0 (lenOf own_pd16 rfl) rfl (hb hby at_100) rfl rfl rfl fun T287 L287 v287 X287 hQ287 => ?_
          obtain ⟨rfl, N287q, e287⟩ := hQ287
          have N287 := Fr.app N138 N287q
          refine xiloadW X287 hx (hb hby at_103) rfl rfl ?_
          refine xiconstW X287 hx (hb hby at_105) rfl ?_
          refine xicmpYesW X287 hx 106 116 rfl (hb hby at_106) rfl (feq (by decide : ¬ ((2 : Int32) = (3 : Int32)))).2 rfl ?_
          exact own_rm83 l Z a0 hw hs hx hby hlk hml Bd.returns ((.val (.int p0))) ((.val (.int p1))) ((.val (.int p2))) ((.val (.int p3))) ((.val (.int p4))) ((.val (.int p5))) ((.val (.ref b1_x0))) ((.val (.ref b8_x0))) b19_x0 b34_x0 ((.val (.int ((p4 &&& (255 : Int32)).toUInt32.toUInt16.toUInt32.toInt32)))) (((((p4.toUInt32 >>> ((8 : Int32) &&& 31).toUInt32).toInt32) &&& (255 : Int32)).toUInt32.toUInt16.toUInt32.toInt32)) w53 ((.val J2)) b54 zaa zab ((.ref b1_x0)) (J0) b19_x1 ko0_19 v0_19 v1_19 ((0 : Int32)) ((0 : Int32)) ln_19 b34_x1 ko0_34 v0_34 v1_34 ((0 : Int32)) ((0 : Int32)) ln_34 T138.heap n0 Z138 (X287.more (by decide : 27 ≤ _) (by decide : 55 ≤ _)) e287 N287 hS77 hk138 hZ77 hown77 H143 G159 hcs zaf G160 G139 G142 G140 G141 G150 G152 G151 G163 hl19 G153 G155 G154 G164 hl34 (show ¬ ((255 : Int32) < ((((p4.toUInt32 >>> ((8 : Int32) &&& 31).toUInt32).toInt32) &&& (255 : Int32)).toUInt32.toUInt16.toUInt32.toInt32)) from own_c8 _) gg54
        · have G288 : Arv Z T138.heap b8_x1 ko0_8 .byte (1 : Int32) [(.int v0_8), (.int v1_8), J0, J0] J0 := hk284 ▸ G162
          show own_FinW p e below s _ _ _ (T138.setTop (mkF m 96 #[iv p0, iv p1, iv p2, iv p3, iv p4, iv p5, rv b1_x0, rv b8_x0, rv b19_x0, rv b34_x0, iv ((p4 &&& (255 : Int32)).toUInt32.toUInt16.toUInt32.toInt32), iv ((((p4.toUInt32 >>> ((8 : Int32) &&& 31).toUInt32).toInt32) &&& (255 : Int32)).toUInt32.toUInt16.toUInt32.toInt32), iv w53, iv (2 : Int32), rv b54, .unset, .unset, .unset, .unset] []))
          refine xaloadW X138 hx (hb hby at_96) rfl rfl rfl ?_
          refine xaloadW X138 hx (hb hby at_98) rfl rfl rfl ?_
          refine oVW X138 hx hZ77 hown77 hml (w_ hw 40 rfl) (w_ hw 41 rfl) (w_ hw 43 rfl) (w_ hw 42 rfl) (own_rm57 hw hs b54 b8_x0 b1_x0 b1_x1 ko0_1 ([(.int v0_1), (.int v1_1), J0, J0]) ((2 : Int32)) b8_x1 ko0_8 ([(.int v0_8), (.int v1_8), J0, J0]) ((1 : Int32)) zaa T138.heap n0 Z138 G139 G140 G142 ⟨G144, G146, G145, G282⟩ G141 ⟨G147, G149, G148, G288⟩ G159 (show ¬ ((2 : Int32) = (0 : Int32)) from (by first | decide | assumption | exact Nat.le_of_ble_eq_true rfl)) (show ¬ ((1 : Int32) = (0 : Int32)) from (by first | decide | assumption | exact Nat.le_of_ble_eq_true rfl)) hcs gg54 (show ¬ ((0 : Int32) < (((0 : Int32) + (2 : Int32)) - (16 : Int32))) from (by first | decide | assumption | exact Nat.le_of_ble_eq_true rfl)) (show ¬ ((2 : Int32) < (0 : Int32)) from (by first | decide | assumption | exact Nat.le_of_ble_eq_true rfl)) (show (0 : Int32).toNatClampNeg + (2 : Int32).toNatClampNeg ≤ (16 : Int32).toNatClampNeg from (by first | decide | assumption | exact Nat.le_of_ble_eq_true rfl)) (show (0 : Int32).toNatClampNeg + (2 : Int32).toNatClampNeg ≤ [J0, J0, J0, J0].length from (by first | decide | assumption | exact Nat.le_of_ble_eq_true rfl)) (show ¬ ((0 : Int32) < ((((0 : Int32) + (2 : Int32)) + (1 : Int32)) - (16 : Int32))) from (by first | decide | assumption | exact Nat.le_of_ble_eq_true rfl)) (show ¬ (((0 : Int32) + (2 : Int32)) < (0 : Int32)) from (by first | decide | assumption | exact Nat.le_of_ble_eq_true rfl)) (show ¬ ((1 : Int32) < (0 : Int32)) from (by first | decide | assumption | exact Nat.le_of_ble_eq_true rfl)) (show ((0 : Int32) + (2 : Int32)).toNatClampNeg + (1 : Int32).toNatClampNeg ≤ (16 : Int32).toNatClampNeg from (by first | decide | assumption | exact Nat.le_of_ble_eq_true rfl)) (show ((0 : Int32) + (2 : Int32)).toNatClampNeg + (1 : Int32).toNatClampNeg ≤ (own_cat [J0, J0, J0, J0] [(.int v0_1), (.int v1_1), J0, J0] (0 : Int32) (2 : Int32)).length from (by first | decide | assumption | exact Nat.le_of_ble_eq_true rfl))) (w_ hw 44 rfl) (w_ hw 32 rfl) rfl G139 [(.ref b8_x0)] [] 0 (lenOf own_pd16 rfl) rfl (hb hby at_100) rfl rfl rfl fun T289 L289 v289 X289 hQ289 => ?_
          obtain ⟨N289q, K289q, b289_o0, gg289_o0, sz289_o0, b289_o1, gg289_o1, sz289_o1, ko0_289, uo0_289, rfl, G290, G291, G292, G293, G294, G295, G296, G297, G298, G299⟩ := hQ289
          have N289 := Fr.app N138 N289q
          have ne289_o1_b1_x1 : b1_x1 ≠ b289_o1 := Nat.ne_of_lt (Nat.lt_of_lt_of_le G282.lt sz289_o1)
          have ne289_o1_b8_x1 : b8_x1 ≠ b289_o1 := Nat.ne_of_lt (Nat.lt_of_lt_of_le G288.lt sz289_o1)
          have ne289_o1_b19_x1 : b19_x1 ≠ b289_o1 := Nat.ne_of_lt (Nat.lt_of_lt_of_le G163.lt sz289_o1)
          have ne289_o1_b34_x1 : b34_x1 ≠ b289_o1 := Nat.ne_of_lt (Nat.lt_of_lt_of_le G164.lt sz289_o1)
          have ne289_o1_b77_x1 : b77_x1 ≠ b289_o1 := Nat.ne_of_lt (Nat.lt_of_lt_of_le G166.lt sz289_o1)
          have K289 := K138.trans K289q (own_aB sz54 own_a0)
          have Z289 := Nat.le_trans Z138 K289q.1
          have sy289_o0 : h0.size ≤ b289_o0 := Nat.le_trans K138.1 sz289_o0
          have sy289_o1 : h0.size ≤ b289_o1 := Nat.le_trans K138.1 sz289_o1
          have hk289 := Nat.le_trans hk138 K289q.1
          have H300 := H143.trans (CHr.keep K289q (sfS (Safe.exa (EL := consts_1) hZ77.alike G139 (by decide) (by decide)) sf0) H143.1)
          obtain ⟨G301, G302, G303⟩ := own_k2 K289q (ninS (Exa.ne G144 G139 (by decide)) nin0) G144 G145 G146
          obtain ⟨G304, G305, G306⟩ := own_k2 K289q (ninS (Exa.ne G147 G139 (by decide)) nin0) G147 G148 G149
          obtain ⟨G307, G308, G309⟩ := own_k2 K289q (ninS (Exa.ne G150 G139 (by decide)) nin0) G150 G151 G152
          obtain ⟨G310, G311, G312⟩ := own_k2 K289q (ninS (Exa.ne G153 G139 (by decide)) nin0) G153 G154 G155
          obtain ⟨G313, G314, G315⟩ := own_k2 K289q (ninS (Exa.ne G156 G139 (by decide)) nin0) G156 G157 G158
          have G316 := (own_sta_keep G159 K289q (own_nS (own_nst_exa G139) own_n0))
          have G317 := (own_sta_keep G160 K289q (own_nS (own_nst_exa G139) own_n0))
          have G318 := (G282.keep K289q (ninS (Ne.symm (Exa.neArv G139 G282 (w_ hw 31 rfl))) nin0))
          have G319 := (G288.keep K289q (ninS (Ne.symm (Exa.neArv G139 G288 (w_ hw 31 rfl))) nin0))
          have G320 := (G163.keep K289q (ninS (Ne.symm (Exa.neArv G139 G163 (w_ hw 31 rfl))) nin0))
          have G321 := (G164.keep K289q (ninS (Ne.symm (Exa.neArv G139 G164 (w_ hw 31 rfl))) nin0))
          have G322 := (G139.keep K289q)
          have G323 := (G166.keep K289q (ninS (Ne.symm (Exa.neArv G139 G166 (w_ hw 31 rfl))) nin0))
          have G324 : Fld Z T289.heap b289_o0 cN2 "count" "I" J3 := G298
          have G325 : Arv Z T289.heap b289_o1 ko0_289 .byte (16 : Int32) [(.int v0_1), (.int v1_1), (.int v0_8), J0] J0 := G299
          refine xiloadW X289 hx (hb hby at_103) rfl rfl ?_
          refine xiconstW X289 hx (hb hby at_105) rfl ?_
          refine xicmpYesW X289 hx 106 116 rfl (hb hby at_106) rfl (feq (by decide : ¬ ((2 : Int32) = (3 : Int32)))).2 rfl ?_
          exact own_rm84 l Z a0 hw hs hx hby hlk hml Bd.returns ((.val (.int p0))) ((.val (.int p1))) ((.val (.int p2))) ((.val (.int p3))) ((.val (.int p4))) ((.val (.int p5))) ((.val (.ref b1_x0))) ((.val (.ref b8_x0))) b19_x0 b34_x0 ((.val (.int ((p4 &&& (255 : Int32)).toUInt32.toUInt16.toUInt32.toInt32)))) (((((p4.toUInt32 >>> ((8 : Int32) &&& 31).toUInt32).toInt32) &&& (255 : Int32)).toUInt32.toUInt16.toUInt32.toInt32)) w53 ((.val J2)) b54 zaa zab ((.ref b1_x0)) (J1) b289_o0 b289_o1 ((3 : Int32)) uo0_289 ko0_289 v0_1 v1_1 v0_8 ((0 : Int32)) b19_x1 ko0_19 v0_19 v1_19 ((0 : Int32)) ((0 : Int32)) ln_19 b34_x1 ko0_34 v0_34 v1_34 ((0 : Int32)) ((0 : Int32)) ln_34 T289.heap n0 Z289 (X289.more (by decide : 29 ≤ _) (by decide : 75 ≤ _)) rfl N289 hS77 hk289 hZ77 hown77 H300 G316 hcs zaf G317 G290 G291 G293 G292 G294 G295 G296 G324 G297 G325 (show ¬ ((3 : Int32) < (0 : Int32)) from (by first | decide | assumption | exact Nat.le_of_ble_eq_true rfl)) G307 G309 G308 G320 hl19 G310 G312 G311 G321 hl34 (show ¬ ((255 : Int32) < ((((p4.toUInt32 >>> ((8 : Int32) &&& 31).toUInt32).toInt32) &&& (255 : Int32)).toUInt32.toUInt16.toUInt32.toInt32)) from own_c8 _) gg54 gg289_o0 gg289_o1 ne289_o1_b34_x1
        · have G326 : Arv Z T138.heap b8_x1 ko0_8 .byte (2 : Int32) [(.int v0_8), (.int v1_8), J0, J0] J0 := hk285 ▸ G162
          show own_FinW p e below s _ _ _ (T138.setTop (mkF m 96 #[iv p0, iv p1, iv p2, iv p3, iv p4, iv p5, rv b1_x0, rv b8_x0, rv b19_x0, rv b34_x0, iv ((p4 &&& (255 : Int32)).toUInt32.toUInt16.toUInt32.toInt32), iv ((((p4.toUInt32 >>> ((8 : Int32) &&& 31).toUInt32).toInt32) &&& (255 : Int32)).toUInt32.toUInt16.toUInt32.toInt32), iv w53, iv (2 : Int32), rv b54, .unset, .unset, .unset, .unset] []))
          refine xaloadW X138 hx (hb hby at_96) rfl rfl rfl ?_
          refine xaloadW X138 hx (hb hby at_98) rfl rfl rfl ?_
          refine oVW X138 hx hZ77 hown77 hml (w_ hw 40 rfl) (w_ hw 41 rfl) (w_ hw 43 rfl) (w_ hw 42 rfl) (own_rm57 hw hs b54 b8_x0 b1_x0 b1_x1 ko0_1 ([(.int v0_1), (.int v1_1), J0, J0]) ((2 : Int32)) b8_x1 ko0_8 ([(.int v0_8), (.int v1_8), J0, J0]) ((2 : Int32)) zaa T138.heap n0 Z138 G139 G140 G142 ⟨G144, G146, G145, G282⟩ G141 ⟨G147, G149, G148, G326⟩ G159 (show ¬ ((2 : Int32) = (0 : Int32)) from (by first | decide | assumption | exact Nat.le_of_ble_eq_true rfl)) (show ¬ ((2 : Int32) = (0 : Int32)) from (by first | decide | assumption | exact Nat.le_of_ble_eq_true rfl)) hcs gg54 (show ¬ ((0 : Int32) < (((0 : Int32) + (2 : Int32)) - (16 : Int32))) from (by first | decide | assumption | exact Nat.le_of_ble_eq_true rfl)) (show ¬ ((2 : Int32) < (0 : Int32)) from (by first | decide | assumption | exact Nat.le_of_ble_eq_true rfl)) (show (0 : Int32).toNatClampNeg + (2 : Int32).toNatClampNeg ≤ (16 : Int32).toNatClampNeg from (by first | decide | assumption | exact Nat.le_of_ble_eq_true rfl)) (show (0 : Int32).toNatClampNeg + (2 : Int32).toNatClampNeg ≤ [J0, J0, J0, J0].length from (by first | decide | assumption | exact Nat.le_of_ble_eq_true rfl)) (show ¬ ((0 : Int32) < ((((0 : Int32) + (2 : Int32)) + (2 : Int32)) - (16 : Int32))) from (by first | decide | assumption | exact Nat.le_of_ble_eq_true rfl)) (show ¬ (((0 : Int32) + (2 : Int32)) < (0 : Int32)) from (by first | decide | assumption | exact Nat.le_of_ble_eq_true rfl)) (show ¬ ((2 : Int32) < (0 : Int32)) from (by first | decide | assumption | exact Nat.le_of_ble_eq_true rfl)) (show ((0 : Int32) + (2 : Int32)).toNatClampNeg + (2 : Int32).toNatClampNeg ≤ (16 : Int32).toNatClampNeg from (by first | decide | assumption | exact Nat.le_of_ble_eq_true rfl)) (show ((0 : Int32) + (2 : Int32)).toNatClampNeg + (2 : Int32).toNatClampNeg ≤ (own_cat [J0, J0, J0, J0] [(.int v0_1), (.int v1_1), J0, J0] (0 : Int32) (2 : Int32)).length from (by first | decide | assumption | exact Nat.le_of_ble_eq_true rfl))) (w_ hw 44 rfl) (w_ hw 32 rfl) rfl G139 [(.ref b8_x0)] [] 0 (lenOf own_pd16 rfl) rfl (hb hby at_100) rfl rfl rfl fun T327 L327 v327 X327 hQ327 => ?_
          obtain ⟨N327q, K327q, b327_o0, gg327_o0, sz327_o0, b327_o1, gg327_o1, sz327_o1, ko0_327, uo0_327, rfl, G328, G329, G330, G331, G332, G333, G334, G335, G336, G337⟩ := hQ327
          have N327 := Fr.app N138 N327q
          have ne327_o1_b1_x1 : b1_x1 ≠ b327_o1 := Nat.ne_of_lt (Nat.lt_of_lt_of_le G282.lt sz327_o1)
          have ne327_o1_b8_x1 : b8_x1 ≠ b327_o1 := Nat.ne_of_lt (Nat.lt_of_lt_of_le G326.lt sz327_o1)
          have ne327_o1_b19_x1 : b19_x1 ≠ b327_o1 := Nat.ne_of_lt (Nat.lt_of_lt_of_le G163.lt sz327_o1)
          have ne327_o1_b34_x1 : b34_x1 ≠ b327_o1 := Nat.ne_of_lt (Nat.lt_of_lt_of_le G164.lt sz327_o1)
          have ne327_o1_b77_x1 : b77_x1 ≠ b327_o1 := Nat.ne_of_lt (Nat.lt_of_lt_of_le G166.lt sz327_o1)
          have K327 := K138.trans K327q (own_aB sz54 own_a0)
          have Z327 := Nat.le_trans Z138 K327q.1
          have sy327_o0 : h0.size ≤ b327_o0 := Nat.le_trans K138.1 sz327_o0
          have sy327_o1 : h0.size ≤ b327_o1 := Nat.le_trans K138.1 sz327_o1
          have hk327 := Nat.le_trans hk138 K327q.1
          have H338 := H143.trans (CHr.keep K327q (sfS (Safe.exa (EL := consts_1) hZ77.alike G139 (by decide) (by decide)) sf0) H143.1)
          obtain ⟨G339, G340, G341⟩ := own_k2 K327q (ninS (Exa.ne G144 G139 (by decide)) nin0) G144 G145 G146
          obtain ⟨G342, G343, G344⟩ := own_k2 K327q (ninS (Exa.ne G147 G139 (by decide)) nin0) G147 G148 G149
          obtain ⟨G345, G346, G347⟩ := own_k2 K327q (ninS (Exa.ne G150 G139 (by decide)) nin0) G150 G151 G152
          obtain ⟨G348, G349, G350⟩ := own_k2 K327q (ninS (Exa.ne G153 G139 (by decide)) nin0) G153 G154 G155
          obtain ⟨G351, G352, G353⟩ := own_k2 K327q (ninS (Exa.ne G156 G139 (by decide)) nin0) G156 G157 G158
          have G354 := (own_sta_keep G159 K327q (own_nS (own_nst_exa G139) own_n0))
          have G355 := (own_sta_keep G160 K327q (own_nS (own_nst_exa G139) own_n0))
          have G356 := (G282.keep K327q (ninS (Ne.symm (Exa.neArv G139 G282 (w_ hw 31 rfl))) nin0))
          have G357 := (G326.keep K327q (ninS (Ne.symm (Exa.neArv G139 G326 (w_ hw 31 rfl))) nin0))
          have G358 := (G163.keep K327q (ninS (Ne.symm (Exa.neArv G139 G163 (w_ hw 31 rfl))) nin0))
          have G359 := (G164.keep K327q (ninS (Ne.symm (Exa.neArv G139 G164 (w_ hw 31 rfl))) nin0))
          have G360 := (G139.keep K327q)
          have G361 := (G166.keep K327q (ninS (Ne.symm (Exa.neArv G139 G166 (w_ hw 31 rfl))) nin0))
          have G362 : Fld Z T327.heap b327_o0 cN2 "count" "I" J4 := G336
          have G363 : Arv Z T327.heap b327_o1 ko0_327 .byte (16 : Int32) [(.int v0_1), (.int v1_1), (.int v0_8), (.int v1_8)] J0 := G337
          refine xiloadW X327 hx (hb hby at_103) rfl rfl ?_
          refine xiconstW X327 hx (hb hby at_105) rfl ?_
          refine xicmpYesW X327 hx 106 116 rfl (hb hby at_106) rfl (feq (by decide : ¬ ((2 : Int32) = (3 : Int32)))).2 rfl ?_
          exact own_rm84 l Z a0 hw hs hx hby hlk hml Bd.returns ((.val (.int p0))) ((.val (.int p1))) ((.val (.int p2))) ((.val (.int p3))) ((.val (.int p4))) ((.val (.int p5))) ((.val (.ref b1_x0))) ((.val (.ref b8_x0))) b19_x0 b34_x0 ((.val (.int ((p4 &&& (255 : Int32)).toUInt32.toUInt16.toUInt32.toInt32)))) (((((p4.toUInt32 >>> ((8 : Int32) &&& 31).toUInt32).toInt32) &&& (255 : Int32)).toUInt32.toUInt16.toUInt32.toInt32)) w53 ((.val J2)) b54 zaa zab ((.ref b1_x0)) (J1) b327_o0 b327_o1 ((4 : Int32)) uo0_327 ko0_327 v0_1 v1_1 v0_8 v1_8 b19_x1 ko0_19 v0_19 v1_19 ((0 : Int32)) ((0 : Int32)) ln_19 b34_x1 ko0_34 v0_34 v1_34 ((0 : Int32)) ((0 : Int32)) ln_34 T327.heap n0 Z327 (X327.more (by decide : 29 ≤ _) (by decide : 75 ≤ _)) rfl N327 hS77 hk327 hZ77 hown77 H338 G354 hcs zaf G355 G328 G329 G331 G330 G332 G333 G334 G362 G335 G363 (show ¬ ((4 : Int32) < (0 : Int32)) from (by first | decide | assumption | exact Nat.le_of_ble_eq_true rfl)) G345 G347 G346 G358 hl19 G348 G350 G349 G359 hl34 (show ¬ ((255 : Int32) < ((((p4.toUInt32 >>> ((8 : Int32) &&& 31).toUInt32).toInt32) &&& (255 : Int32)).toUInt32.toUInt16.toUInt32.toInt32)) from own_c8 _) gg54 gg327_o0 gg327_o1 ne327_o1_b34_x1
    · rw [hk108]
      show own_FinW p e below s _ _ _ (T77.setTop (mkF m 77 #[iv p0, iv p1, iv p2, iv p3, iv p4, iv p5, rv b1_x0, rv b8_x0, rv b19_x0, rv b34_x0, iv ((p4 &&& (255 : Int32)).toUInt32.toUInt16.toUInt32.toInt32), iv ((((p4.toUInt32 >>> ((8 : Int32) &&& 31).toUInt32).toInt32) &&& (255 : Int32)).toUInt32.toUInt16.toUInt32.toInt32), iv w53, iv (3 : Int32), rv b54, .unset, .unset, .unset, .unset] []))
      refine xiloadW X77 hx (hb hby at_77) rfl rfl ?_
      refine xiconstW X77 hx (hb hby at_79) rfl ?_
      refine xicmpNoW X77 hx (hb hby at_80) rfl (flt (by decide : ¬ ((3 : Int32) < (1 : Int32)))).1 rfl ?_
      refine xaloadW X77 hx (hb hby at_83) rfl rfl rfl ?_
      refine xaloadW X77 hx (hb hby at_85) rfl rfl rfl ?_
      refine oVW X77 hx hZ77 hown77 hml (w_ hw 40 rfl) (w_ hw 41 rfl) (w_ hw 43 rfl) (w_ hw 42 rfl) (own_rm55 hw hs b54 b1_x0 b77_x0 b77_x1 ko0_77 ((0 : Int32)) ((0 : Int32)) ((0 : Int32)) ((0 : Int32)) .null T77.heap n0 Z77 G78 G79 G81 ⟨G82, G84, G83, G85⟩ G80 gg54) (w_ hw 44 rfl) (w_ hw 32 rfl) rfl G78 [(.ref b1_x0)] [] 0 (lenOf own_pd16 rfl) rfl (hb hby at_87) rfl rfl rfl fun T364 L364 v364 X364 hQ364 => ?_
      obtain ⟨N364q, K364q, rfl, G365, G366, G367, G368⟩ := hQ364
      have N364 := Fr.app N77 N364q
      have K364 := K77.trans K364q (own_aB sz54 own_a0)
      have Z364 := Nat.le_trans Z77 K364q.1
      have hk364 := Nat.le_trans hk77 K364q.1
      have H369 := H77.trans (CHr.keep K364q (sfS (Safe.exa (EL := consts_1) hZ77.alike G78 (by decide) (by decide)) sf0) H77.1)
      obtain ⟨G370, G371, G372⟩ := own_k2 K364q (ninS (Exa.ne G86 G78 (by decide)) nin0) G86 G87 G88
      obtain ⟨G373, G374, G375⟩ := own_k2 K364q (ninS (Exa.ne G89 G78 (by decide)) nin0) G89 G90 G91
      obtain ⟨G376, G377, G378⟩ := own_k2 K364q (ninS (Exa.ne G92 G78 (by decide)) nin0) G92 G93 G94
      obtain ⟨G379, G380, G381⟩ := own_k2 K364q (ninS (Exa.ne G95 G78 (by decide)) nin0) G95 G96 G97
      obtain ⟨G382, G383, G384⟩ := own_k2 K364q (ninS (Exa.ne G82 G78 (by decide)) nin0) G82 G83 G84
      have G385 := (own_sta_keep G98 K364q (own_nS (own_nst_exa G78) own_n0))
      have G386 := (own_sta_keep G99 K364q (own_nS (own_nst_exa G78) own_n0))
      have G387 := (G100.keep K364q (ninS (Ne.symm (Exa.neArv G78 G100 (w_ hw 31 rfl))) nin0))
      have G388 := (G101.keep K364q (ninS (Ne.symm (Exa.neArv G78 G101 (w_ hw 31 rfl))) nin0))
      have G389 := (G102.keep K364q (ninS (Ne.symm (Exa.neArv G78 G102 (w_ hw 31 rfl))) nin0))
      have G390 := (G103.keep K364q (ninS (Ne.symm (Exa.neArv G78 G103 (w_ hw 31 rfl))) nin0))
      have G391 := (G78.keep K364q)
      have G392 := (G85.keep K364q (ninS (Ne.symm (Exa.neArv G78 G85 (w_ hw 31 rfl))) nin0))
      refine xiloadW X364 hx (hb hby at_90) rfl rfl ?_
      refine xiconstW X364 hx (hb hby at_92) rfl ?_
      refine xicmpYesW X364 hx 93 103 rfl (hb hby at_93) rfl (feq (by decide : ¬ ((3 : Int32) = (2 : Int32)))).2 rfl ?_
      refine xiloadW X364 hx (hb hby at_103) rfl rfl ?_
      show own_FinW p e below s _ _ _ (T364.setTop (mkF m 105 #[iv p0, iv p1, iv p2, iv p3, iv p4, iv p5, rv b1_x0, rv b8_x0, rv b19_x0, rv b34_x0, iv ((p4 &&& (255 : Int32)).toUInt32.toUInt16.toUInt32.toInt32), iv ((((p4.toUInt32 >>> ((8 : Int32) &&& 31).toUInt32).toInt32) &&& (255 : Int32)).toUInt32.toUInt16.toUInt32.toInt32), iv w53, iv (3 : Int32), rv b54, .unset, .unset, .unset, .unset] [J3]))
      refine xiconstW X364 hx (hb hby at_105) rfl ?_
      refine xicmpNoW X364 hx (hb hby at_106) rfl (teq (by decide : (3 : Int32) = (3 : Int32))).2 rfl ?_
      rcases id hl1 with hk393 | hk394 | hk395
      · have G396 : Arv Z T364.heap b1_x1 ko0_1 .byte (0 : Int32) [(.int v0_1), (.int v1_1), J0, J0] J0 := hk393 ▸ G387
        show own_FinW p e below s _ _ _ (T364.setTop (mkF m 109 #[iv p0, iv p1, iv p2, iv p3, iv p4, iv p5, rv b1_x0, rv b8_x0, rv b19_x0, rv b34_x0, iv ((p4 &&& (255 : Int32)).toUInt32.toUInt16.toUInt32.toInt32), iv ((((p4.toUInt32 >>> ((8 : Int32) &&& 31).toUInt32).toInt32) &&& (255 : Int32)).toUInt32.toUInt16.toUInt32.toInt32), iv w53, iv (3 : Int32), rv b54, .unset, .unset, .unset, .unset] []))
        refine xaloadW X364 hx (hb hby at_109) rfl rfl rfl ?_
        refine xiloadW X364 hx (hb hby at_111) rfl rfl ?_
        refine oVW X364 hx hZ77 hown77 hml (w_ hw 52 rfl) (w_ hw 53 rfl) (w_ hw 55 rfl) (w_ hw 54 rfl) (own_rm59 hw hs b54 (((p4 &&& (255 : Int32)).toUInt32.toUInt16.toUInt32.toInt32)) b1_x0 b1_x1 ko0_1 ([(.int v0_1), (.int v1_1), J0, J0]) ((0 : Int32)) zaa T364.heap n0 Z364 G365 G366 G368 ⟨G370, G372, G371, G396⟩ G367 G385 hcs gg54 (show ¬ ((0 : Int32) < (((0 : Int32) + (0 : Int32)) - (16 : Int32))) from (by first | decide | assumption | exact Nat.le_of_ble_eq_true rfl)) (show ¬ ((0 : Int32) < (0 : Int32)) from (by first | decide | assumption | exact Nat.le_of_ble_eq_true rfl)) (show (0 : Int32).toNatClampNeg + (0 : Int32).toNatClampNeg ≤ (16 : Int32).toNatClampNeg from (by first | decide | assumption | exact Nat.le_of_ble_eq_true rfl)) (show (0 : Int32).toNatClampNeg + (0 : Int32).toNatClampNeg ≤ [J0, J0, J0, J0].length from (by first | decide | assumption | exact Nat.le_of_ble_eq_true rfl)) (show ¬ ((0 : Int32) < ((((0 : Int32) + (0 : Int32)) + (1 : Int32)) - (16 : Int32))) from (by first | decide | assumption | exact Nat.le_of_ble_eq_true rfl)) (show ¬ ((255 : Int32) < ((p4 &&& (255 : Int32)).toUInt32.toUInt16.toUInt32.toInt32)) from own_c8 _) (show ¬ (((0 : Int32) + (0 : Int32)) < (0 : Int32)) from (by first | decide | assumption | exact Nat.le_of_ble_eq_true rfl)) (show ((0 : Int32) + (0 : Int32)) < (16 : Int32) from (by first | decide | assumption | exact Nat.le_of_ble_eq_true rfl)) (show ((0 : Int32) + (0 : Int32)).toNatClampNeg < (own_cat [J0, J0, J0, J0] [(.int v0_1), (.int v1_1), J0, J0] (0 : Int32) (0 : Int32)).length from (by first | decide | assumption | exact Nat.le_of_ble_eq_true rfl))) (w_ hw 56 rfl) (w_ hw 32 rfl) rfl G365 [(.int ((p4 &&& (255 : Int32)).toUInt32.toUInt16.toUInt32.toInt32))] [] 0 (lenOf own_pd33 rfl) rfl (hb hby at_113) rfl rfl rfl fun T397 L397 v397 X397 hQ397 => ?_
        obtain ⟨N397q, K397q, b397_o0, gg397_o0, sz397_o0, b397_o1, gg397_o1, sz397_o1, ko0_397, uo0_397, rfl, G398, G399, G400, G401, G402, G403, G404, G405, G406, G407⟩ := hQ397
        have N397 := Fr.app N364 N397q
        have ne397_o1_b1_x1 : b1_x1 ≠ b397_o1 := Nat.ne_of_lt (Nat.lt_of_lt_of_le G396.lt sz397_o1)
        have ne397_o1_b8_x1 : b8_x1 ≠ b397_o1 := Nat.ne_of_lt (Nat.lt_of_lt_of_le G388.lt sz397_o1)
        have ne397_o1_b19_x1 : b19_x1 ≠ b397_o1 := Nat.ne_of_lt (Nat.lt_of_lt_of_le G389.lt sz397_o1)
        have ne397_o1_b34_x1 : b34_x1 ≠ b397_o1 := Nat.ne_of_lt (Nat.lt_of_lt_of_le G390.lt sz397_o1)
        have ne397_o1_b77_x1 : b77_x1 ≠ b397_o1 := Nat.ne_of_lt (Nat.lt_of_lt_of_le G392.lt sz397_o1)
        have K397 := K364.trans K397q (own_aB sz54 own_a0)
        have Z397 := Nat.le_trans Z364 K397q.1
        have sy397_o0 : h0.size ≤ b397_o0 := Nat.le_trans K364.1 sz397_o0
        have sy397_o1 : h0.size ≤ b397_o1 := Nat.le_trans K364.1 sz397_o1
        have hk397 := Nat.le_trans hk364 K397q.1
        have H408 := H369.trans (CHr.keep K397q (sfS (Safe.exa (EL := consts_1) hZ77.alike G365 (by decide) (by decide)) sf0) H369.1)
        obtain ⟨G409, G410, G411⟩ := own_k2 K397q (ninS (Exa.ne G370 G365 (by decide)) nin0) G370 G371 G372
        obtain ⟨G412, G413, G414⟩ := own_k2 K397q (ninS (Exa.ne G373 G365 (by decide)) nin0) G373 G374 G375
        obtain ⟨G415, G416, G417⟩ := own_k2 K397q (ninS (Exa.ne G376 G365 (by decide)) nin0) G376 G377 G378
        obtain ⟨G418, G419, G420⟩ := own_k2 K397q (ninS (Exa.ne G379 G365 (by decide)) nin0) G379 G380 G381
        obtain ⟨G421, G422, G423⟩ := own_k2 K397q (ninS (Exa.ne G382 G365 (by decide)) nin0) G382 G383 G384
        have G424 := (own_sta_keep G385 K397q (own_nS (own_nst_exa G365) own_n0))
        have G425 := (own_sta_keep G386 K397q (own_nS (own_nst_exa G365) own_n0))
        have G426 := (G396.keep K397q (ninS (Ne.symm (Exa.neArv G365 G396 (w_ hw 31 rfl))) nin0))
        have G427 := (G388.keep K397q (ninS (Ne.symm (Exa.neArv G365 G388 (w_ hw 31 rfl))) nin0))
        have G428 := (G389.keep K397q (ninS (Ne.symm (Exa.neArv G365 G389 (w_ hw 31 rfl))) nin0))
        have G429 := (G390.keep K397q (ninS (Ne.symm (Exa.neArv G365 G390 (w_ hw 31 rfl))) nin0))
        have G430 := (G365.keep K397q)
        have G431 := (G392.keep K397q (ninS (Ne.symm (Exa.neArv G365 G392 (w_ hw 31 rfl))) nin0))
        have G432 : Fld Z T397.heap b397_o0 cN2 "count" "I" J1 := G406
        have G433 : Arv Z T397.heap b397_o1 ko0_397 .byte (16 : Int32) [(.int (nar .byte (((p4 &&& (255 : Int32)).toUInt32.toUInt16.toUInt32.toInt32).toInt8.toInt32))), J0, J0, J0] J0 := G407
        exact own_rm84 l Z a0 hw hs hx hby hlk hml Bd.returns ((.val (.int p0))) ((.val (.int p1))) ((.val (.int p2))) ((.val (.int p3))) ((.val (.int p4))) ((.val (.int p5))) ((.val (.ref b1_x0))) ((.val (.ref b8_x0))) b19_x0 b34_x0 ((.val (.int ((p4 &&& (255 : Int32)).toUInt32.toUInt16.toUInt32.toInt32)))) (((((p4.toUInt32 >>> ((8 : Int32) &&& 31).toUInt32).toInt32) &&& (255 : Int32)).toUInt32.toUInt16.toUInt32.toInt32)) w53 ((.val J3)) b54 zaa zab ((.ref b1_x0)) (J1) b397_o0 b397_o1 ((1 : Int32)) uo0_397 ko0_397 ((nar .byte (((p4 &&& (255 : Int32)).toUInt32.toUInt16.toUInt32.toInt32).toInt8.toInt32))) ((0 : Int32)) ((0 : Int32)) ((0 : Int32)) b19_x1 ko0_19 v0_19 v1_19 ((0 : Int32)) ((0 : Int32)) ln_19 b34_x1 ko0_34 v0_34 v1_34 ((0 : Int32)) ((0 : Int32)) ln_34 T397.heap n0 Z397 (X397.more (by decide : 29 ≤ _) (by decide : 75 ≤ _)) rfl N397 hS77 hk397 hZ77 hown77 H408 G424 hcs zaf G425 G398 G399 G401 G400 G402 G403 G404 G432 G405 G433 (show ¬ ((1 : Int32) < (0 : Int32)) from (by first | decide | assumption | exact Nat.le_of_ble_eq_true rfl)) G415 G417 G416 G428 hl19 G418 G420 G419 G429 hl34 (show ¬ ((255 : Int32) < ((((p4.toUInt32 >>> ((8 : Int32) &&& 31).toUInt32).toInt32) &&& (255 : Int32)).toUInt32.toUInt16.toUInt32.toInt32)) from own_c8 _) gg54 gg397_o0 gg397_o1 ne397_o1_b34_x1
      · have G434 : Arv Z T364.heap b1_x1 ko0_1 .byte (1 : Int32) [(.int v0_1), (.int v1_1), J0, J0] J0 := hk394 ▸ G387
        show own_FinW p e below s _ _ _ (T364.setTop (mkF m 109 #[iv p0, iv p1, iv p2, iv p3, iv p4, iv p5, rv b1_x0, rv b8_x0, rv b19_x0, rv b34_x0, iv ((p4 &&& (255 : Int32)).toUInt32.toUInt16.toUInt32.toInt32), iv ((((p4.toUInt32 >>> ((8 : Int32) &&& 31).toUInt32).toInt32) &&& (255 : Int32)).toUInt32.toUInt16.toUInt32.toInt32), iv w53, iv (3 : Int32), rv b54, .unset, .unset, .unset, .unset] []))
        refine xaloadW X364 hx (hb hby at_109) rfl rfl rfl ?_
        refine xiloadW X364 hx (hb hby at_111) rfl rfl ?_
        refine oVW X364 hx hZ77 hown77 hml (w_ hw 52 rfl) (w_ hw 53 rfl) (w_ hw 55 rfl) (w_ hw 54 rfl) (own_rm59 hw hs b54 (((p4 &&& (255 : Int32)).toUInt32.toUInt16.toUInt32.toInt32)) b1_x0 b1_x1 ko0_1 ([(.int v0_1), (.int v1_1), J0, J0]) ((1 : Int32)) zaa T364.heap n0 Z364 G365 G366 G368 ⟨G370, G372, G371, G434⟩ G367 G385 hcs gg54 (show ¬ ((0 : Int32) < (((0 : Int32) + (1 : Int32)) - (16 : Int32))) from (by first | decide | assumption | exact Nat.le_of_ble_eq_true rfl)) (show ¬ ((1 : Int32) < (0 : Int32)) from (by first | decide | assumption | exact Nat.le_of_ble_eq_true rfl)) (show (0 : Int32).toNatClampNeg + (1 : Int32).toNatClampNeg ≤ (16 : Int32).toNatClampNeg from (by first | decide | assumption | exact Nat.le_of_ble_eq_true rfl)) (show (0 : Int32).toNatClampNeg + (1 : Int32).toNatClampNeg ≤ [J0, J0, J0, J0].length from (by first | decide | assumption | exact Nat.le_of_ble_eq_true rfl)) (show ¬ ((0 : Int32) < ((((0 : Int32) + (1 : Int32)) + (1 : Int32)) - (16 : Int32))) from (by first | decide | assumption | exact Nat.le_of_ble_eq_true rfl)) (show ¬ ((255 : Int32) < ((p4 &&& (255 : Int32)).toUInt32.toUInt16.toUInt32.toInt32)) from own_c8 _) (show ¬ (((0 : Int32) + (1 : Int32)) < (0 : Int32)) from (by first | decide | assumption | exact Nat.le_of_ble_eq_true rfl)) (show ((0 : Int32) + (1 : Int32)) < (16 : Int32) from (by first | decide | assumption | exact Nat.le_of_ble_eq_true rfl)) (show ((0 : Int32) + (1 : Int32)).toNatClampNeg < (own_cat [J0, J0, J0, J0] [(.int v0_1), (.int v1_1), J0, J0] (0 : Int32) (1 : Int32)).length from (by first | decide | assumption | exact Nat.le_of_ble_eq_true rfl))) (w_ hw 56 rfl) (w_ hw 32 rfl) rfl G365 [(.int ((p4 &&& (255 : Int32)).toUInt32.toUInt16.toUInt32.toInt32))] [] 0 (lenOf own_pd33 rfl) rfl (hb hby at_113) rfl rfl rfl fun T435 L435 v435 X435 hQ435 => ?_
        obtain ⟨N435q, K435q, b435_o0, gg435_o0, sz435_o0, b435_o1, gg435_o1, sz435_o1, ko0_435, uo0_435, rfl, G436, G437, G438, G439, G440, G441, G442, G443, G444, G445⟩ := hQ435
        have N435 := Fr.app N364 N435q
        have ne435_o1_b1_x1 : b1_x1 ≠ b435_o1 := Nat.ne_of_lt (Nat.lt_of_lt_of_le G434.lt sz435_o1)
        have ne435_o1_b8_x1 : b8_x1 ≠ b435_o1 := Nat.ne_of_lt (Nat.lt_of_lt_of_le G388.lt sz435_o1)
        have ne435_o1_b19_x1 : b19_x1 ≠ b435_o1 := Nat.ne_of_lt (Nat.lt_of_lt_of_le G389.lt sz435_o1)
        have ne435_o1_b34_x1 : b34_x1 ≠ b435_o1 := Nat.ne_of_lt (Nat.lt_of_lt_of_le G390.lt sz435_o1)
        have ne435_o1_b77_x1 : b77_x1 ≠ b435_o1 := Nat.ne_of_lt (Nat.lt_of_lt_of_le G392.lt sz435_o1)
        have K435 := K364.trans K435q (own_aB sz54 own_a0)
        have Z435 := Nat.le_trans Z364 K435q.1
        have sy435_o0 : h0.size ≤ b435_o0 := Nat.le_trans K364.1 sz435_o0
        have sy435_o1 : h0.size ≤ b435_o1 := Nat.le_trans K364.1 sz435_o1
        have hk435 := Nat.le_trans hk364 K435q.1
        have H446 := H369.trans (CHr.keep K435q (sfS (Safe.exa (EL := consts_1) hZ77.alike G365 (by decide) (by decide)) sf0) H369.1)
        obtain ⟨G447, G448, G449⟩ := own_k2 K435q (ninS (Exa.ne G370 G365 (by decide)) nin0) G370 G371 G372
        obtain ⟨G450, G451, G452⟩ := own_k2 K435q (ninS (Exa.ne G373 G365 (by decide)) nin0) G373 G374 G375
        obtain ⟨G453, G454, G455⟩ := own_k2 K435q (ninS (Exa.ne G376 G365 (by decide)) nin0) G376 G377 G378
        obtain ⟨G456, G457, G458⟩ := own_k2 K435q (ninS (Exa.ne G379 G365 (by decide)) nin0) G379 G380 G381
        obtain ⟨G459, G460, G461⟩ := own_k2 K435q (ninS (Exa.ne G382 G365 (by decide)) nin0) G382 G383 G384
        have G462 := (own_sta_keep G385 K435q (own_nS (own_nst_exa G365) own_n0))
        have G463 := (own_sta_keep G386 K435q (own_nS (own_nst_exa G365) own_n0))
        have G464 := (G434.keep K435q (ninS (Ne.symm (Exa.neArv G365 G434 (w_ hw 31 rfl))) nin0))
        have G465 := (G388.keep K435q (ninS (Ne.symm (Exa.neArv G365 G388 (w_ hw 31 rfl))) nin0))
        have G466 := (G389.keep K435q (ninS (Ne.symm (Exa.neArv G365 G389 (w_ hw 31 rfl))) nin0))
        have G467 := (G390.keep K435q (ninS (Ne.symm (Exa.neArv G365 G390 (w_ hw 31 rfl))) nin0))
        have G468 := (G365.keep K435q)
        have G469 := (G392.keep K435q (ninS (Ne.symm (Exa.neArv G365 G392 (w_ hw 31 rfl))) nin0))
        have G470 : Fld Z T435.heap b435_o0 cN2 "count" "I" J2 := G444
        have G471 : Arv Z T435.heap b435_o1 ko0_435 .byte (16 : Int32) [(.int v0_1), (.int (nar .byte (((p4 &&& (255 : Int32)).toUInt32.toUInt16.toUInt32.toInt32).toInt8.toInt32))), J0, J0] J0 := G445
        exact own_rm84 l Z a0 hw hs hx hby hlk hml Bd.returns ((.val (.int p0))) ((.val (.int p1))) ((.val (.int p2))) ((.val (.int p3))) ((.val (.int p4))) ((.val (.int p5))) ((.val (.ref b1_x0))) ((.val (.ref b8_x0))) b19_x0 b34_x0 ((.val (.int ((p4 &&& (255 : Int32)).toUInt32.toUInt16.toUInt32.toInt32)))) (((((p4.toUInt32 >>> ((8 : Int32) &&& 31).toUInt32).toInt32) &&& (255 : Int32)).toUInt32.toUInt16.toUInt32.toInt32)) w53 ((.val J3)) b54 zaa zab ((.ref b1_x0)) (J1) b435_o0 b435_o1 ((2 : Int32)) uo0_435 ko0_435 v0_1 ((nar .byte (((p4 &&& (255 : Int32)).toUInt32.toUInt16.toUInt32.toInt32).toInt8.toInt32))) ((0 : Int32)) ((0 : Int32)) b19_x1 ko0_19 v0_19 v1_19 ((0 : Int32)) ((0 : Int32)) ln_19 b34_x1 ko0_34 v0_34 v1_34 ((0 : Int32)) ((0 : Int32)) ln_34 T435.heap n0 Z435 (X435.more (by decide : 29 ≤ _) (by decide : 75 ≤ _)) rfl N435 hS77 hk435 hZ77 hown77 H446 G462 hcs zaf G463 G436 G437 G439 G438 G440 G441 G442 G470 G443 G471 (show ¬ ((2 : Int32) < (0 : Int32)) from (by first | decide | assumption | exact Nat.le_of_ble_eq_true rfl)) G453 G455 G454 G466 hl19 G456 G458 G457 G467 hl34 (show ¬ ((255 : Int32) < ((((p4.toUInt32 >>> ((8 : Int32) &&& 31).toUInt32).toInt32) &&& (255 : Int32)).toUInt32.toUInt16.toUInt32.toInt32)) from own_c8 _) gg54 gg435_o0 gg435_o1 ne435_o1_b34_x1
      · have G472 : Arv Z T364.heap b1_x1 ko0_1 .byte (2 : Int32) [(.int v0_1), (.int v1_1), J0, J0] J0 := hk395 ▸ G387
        show own_FinW p e below s _ _ _ (T364.setTop (mkF m 109 #[iv p0, iv p1, iv p2, iv p3, iv p4, iv p5, rv b1_x0, rv b8_x0, rv b19_x0, rv b34_x0, iv ((p4 &&& (255 : Int32)).toUInt32.toUInt16.toUInt32.toInt32), iv ((((p4.toUInt32 >>> ((8 : Int32) &&& 31).toUInt32).toInt32) &&& (255 : Int32)).toUInt32.toUInt16.toUInt32.toInt32), iv w53, iv (3 : Int32), rv b54, .unset, .unset, .unset, .unset] []))
        refine xaloadW X364 hx (hb hby at_109) rfl rfl rfl ?_
        refine xiloadW X364 hx (hb hby at_111) rfl rfl ?_
        refine oVW X364 hx hZ77 hown77 hml (w_ hw 52 rfl) (w_ hw 53 rfl) (w_ hw 55 rfl) (w_ hw 54 rfl) (own_rm59 hw hs b54 (((p4 &&& (255 : Int32)).toUInt32.toUInt16.toUInt32.toInt32)) b1_x0 b1_x1 ko0_1 ([(.int v0_1), (.int v1_1), J0, J0]) ((2 : Int32)) zaa T364.heap n0 Z364 G365 G366 G368 ⟨G370, G372, G371, G472⟩ G367 G385 hcs gg54 (show ¬ ((0 : Int32) < (((0 : Int32) + (2 : Int32)) - (16 : Int32))) from (by first | decide | assumption | exact Nat.le_of_ble_eq_true rfl)) (show ¬ ((2 : Int32) < (0 : Int32)) from (by first | decide | assumption | exact Nat.le_of_ble_eq_true rfl)) (show (0 : Int32).toNatClampNeg + (2 : Int32).toNatClampNeg ≤ (16 : Int32).toNatClampNeg from (by first | decide | assumption | exact Nat.le_of_ble_eq_true rfl)) (show (0 : Int32).toNatClampNeg + (2 : Int32).toNatClampNeg ≤ [J0, J0, J0, J0].length from (by first | decide | assumption | exact Nat.le_of_ble_eq_true rfl)) (show ¬ ((0 : Int32) < ((((0 : Int32) + (2 : Int32)) + (1 : Int32)) - (16 : Int32))) from (by first | decide | assumption | exact Nat.le_of_ble_eq_true rfl)) (show ¬ ((255 : Int32) < ((p4 &&& (255 : Int32)).toUInt32.toUInt16.toUInt32.toInt32)) from own_c8 _) (show ¬ (((0 : Int32) + (2 : Int32)) < (0 : Int32)) from (by first | decide | assumption | exact Nat.le_of_ble_eq_true rfl)) (show ((0 : Int32) + (2 : Int32)) < (16 : Int32) from (by first | decide | assumption | exact Nat.le_of_ble_eq_true rfl)) (show ((0 : Int32) + (2 : Int32)).toNatClampNeg < (own_cat [J0, J0, J0, J0] [(.int v0_1), (.int v1_1), J0, J0] (0 : Int32) (2 : Int32)).length from (by first | decide | assumption | exact Nat.le_of_ble_eq_true rfl))) (w_ hw 56 rfl) (w_ hw 32 rfl) rfl G365 [(.int ((p4 &&& (255 : Int32)).toUInt32.toUInt16.toUInt32.toInt32))] [] 0 (lenOf own_pd33 rfl) rfl (hb hby at_113) rfl rfl rfl fun T473 L473 v473 X473 hQ473 => ?_
        obtain ⟨N473q, K473q, b473_o0, gg473_o0, sz473_o0, b473_o1, gg473_o1, sz473_o1, ko0_473, uo0_473, rfl, G474, G475, G476, G477, G478, G479, G480, G481, G482, G483⟩ := hQ473
        have N473 := Fr.app N364 N473q
        have ne473_o1_b1_x1 : b1_x1 ≠ b473_o1 := Nat.ne_of_lt (Nat.lt_of_lt_of_le G472.lt sz473_o1)
        have ne473_o1_b8_x1 : b8_x1 ≠ b473_o1 := Nat.ne_of_lt (Nat.lt_of_lt_of_le G388.lt sz473_o1)
        have ne473_o1_b19_x1 : b19_x1 ≠ b473_o1 := Nat.ne_of_lt (Nat.lt_of_lt_of_le G389.lt sz473_o1)
        have ne473_o1_b34_x1 : b34_x1 ≠ b473_o1 := Nat.ne_of_lt (Nat.lt_of_lt_of_le G390.lt sz473_o1)
        have ne473_o1_b77_x1 : b77_x1 ≠ b473_o1 := Nat.ne_of_lt (Nat.lt_of_lt_of_le G392.lt sz473_o1)
        have K473 := K364.trans K473q (own_aB sz54 own_a0)
        have Z473 := Nat.le_trans Z364 K473q.1
        have sy473_o0 : h0.size ≤ b473_o0 := Nat.le_trans K364.1 sz473_o0
        have sy473_o1 : h0.size ≤ b473_o1 := Nat.le_trans K364.1 sz473_o1
        have hk473 := Nat.le_trans hk364 K473q.1
        have H484 := H369.trans (CHr.keep K473q (sfS (Safe.exa (EL := consts_1) hZ77.alike G365 (by decide) (by decide)) sf0) H369.1)
        obtain ⟨G485, G486, G487⟩ := own_k2 K473q (ninS (Exa.ne G370 G365 (by decide)) nin0) G370 G371 G372
        obtain ⟨G488, G489, G490⟩ := own_k2 K473q (ninS (Exa.ne G373 G365 (by decide)) nin0) G373 G374 G375
        obtain ⟨G491, G492, G493⟩ := own_k2 K473q (ninS (Exa.ne G376 G365 (by decide)) nin0) G376 G377 G378
        obtain ⟨G494, G495, G496⟩ := own_k2 K473q (ninS (Exa.ne G379 G365 (by decide)) nin0) G379 G380 G381
        obtain ⟨G497, G498, G499⟩ := own_k2 K473q (ninS (Exa.ne G382 G365 (by decide)) nin0) G382 G383 G384
        have G500 := (own_sta_keep G385 K473q (own_nS (own_nst_exa G365) own_n0))
        have G501 := (own_sta_keep G386 K473q (own_nS (own_nst_exa G365) own_n0))
        have G502 := (G472.keep K473q (ninS (Ne.symm (Exa.neArv G365 G472 (w_ hw 31 rfl))) nin0))
        have G503 := (G388.keep K473q (ninS (Ne.symm (Exa.neArv G365 G388 (w_ hw 31 rfl))) nin0))
        have G504 := (G389.keep K473q (ninS (Ne.symm (Exa.neArv G365 G389 (w_ hw 31 rfl))) nin0))
        have G505 := (G390.keep K473q (ninS (Ne.symm (Exa.neArv G365 G390 (w_ hw 31 rfl))) nin0))
        have G506 := (G365.keep K473q)
        have G507 := (G392.keep K473q (ninS (Ne.symm (Exa.neArv G365 G392 (w_ hw 31 rfl))) nin0))
        have G508 : Fld Z T473.heap b473_o0 cN2 "count" "I" J3 := G482
        have G509 : Arv Z T473.heap b473_o1 ko0_473 .byte (16 : Int32) [(.int v0_1), (.int v1_1), (.int (nar .byte (((p4 &&& (255 : Int32)).toUInt32.toUInt16.toUInt32.toInt32).toInt8.toInt32))), J0] J0 := G483
        exact own_rm84 l Z a0 hw hs hx hby hlk hml Bd.returns ((.val (.int p0))) ((.val (.int p1))) ((.val (.int p2))) ((.val (.int p3))) ((.val (.int p4))) ((.val (.int p5))) ((.val (.ref b1_x0))) ((.val (.ref b8_x0))) b19_x0 b34_x0 ((.val (.int ((p4 &&& (255 : Int32)).toUInt32.toUInt16.toUInt32.toInt32)))) (((((p4.toUInt32 >>> ((8 : Int32) &&& 31).toUInt32).toInt32) &&& (255 : Int32)).toUInt32.toUInt16.toUInt32.toInt32)) w53 ((.val J3)) b54 zaa zab ((.ref b1_x0)) (J1) b473_o0 b473_o1 ((3 : Int32)) uo0_473 ko0_473 v0_1 v1_1 ((nar .byte (((p4 &&& (255 : Int32)).toUInt32.toUInt16.toUInt32.toInt32).toInt8.toInt32))) ((0 : Int32)) b19_x1 ko0_19 v0_19 v1_19 ((0 : Int32)) ((0 : Int32)) ln_19 b34_x1 ko0_34 v0_34 v1_34 ((0 : Int32)) ((0 : Int32)) ln_34 T473.heap n0 Z473 (X473.more (by decide : 29 ≤ _) (by decide : 75 ≤ _)) rfl N473 hS77 hk473 hZ77 hown77 H484 G500 hcs zaf G501 G474 G475 G477 G476 G478 G479 G480 G508 G481 G509 (show ¬ ((3 : Int32) < (0 : Int32)) from (by first | decide | assumption | exact Nat.le_of_ble_eq_true rfl)) G491 G493 G492 G504 hl19 G494 G496 G495 G505 hl34 (show ¬ ((255 : Int32) < ((((p4.toUInt32 >>> ((8 : Int32) &&& 31).toUInt32).toInt32) &&& (255 : Int32)).toUInt32.toUInt16.toUInt32.toInt32)) from own_c8 _) gg54 gg473_o0 gg473_o1 ne473_o1_b34_x1
  · intro J53
    show own_FinW p e below s _ _ _ (T34.setTop (mkF m 45 #[iv p0, iv p1, iv p2, iv p3, iv p4, iv p5, rv b1_x0, rv b8_x0, rv b19_x0, rv b34_x0, iv ((p4 &&& (255 : Int32)).toUInt32.toUInt16.toUInt32.toInt32), iv ((((p4.toUInt32 >>> ((8 : Int32) &&& 31).toUInt32).toInt32) &&& (255 : Int32)).toUInt32.toUInt16.toUInt32.toInt32), .unset, .unset, .unset, .unset, .unset, .unset, .unset] []))
    refine xiloadW X34 hx (hb hby at_45) rfl rfl ?_
    refine xbipushW X34 hx (hb hby at_47) rfl ?_
    refine own_stepW (fun _ k => XS.iushr X34.here hx rfl (hb hby at_49) rfl k) ?_
    refine xiconstW X34 hx (hb hby at_50) rfl ?_
    refine own_stepW (fun _ k => XS.iand X34.here hx rfl (hb hby at_51) rfl k) ?_
    by_cases hc510 : (((p4.toUInt32 >>> ((16 : Int32) &&& 31).toUInt32).toInt32) &&& (1 : Int32)) = (0 : Int32)
    · refine xifYesW X34 hx 52 59 rfl (hb hby at_52) rfl ((if0 _ _).trans (teq hc510).1) rfl ?_
      refine xiconstW X34 hx (hb hby at_59) rfl ?_
      refine xistoreW X34 hx (hb hby at_60) rfl (l' := #[iv p0, iv p1, iv p2, iv p3, iv p4, iv p5, rv b1_x0, rv b8_x0, rv b19_x0, rv b34_x0, iv ((p4 &&& (255 : Int32)).toUInt32.toUInt16.toUInt32.toInt32), iv ((((p4.toUInt32 >>> ((8 : Int32) &&& 31).toUInt32).toInt32) &&& (255 : Int32)).toUInt32.toUInt16.toUInt32.toInt32), iv (0 : Int32), .unset, .unset, .unset, .unset, .unset, .unset]) rfl rfl ?_
      exact J53 _ X34 rfl (0 : Int32) trivial
    · refine xifNoW X34 hx (hb hby at_52) rfl ((if0 _ _).trans (feq hc510).1) rfl ?_
      refine xiconstW X34 hx (hb hby at_55) rfl ?_
      refine xgotoW X34 hx 56 60 rfl (hb hby at_56) rfl ?_
      refine xistoreW X34 hx (hb hby at_60) rfl (l' := #[iv p0, iv p1, iv p2, iv p3, iv p4, iv p5, rv b1_x0, rv b8_x0, rv b19_x0, rv b34_x0, iv ((p4 &&& (255 : Int32)).toUInt32.toUInt16.toUInt32.toInt32), iv ((((p4.toUInt32 >>> ((8 : Int32) &&& 31).toUInt32).toInt32) &&& (255 : Int32)).toUInt32.toUInt16.toUInt32.toInt32), iv (1 : Int32), .unset, .unset, .unset, .unset, .unset, .unset]) rfl rfl ?_
      exact J53 _ X34 rfl (1 : Int32) trivial

set_option maxRecDepth 65536 in
set_option maxHeartbeats 40000000 in
theorem comes_1 {Post : Tables → Env → Array Value → State → Outcome → State → Prop} (hpost : ∀ tb e args s v u, (limb_1_1.after args s (.returned v) u = true ∧ limb_1_2.after args s (.returned v) u = true ∧ True) → ReturnedEndW s (.returned v) u (Jvm.fieldLocs frame_1_writes args s ++ Jvm.arrayLocs frame_1_arrays args s ++ Jvm.staticLocs frame_1_statics s) 56 2304 → Post tb e args s (.returned v) u) :
    ArmFor flags0 classFile x code maxLocals ret World_1 tables_1 room_1 Calls_1 rest_1 Pre_1 Post := by
  intro l hfl _ _ p e ha hc hk s m args below hf hA hF happ hP
  obtain ⟨hcalls, hrest, hpre⟩ := hP
  obtain ⟨-, -, -, hnamed, -, -, -, hat⟩ := (Spec.applies_iff hf).mp happ
  obtain ⟨hg, hn⟩ := and_e (Cond.before_iff.mp (show (Jvm.Cond.and given_1 narrow_1).before args s = true from hpre))
  obtain ⟨cj1a, cj1b⟩ := and_e hg
  obtain ⟨cj2a, cj2b⟩ := and_e cj1b
  obtain ⟨cj3a, cj3b⟩ := and_e cj2b
  obtain ⟨cj4a, cj4b⟩ := and_e cj3b
  obtain ⟨cj5a, cj5b⟩ := and_e cj4b
  obtain ⟨cj6a, cj6b⟩ := and_e cj5b
  obtain ⟨w0, w1, w2, w3, w4, w5, rfl⟩ : ∃ w0 w1 w2 w3 w4 w5 : Value, args = #[w0, w1, w2, w3, w4, w5] := by
    have hs : args.size = 6 := by simpa [Cond.value, given_1] using cj1a
    obtain ⟨L⟩ := args
    match L, hs with
    | [w0, w1, w2, w3, w4, w5], _ => exact ⟨w0, w1, w2, w3, w4, w5, rfl⟩
  have hw := fun d (hd : d ∈ tables_1) => atoms_spec (ws := Jvm.Cond.code x code maxLocals ret :: tables_1) hat d (List.mem_cons_of_mem _ hd)
  have hfit : Fit s := fun {y c} hc i hi => by
    obtain ⟨ha, rfl⟩ := Array.getElem?_eq_some_iff.mp hc
    have q := List.all_eq_true.mp ((Array.all_eq_true_iff_forall_mem.mp hF) _ (Array.getElem_mem ha)) i (List.mem_range.mpr hi)
    simpa [Array.getElem?_eq_getElem hi] using q
  obtain ⟨hs, hown0⟩ := atoms_of _ (rest_1_c_eq ▸ (show rest_1_c.before _ s = true from hrest))
  have hr0 := Cond.before_iff.mp hown0
  obtain ⟨i0, ei0⟩ := is_v cj2a
  obtain rfl : w0 = (.int i0) := Option.some.inj ei0
  obtain ⟨i1, ei1⟩ := is_v cj3a
  obtain rfl : w1 = (.int i1) := Option.some.inj ei1
  obtain ⟨i2, ei2⟩ := is_v cj4a
  obtain rfl : w2 = (.int i2) := Option.some.inj ei2
  obtain ⟨i3, ei3⟩ := is_v cj5a
  obtain rfl : w3 = (.int i3) := Option.some.inj ei3
  obtain ⟨i4, ei4⟩ := is_v cj6a
  obtain rfl : w4 = (.int i4) := Option.some.inj ei4
  obtain ⟨i5, ei5⟩ := is_v cj6b
  obtain rfl : w5 = (.int i5) := Option.some.inj ei5
  obtain ⟨zaa, ev_s_COMPACT_STRINGS⟩ := is_v (Cond.before_iff.mp (hs _ (List.mem_of_getElem? (i := 1) rfl)))
  have zac : Sta s s.heap cN0 "COMPACT_STRINGS" "Z" (.int zaa) := Sta.start ev_s_COMPACT_STRINGS (Or.inl (w_ hs 0 rfl))
  obtain ⟨zab, ev_s_SIOOBE_FORMATTER, ir_s_SIOOBE_FORMATTER⟩ := isR_v (Cond.before_iff.mp (hs _ (List.mem_of_getElem? (i := 8) rfl)))
  have zan : Sta s s.heap "jdk/internal/util/Preconditions" "SIOOBE_FORMATTER" "Ljava/util/function/BiFunction;" zab := Sta.start ev_s_SIOOBE_FORMATTER (Or.inl (w_ hs 7 rfl))
  have zaf := ir_s_SIOOBE_FORMATTER
  have hnz_s_COMPACT_STRINGS : ¬ (zaa = (0 : Int32)) := of_decide_eq_false (Option.some.inj ((Cond.eq_ints ev_s_COMPACT_STRINGS rfl).symm.trans (not_v (Cond.before_iff.mp (hs _ (List.mem_of_getElem? (i := 2) rfl))))))
  have hCH : CHv s consts_1 s.vm s.heap := CHv.start (own_ew hw) (fun q hq => hcalls.1 q hq) (w_ hs 2 rfl) (w_ hw 23 rfl) (w_ hw 9 rfl)
  obtain ⟨n, o, h1, h2, h3, _, L, rfl, ⟨rfl, N⟩, hq⟩ := own_rm85 l s _ hw hs tables_1 i0 i1 i2 i3 i4 i5 zaa zab s.heap s.heap.size (Nat.le_refl _) zac hnz_s_COMPACT_STRINGS zaf zan p e ha hc hk s m _ below hf ((Spec.applies_iff_loose hf).mp happ).1 ⟨rfl, State.Warmed39.refl s, rfl, hCH⟩ trivial
  refine ⟨n, _, h1, h2, h3, hpost _ _ _ _ _ _ ⟨Cond.after_iff.mpr rfl, Cond.after_iff.mpr (eq_i res_at (Term.int_eval (1)) rfl), trivial⟩ ⟨hq.1, hq.2.1, hq.2.2.1, (hq.2.2.2.sift fun y hy => Or.inr (N y hy)).mono (by decide) (by decide)⟩⟩
theorem main_1_1 : Claimed_1_1 := comes_1 fun _ _ _ _ _ _ h hF => ⟨h.1, hF⟩
theorem main_1_2 : Claimed_1_2 := comes_1 fun _ _ _ _ _ _ h hF => ⟨h.2.1, hF⟩
end Jvm.Pilot.@@N@@
namespace Jvm.Pilot.@@N@@
open Jvm Jvm.ClassFile Sem Op Lib Jvm.Free Jvm.Stand Jvm.Pilot.@@N@@.Jvm.D
/-! MADE BY PROGRAM (witnessworld.py) out of the Statement's table words and the real class files: 26 classes; the members and pool entries that the words name. The judged class is class 1, her method 3. -/
namespace start1
open Jvm.ClassFile
def u (s : String) : CpInfo := .utf8 (stringToUtf16 s)
/-- a pool by its gaps: so many unusable entries, then the entry; so many at the end -/
def gap : Nat → List CpInfo → List CpInfo
  | 0, r => r
  | n + 1, r => .unusable :: gap n r
def poolList (es : List (Nat × CpInfo)) (last : Nat) : List CpInfo := es.foldr (fun e r => gap e.1 (e.2 :: r)) (gap last [])
def pool (es : List (Nat × CpInfo)) (last : Nat) : Array CpInfo := ⟨poolList es last⟩
def fileOf (pool : Array CpInfo) (this : Nat) (attrs : Array Attribute := #[]) (ms : Array MethodInfo := #[]) (fl : Nat := 33) (sup : Nat := 0) (ifs : Array Nat := #[]) (fds : Array FieldInfo := #[]) : ClassFile where
  minorVersion := 0
  majorVersion := 65
  constantPool := pool
  accessFlags := fl
  thisClass := this
  superClass := sup
  interfaces := ifs
  fields := fds
  methods := ms
  attributes := attrs
def plain (name : String) (sup : Option ClassId) : Class where
  name := name
  kind := .ordinary
  loader := none
  accessFlags := 33
  super := sup
  interfaces := #[]
  cf := none
  fields := #[]
  methods := #[]
  instanceTypes := #[]
  staticTypes := #[]
  resolved := #[]
  callSites := []
  init := .initialized
  statics := none
  mirror := none

def pool0 : Array CpInfo := pool [(5, u "<init>"), (0, u "()V"), (1, .class_ 10), (1, u "java/lang/Object")] 113

def k0c0 : Code := { maxStack := 0, maxLocals := 1, code := object_method_1_code, exceptionTable := #[], attributes := #[] }
def k0m0 : Method := { name := "<init>", desc := "()V", sig := { parameters := [], returnType := none }, accessFlags := 1, code := some k0c0 }
/-- java/lang/Object -/
def k0 : Class := { plain "java/lang/Object" none with
  accessFlags := 33
  interfaces := #[]
  cf := some (fileOf pool0 8 #[] #[{ accessFlags := 1, nameIndex := 5, descriptorIndex := 6, attributes := #[] }] 33 0 #[] #[])
  fields := #[]
  methods := #[k0m0]
  instanceTypes := #[]
  staticTypes := #[]
  resolved := Array.replicate 124 none
  statics := none }

def pool1 : Array CpInfo := pool [(2, .class_ 4), (0, .nameAndType 5 6), (0, u "java/lang/Object"), (0, u "<init>"), (0, u "()V"), (0, .methodref 8 9), (0, .class_ 10), (0, .nameAndType 11 12), (0, u "java/lang/Math"), (0, u "min"), (0, u "(II)I"), (0, .class_ 14), (0, u "java/lang/String"), (0, .methodref 13 16), (0, .nameAndType 5 17), (0, u "([C)V"), (0, .methodref 13 19), (0, .nameAndType 20 21), (0, u "valueOf"), (0, u "(C)Ljava/lang/String;"), (0, .methodref 13 23), (0, .nameAndType 24 25), (0, u "length"), (0, u "()I"), (0, .methodref 13 27), (0, .nameAndType 28 29), (0, u "charAt"), (0, u "(I)C"), (0, .methodref 31 32), (0, .class_ 33), (0, .nameAndType 34 35), (0, u "com/example/nearfield/nearfield/JoinedTextClearPinLaw"), (0, u "mk"), (0, u "(I)Ljava/lang/String;"), (0, .class_ 37), (0, u "com/example/nearfield/nearfield/JoinedText"), (0, .methodref 36 3), (0, .methodref 36 40), (0, .nameAndType 41 42), (0, u "append"), (0, u "(Ljava/lang/String;)V"), (0, .methodref 36 44), (0, .nameAndType 41 45), (0, u "(C)V"), (0, .methodref 36 47), (0, .nameAndType 48 6), (0, u "clear"), (0, .methodref 36 23), (0, .methodref 36 51), (0, .nameAndType 52 53), (0, u "toString"), (0, u "()Ljava/lang/String;"), (0, .methodref 13 55), (0, .nameAndType 56 57), (0, u "isEmpty"), (0, u "()Z"), (0, .methodref 31 59), (0, .nameAndType 60 61), (0, u "same"), (0, u "(Ljava/lang/String;ILjava/lang/String;)Z"), (3, u "law"), (0, u "(IIIIII)Z")] 2

def k1m0 : Method := { name := "<init>", desc := "()V", sig := { parameters := [], returnType := none }, accessFlags := 1, code := none }
def k1c1 : Code := { maxStack := 6, maxLocals := 4, code := method_2_code, exceptionTable := #[], attributes := #[] }
def k1m1 : Method := { name := "mk", desc := "(I)Ljava/lang/String;", sig := { parameters := [.int], returnType := some (.object "java/lang/String") }, accessFlags := 10, code := some k1c1 }
def k1c2 : Code := { maxStack := 3, maxLocals := 4, code := method_3_code, exceptionTable := #[], attributes := #[] }
def k1m2 : Method := { name := "same", desc := "(Ljava/lang/String;ILjava/lang/String;)Z", sig := { parameters := [(.object "java/lang/String"), .int, (.object "java/lang/String")], returnType := some .boolean }, accessFlags := 10, code := some k1c2 }
def k1c3 : Code := { maxStack := 3, maxLocals := 19, code := code, exceptionTable := #[], attributes := #[] }
def k1m3 : Method := { name := "law", desc := "(IIIIII)Z", sig := { parameters := [.int, .int, .int, .int, .int, .int], returnType := some .boolean }, accessFlags := 9, code := some k1c3 }
/-- com/example/nearfield/nearfield/JoinedTextClearPinLaw -/
def k1 : Class := { plain "com/example/nearfield/nearfield/JoinedTextClearPinLaw" (some 0) with
  accessFlags := 49
  interfaces := #[]
  cf := some (fileOf pool1 31 #[] #[{ accessFlags := 1, nameIndex := 5, descriptorIndex := 6, attributes := #[] }, { accessFlags := 10, nameIndex := 34, descriptorIndex := 35, attributes := #[] }, { accessFlags := 10, nameIndex := 60, descriptorIndex := 61, attributes := #[] }, { accessFlags := 9, nameIndex := 65, descriptorIndex := 66, attributes := #[] }] 49 2 #[] #[])
  fields := #[]
  methods := #[k1m0, k1m1, k1m2, k1m3]
  instanceTypes := #[]
  staticTypes := #[]
  resolved := Array.replicate 69 none
  statics := none }

def pool2 : Array CpInfo := pool [(1, .class_ 2), (0, u "java/lang/Math"), (1, .class_ 6), (1, u "java/lang/Object"), (0, u "<init>"), (0, u "()V"), (89, .class_ 100), (1, u "java/lang/Math$RandomNumberGeneratorHolder"), (71, u "negativeZeroFloatBits"), (0, u "J"), (2, u "negativeZeroDoubleBits"), (24, u "min"), (43, u "$assertionsDisabled"), (0, u "Z"), (88, u "(II)I"), (2, u "twoToTheDoubleScaleDown"), (0, u "D"), (4, u "twoToTheDoubleScaleUp"), (9, u "E"), (3, u "PI"), (2, u "TAU"), (2, u "DEGREES_TO_RADIANS"), (0, u "RADIANS_TO_DEGREES")] 94

def k2m0 : Method := { name := "<init>", desc := "()V", sig := { parameters := [], returnType := none }, accessFlags := 2, code := none }
def k2c1 : Code := { maxStack := 2, maxLocals := 2, code := jdk_29_method_69_code, exceptionTable := #[], attributes := #[] }
def k2m1 : Method := { name := "min", desc := "(II)I", sig := { parameters := [.int, .int], returnType := some .int }, accessFlags := 9, code := some k2c1 }
/-- java/lang/Math -/
def k2 : Class := { plain "java/lang/Math" (some 0) with
  accessFlags := 49
  interfaces := #[]
  cf := some (fileOf pool2 1 #[.nestMembers #[98]] #[{ accessFlags := 2, nameIndex := 7, descriptorIndex := 8, attributes := #[] }, { accessFlags := 9, nameIndex := 201, descriptorIndex := 335, attributes := #[] }] 49 4 #[] #[{ accessFlags := 25, nameIndex := 354, descriptorIndex := 339, attributes := #[] }, { accessFlags := 25, nameIndex := 358, descriptorIndex := 339, attributes := #[] }, { accessFlags := 25, nameIndex := 361, descriptorIndex := 339, attributes := #[] }, { accessFlags := 26, nameIndex := 364, descriptorIndex := 339, attributes := #[] }, { accessFlags := 26, nameIndex := 365, descriptorIndex := 339, attributes := #[] }, { accessFlags := 26, nameIndex := 172, descriptorIndex := 173, attributes := #[] }, { accessFlags := 26, nameIndex := 176, descriptorIndex := 173, attributes := #[] }, { accessFlags := 8, nameIndex := 344, descriptorIndex := 339, attributes := #[] }, { accessFlags := 8, nameIndex := 338, descriptorIndex := 339, attributes := #[] }, { accessFlags := 4120, nameIndex := 245, descriptorIndex := 246, attributes := #[] }])
  fields := #[{ name := "E", type := .double, accessFlags := 25, slot := 0, constantValue := 0 }, { name := "PI", type := .double, accessFlags := 25, slot := 1, constantValue := 0 }, { name := "TAU", type := .double, accessFlags := 25, slot := 2, constantValue := 0 }, { name := "DEGREES_TO_RADIANS", type := .double, accessFlags := 26, slot := 3, constantValue := 0 }, { name := "RADIANS_TO_DEGREES", type := .double, accessFlags := 26, slot := 4, constantValue := 0 }, { name := "negativeZeroFloatBits", type := .long, accessFlags := 26, slot := 5, constantValue := 0 }, { name := "negativeZeroDoubleBits", type := .long, accessFlags := 26, slot := 6, constantValue := 0 }, { name := "twoToTheDoubleScaleUp", type := .double, accessFlags := 8, slot := 7, constantValue := 0 }, { name := "twoToTheDoubleScaleDown", type := .double, accessFlags := 8, slot := 8, constantValue := 0 }, { name := "$assertionsDisabled", type := .boolean, accessFlags := 4120, slot := 9, constantValue := 0 }]
  methods := #[k2m0, k2m1]
  instanceTypes := #[]
  staticTypes := #[.double, .double, .double, .double, .double, .long, .long, .double, .double, .boolean]
  resolved := Array.replicate 460 none
  statics := none }

def pool3 : Array CpInfo := pool [(1, .class_ 2), (0, u "java/io/Serializable"), (0, .class_ 4), (0, u "java/lang/Object")] 2

/-- java/io/Serializable -/
def k3 : Class := { plain "java/io/Serializable" (some 0) with
  accessFlags := 1537
  interfaces := #[]
  cf := some (fileOf pool3 1 #[] #[] 1537 3 #[] #[])
  fields := #[]
  methods := #[]
  instanceTypes := #[]
  staticTypes := #[]
  resolved := Array.replicate 7 none
  statics := none }

def pool4 : Array CpInfo := pool [(1, .class_ 2), (0, u "java/lang/Comparable"), (0, .class_ 4), (0, u "java/lang/Object")] 7

/-- java/lang/Comparable -/
def k4 : Class := { plain "java/lang/Comparable" (some 0) with
  accessFlags := 1537
  interfaces := #[]
  cf := some (fileOf pool4 1 #[] #[] 1537 3 #[] #[])
  fields := #[]
  methods := #[]
  instanceTypes := #[]
  staticTypes := #[]
  resolved := Array.replicate 12 none
  statics := none }

def pool5 : Array CpInfo := pool [(2, .class_ 4), (1, u "java/lang/CharSequence"), (42, .class_ 48), (0, u "java/lang/CharSequence$1CodePointIterator"), (10, .class_ 60), (0, u "java/lang/CharSequence$1CharIterator"), (5, .class_ 67), (0, u "java/lang/Object")] 63

/-- java/lang/CharSequence -/
def k5 : Class := { plain "java/lang/CharSequence" (some 0) with
  accessFlags := 1537
  interfaces := #[]
  cf := some (fileOf pool5 2 #[.nestMembers #[47, 59]] #[] 1537 66 #[] #[])
  fields := #[]
  methods := #[]
  instanceTypes := #[]
  staticTypes := #[]
  resolved := Array.replicate 131 none
  statics := none }

def pool6 : Array CpInfo := pool [(1, .class_ 2), (0, u "java/lang/constant/Constable"), (0, .class_ 4), (0, u "java/lang/Object")] 6

/-- java/lang/constant/Constable -/
def k6 : Class := { plain "java/lang/constant/Constable" (some 0) with
  accessFlags := 1537
  interfaces := #[]
  cf := some (fileOf pool6 1 #[] #[] 1537 3 #[] #[])
  fields := #[]
  methods := #[]
  instanceTypes := #[]
  staticTypes := #[]
  resolved := Array.replicate 11 none
  statics := none }

def pool7 : Array CpInfo := pool [(1, .class_ 2), (0, u "java/lang/constant/ConstantDesc"), (0, .class_ 4), (0, u "java/lang/Object")] 32

/-- java/lang/constant/ConstantDesc -/
def k7 : Class := { plain "java/lang/constant/ConstantDesc" (some 0) with
  accessFlags := 1537
  interfaces := #[]
  cf := some (fileOf pool7 1 #[] #[] 1537 3 #[] #[])
  fields := #[]
  methods := #[]
  instanceTypes := #[]
  staticTypes := #[]
  resolved := Array.replicate 37 none
  statics := none }

def pool8 : Array CpInfo := pool [(1, .methodref 2 3), (0, .class_ 4), (0, .nameAndType 5 6), (0, u "java/lang/Object"), (0, u "<init>"), (0, u "()V"), (0, .string 8), (0, u ""), (0, .fieldref 10 11), (0, .class_ 12), (0, .nameAndType 13 14), (0, u "java/lang/String"), (0, u "value"), (0, u "[B"), (0, .fieldref 10 16), (0, .nameAndType 17 18), (0, u "coder"), (0, u "B"), (2, u "hash"), (0, u "I"), (2, u "hashIsZero"), (0, u "Z"), (0, .methodref 10 28), (0, .nameAndType 5 29), (0, u "([CIILjava/lang/Void;)V"), (8, .fieldref 10 39), (0, .nameAndType 40 26), (0, u "COMPACT_STRINGS"), (1, .class_ 44), (1, u "java/lang/StringUTF16"), (0, u "compress"), (1, .methodref 42 48), (0, .nameAndType 49 50), (0, u "coderFromArrayLen"), (0, u "([BI)B"), (2, u "toBytes"), (0, .methodref 55 56), (0, .class_ 57), (0, .nameAndType 58 59), (0, u "java/util/Arrays"), (0, u "copyOfRange"), (0, u "([BII)[B"), (47, .class_ 109), (1, u "java/lang/StringLatin1"), (32, u "()Z"), (34, .methodref 42 178), (0, .nameAndType 45 179), (0, u "([CII)[B"), (13, .class_ 195), (1, u "java/lang/System"), (13, .methodref 10 210), (0, .nameAndType 5 211), (0, u "([BB)V"), (0, .methodref 193 213), (0, .nameAndType 214 215), (0, u "arraycopy"), (0, u "(Ljava/lang/Object;ILjava/lang/Object;II)V"), (118, u "()I"), (0, .methodref 10 336), (0, .nameAndType 17 337), (0, u "()B"), (2, u "()[B"), (22, u "([BI)C"), (5, u "(C)Z"), (21, u "(II)V"), (35, u "(I)C"), (61, .methodref 10 490), (0, .nameAndType 5 491), (0, u "(Ljava/lang/AbstractStringBuilder;Ljava/lang/Void;)V"), (0, .methodref 10 493), (0, .nameAndType 494 142), (0, u "isLatin1"), (0, .methodref 107 496), (0, .nameAndType 497 363), (0, u "charAt"), (3, u "checkIndex"), (4, .nameAndType 507 334), (0, u "length"), (24, u "getBytes"), (16, .methodref 550 506), (0, .class_ 551), (0, u "java/lang/AbstractStringBuilder"), (0, .methodref 550 553), (0, .nameAndType 554 340), (0, u "getValue"), (20, .class_ 576), (0, u "java/lang/CharSequence"), (22, u "CASE_INSENSITIVE_ORDER"), (0, u "Ljava/util/Comparator;"), (91, u "isEmpty"), (89, u "valueOf"), (0, u "(C)Ljava/lang/String;"), (37, u "([BIB)V"), (188, u "([C)V"), (4, .methodref 107 1016), (0, .nameAndType 1017 369), (0, u "canEncode"), (0, .methodref 107 1019), (0, .nameAndType 53 1020), (0, u "(C)[B"), (26, .methodref 550 493), (5, .fieldref 1054 1055), (0, .class_ 1056), (0, .nameAndType 1057 1058), (0, u "jdk/internal/util/Preconditions"), (0, u "SIOOBE_FORMATTER"), (0, u "Ljava/util/function/BiFunction;"), (0, .methodref 1054 1060), (0, .nameAndType 501 1061), (0, u "(IILjava/util/function/BiFunction;)I"), (39, u "serialPersistentFields"), (0, u "[Ljava/io/ObjectStreamField;"), (0, .class_ 1104), (0, u "java/lang/String$CaseInsensitiveComparator"), (1, .class_ 1107), (0, u "java/io/Serializable"), (0, .class_ 1109), (0, u "java/lang/Comparable"), (0, .class_ 1111), (0, u "java/lang/constant/Constable"), (0, .class_ 1113), (0, u "java/lang/constant/ConstantDesc"), (2, u "serialVersionUID"), (0, u "J"), (3, u "REPL"), (0, u "C"), (2, u "LATIN1"), (1, u "UTF16"), (105, u "(Ljava/lang/StringBuilder;)V")] 217

def k8m0 : Method := { name := "<init>", desc := "()V", sig := { parameters := [], returnType := none }, accessFlags := 1, code := none }
def k8c1 : Code := { maxStack := 5, maxLocals := 2, code := jdk_42_method_3_code, exceptionTable := #[], attributes := #[] }
def k8m1 : Method := { name := "<init>", desc := "([C)V", sig := { parameters := [(.array .char)], returnType := none }, accessFlags := 1, code := some k8c1 }
def k8c2 : Code := { maxStack := 3, maxLocals := 2, code := jdk_42_method_53_code, exceptionTable := #[], attributes := #[] }
def k8m2 : Method := { name := "<init>", desc := "(Ljava/lang/StringBuilder;)V", sig := { parameters := [(.object "java/lang/StringBuilder")], returnType := none }, accessFlags := 1, code := some k8c2 }
def k8c3 : Code := { maxStack := 2, maxLocals := 1, code := jdk_42_method_54_code, exceptionTable := #[], attributes := #[] }
def k8m3 : Method := { name := "length", desc := "()I", sig := { parameters := [], returnType := some .int }, accessFlags := 1, code := some k8c3 }
def k8c4 : Code := { maxStack := 1, maxLocals := 1, code := jdk_42_method_55_code, exceptionTable := #[], attributes := #[] }
def k8m4 : Method := { name := "isEmpty", desc := "()Z", sig := { parameters := [], returnType := some .boolean }, accessFlags := 1, code := some k8c4 }
def k8c5 : Code := { maxStack := 2, maxLocals := 2, code := jdk_42_method_56_code, exceptionTable := #[], attributes := #[] }
def k8m5 : Method := { name := "charAt", desc := "(I)C", sig := { parameters := [.int], returnType := some .char }, accessFlags := 1, code := some k8c5 }
def k8c6 : Code := { maxStack := 4, maxLocals := 1, code := jdk_42_method_139_code, exceptionTable := #[], attributes := #[] }
def k8m6 : Method := { name := "valueOf", desc := "(C)Ljava/lang/String;", sig := { parameters := [.char], returnType := some (.object "java/lang/String") }, accessFlags := 9, code := some k8c6 }
def k8c7 : Code := { maxStack := 5, maxLocals := 4, code := jdk_42_method_147_code, exceptionTable := #[], attributes := #[] }
def k8m7 : Method := { name := "getBytes", desc := "([BIB)V", sig := { parameters := [(.array .byte), .int, .byte], returnType := none }, accessFlags := 0, code := some k8c7 }
def k8c8 : Code := { maxStack := 4, maxLocals := 6, code := jdk_42_method_149_code, exceptionTable := #[], attributes := #[] }
def k8m8 : Method := { name := "<init>", desc := "([CIILjava/lang/Void;)V", sig := { parameters := [(.array .char), .int, .int, (.object "java/lang/Void")], returnType := none }, accessFlags := 2, code := some k8c8 }
def k8c9 : Code := { maxStack := 5, maxLocals := 5, code := jdk_42_method_150_code, exceptionTable := #[], attributes := #[] }
def k8m9 : Method := { name := "<init>", desc := "(Ljava/lang/AbstractStringBuilder;Ljava/lang/Void;)V", sig := { parameters := [(.object "java/lang/AbstractStringBuilder"), (.object "java/lang/Void")], returnType := none }, accessFlags := 0, code := some k8c9 }
def k8c10 : Code := { maxStack := 2, maxLocals := 3, code := jdk_42_method_151_code, exceptionTable := #[], attributes := #[] }
def k8m10 : Method := { name := "<init>", desc := "([BB)V", sig := { parameters := [(.array .byte), .byte], returnType := none }, accessFlags := 0, code := some k8c10 }
def k8c11 : Code := { maxStack := 1, maxLocals := 1, code := jdk_42_method_152_code, exceptionTable := #[], attributes := #[] }
def k8m11 : Method := { name := "coder", desc := "()B", sig := { parameters := [], returnType := some .byte }, accessFlags := 0, code := some k8c11 }
def k8c12 : Code := { maxStack := 1, maxLocals := 1, code := jdk_42_method_154_code, exceptionTable := #[], attributes := #[] }
def k8m12 : Method := { name := "isLatin1", desc := "()Z", sig := { parameters := [], returnType := some .boolean }, accessFlags := 0, code := some k8c12 }
def k8c13 : Code := { maxStack := 3, maxLocals := 2, code := jdk_42_method_155_code, exceptionTable := #[], attributes := #[] }
def k8m13 : Method := { name := "checkIndex", desc := "(II)V", sig := { parameters := [.int, .int], returnType := none }, accessFlags := 8, code := some k8c13 }
/-- java/lang/String -/
def k8 : Class := { plain "java/lang/String" (some 0) with
  accessFlags := 49
  interfaces := #[3, 4, 5, 6, 7]
  cf := some (fileOf pool8 10 #[.nestMembers #[1103]] #[{ accessFlags := 1, nameIndex := 5, descriptorIndex := 6, attributes := #[] }, { accessFlags := 1, nameIndex := 5, descriptorIndex := 1010, attributes := #[] }, { accessFlags := 1, nameIndex := 5, descriptorIndex := 1233, attributes := #[] }, { accessFlags := 1, nameIndex := 507, descriptorIndex := 334, attributes := #[] }, { accessFlags := 1, nameIndex := 692, descriptorIndex := 142, attributes := #[] }, { accessFlags := 1, nameIndex := 497, descriptorIndex := 427, attributes := #[] }, { accessFlags := 9, nameIndex := 782, descriptorIndex := 783, attributes := #[] }, { accessFlags := 0, nameIndex := 532, descriptorIndex := 821, attributes := #[] }, { accessFlags := 2, nameIndex := 5, descriptorIndex := 29, attributes := #[] }, { accessFlags := 0, nameIndex := 5, descriptorIndex := 491, attributes := #[] }, { accessFlags := 0, nameIndex := 5, descriptorIndex := 211, attributes := #[] }, { accessFlags := 0, nameIndex := 17, descriptorIndex := 337, attributes := #[] }, { accessFlags := 0, nameIndex := 494, descriptorIndex := 142, attributes := #[] }, { accessFlags := 8, nameIndex := 501, descriptorIndex := 391, attributes := #[] }] 49 2 #[1106, 1108, 575, 1110, 1112] #[{ accessFlags := 18, nameIndex := 13, descriptorIndex := 14, attributes := #[] }, { accessFlags := 18, nameIndex := 17, descriptorIndex := 18, attributes := #[] }, { accessFlags := 2, nameIndex := 21, descriptorIndex := 22, attributes := #[] }, { accessFlags := 2, nameIndex := 25, descriptorIndex := 26, attributes := #[] }, { accessFlags := 26, nameIndex := 1116, descriptorIndex := 1117, attributes := #[] }, { accessFlags := 24, nameIndex := 40, descriptorIndex := 26, attributes := #[] }, { accessFlags := 26, nameIndex := 1101, descriptorIndex := 1102, attributes := #[] }, { accessFlags := 26, nameIndex := 1121, descriptorIndex := 1122, attributes := #[] }, { accessFlags := 25, nameIndex := 599, descriptorIndex := 600, attributes := #[] }, { accessFlags := 24, nameIndex := 1125, descriptorIndex := 18, attributes := #[] }, { accessFlags := 24, nameIndex := 1127, descriptorIndex := 18, attributes := #[] }])
  fields := #[{ name := "value", type := (.array .byte), accessFlags := 18, slot := 0, constantValue := 0 }, { name := "coder", type := .byte, accessFlags := 18, slot := 1, constantValue := 0 }, { name := "hash", type := .int, accessFlags := 2, slot := 2, constantValue := 0 }, { name := "hashIsZero", type := .boolean, accessFlags := 2, slot := 3, constantValue := 0 }, { name := "serialVersionUID", type := .long, accessFlags := 26, slot := 0, constantValue := 0 }, { name := "COMPACT_STRINGS", type := .boolean, accessFlags := 24, slot := 1, constantValue := 0 }, { name := "serialPersistentFields", type := (.array (.object "java/io/ObjectStreamField")), accessFlags := 26, slot := 2, constantValue := 0 }, { name := "REPL", type := .char, accessFlags := 26, slot := 3, constantValue := 0 }, { name := "CASE_INSENSITIVE_ORDER", type := (.object "java/util/Comparator"), accessFlags := 25, slot := 4, constantValue := 0 }, { name := "LATIN1", type := .byte, accessFlags := 24, slot := 5, constantValue := 0 }, { name := "UTF16", type := .byte, accessFlags := 24, slot := 6, constantValue := 0 }]
  methods := #[k8m0, k8m1, k8m2, k8m3, k8m4, k8m5, k8m6, k8m7, k8m8, k8m9, k8m10, k8m11, k8m12, k8m13]
  instanceTypes := #[(.array .byte), .byte, .int, .boolean]
  staticTypes := #[.long, .boolean, (.array (.object "java/io/ObjectStreamField")), .char, (.object "java/util/Comparator"), .byte, .byte]
  resolved := Array.replicate 1451 none
  statics := some 0 }

def pool9 : Array CpInfo := pool [(1, .methodref 2 3), (0, .class_ 4), (0, .nameAndType 5 6), (0, u "java/lang/Object"), (0, u "<init>"), (0, u "()V"), (0, .string 8), (0, u ""), (0, .fieldref 10 11), (0, .class_ 12), (0, .nameAndType 13 14), (0, u "com/example/nearfield/nearfield/JoinedText"), (0, u "piece"), (0, u "Ljava/lang/String;"), (0, .fieldref 10 16), (0, .nameAndType 17 18), (0, u "joined"), (0, u "Z"), (0, .fieldref 10 20), (0, .nameAndType 21 22), (0, u "pieces"), (0, u "Ljava/lang/StringBuilder;"), (0, .methodref 24 25), (0, .class_ 26), (0, .nameAndType 27 28), (0, u "java/lang/StringBuilder"), (0, u "append"), (0, u "(Ljava/lang/String;)Ljava/lang/StringBuilder;"), (0, .methodref 30 31), (0, .class_ 32), (0, .nameAndType 33 34), (0, u "java/lang/String"), (0, u "isEmpty"), (0, u "()Z"), (0, .methodref 10 36), (0, .nameAndType 37 38), (0, u "join"), (0, u "()Ljava/lang/StringBuilder;"), (0, .methodref 24 40), (0, .nameAndType 27 41), (0, u "(C)Ljava/lang/StringBuilder;"), (0, .methodref 24 43), (0, .nameAndType 44 45), (0, u "length"), (0, u "()I"), (0, .methodref 30 43), (0, .methodref 24 48), (0, .nameAndType 49 50), (0, u "toString"), (0, u "()Ljava/lang/String;"), (0, .methodref 24 3), (0, .methodref 24 53), (0, .nameAndType 54 55), (0, u "setLength"), (0, u "(I)V"), (2, u "(Ljava/lang/String;)V"), (1, u "(C)V"), (0, u "clear")] 2

def k9c0 : Code := { maxStack := 2, maxLocals := 1, code := prog_12_method_1_code, exceptionTable := #[], attributes := #[] }
def k9m0 : Method := { name := "<init>", desc := "()V", sig := { parameters := [], returnType := none }, accessFlags := 0, code := some k9c0 }
def k9c1 : Code := { maxStack := 2, maxLocals := 2, code := prog_12_method_2_code, exceptionTable := #[], attributes := #[] }
def k9m1 : Method := { name := "append", desc := "(Ljava/lang/String;)V", sig := { parameters := [(.object "java/lang/String")], returnType := none }, accessFlags := 0, code := some k9c1 }
def k9c2 : Code := { maxStack := 2, maxLocals := 2, code := prog_12_method_3_code, exceptionTable := #[], attributes := #[] }
def k9m2 : Method := { name := "append", desc := "(C)V", sig := { parameters := [.char], returnType := none }, accessFlags := 0, code := some k9c2 }
def k9c3 : Code := { maxStack := 1, maxLocals := 1, code := prog_12_method_4_code, exceptionTable := #[], attributes := #[] }
def k9m3 : Method := { name := "length", desc := "()I", sig := { parameters := [], returnType := some .int }, accessFlags := 0, code := some k9c3 }
def k9c4 : Code := { maxStack := 2, maxLocals := 1, code := prog_12_method_5_code, exceptionTable := #[], attributes := #[] }
def k9m4 : Method := { name := "clear", desc := "()V", sig := { parameters := [], returnType := none }, accessFlags := 0, code := some k9c4 }
def k9c5 : Code := { maxStack := 1, maxLocals := 1, code := prog_12_method_6_code, exceptionTable := #[], attributes := #[] }
def k9m5 : Method := { name := "toString", desc := "()Ljava/lang/String;", sig := { parameters := [], returnType := some (.object "java/lang/String") }, accessFlags := 1, code := some k9c5 }
def k9c6 : Code := { maxStack := 3, maxLocals := 1, code := prog_12_method_7_code, exceptionTable := #[], attributes := #[] }
def k9m6 : Method := { name := "join", desc := "()Ljava/lang/StringBuilder;", sig := { parameters := [], returnType := some (.object "java/lang/StringBuilder") }, accessFlags := 2, code := some k9c6 }
/-- com/example/nearfield/nearfield/JoinedText -/
def k9 : Class := { plain "com/example/nearfield/nearfield/JoinedText" (some 0) with
  accessFlags := 48
  interfaces := #[]
  cf := some (fileOf pool9 10 #[] #[{ accessFlags := 0, nameIndex := 5, descriptorIndex := 6, attributes := #[] }, { accessFlags := 0, nameIndex := 27, descriptorIndex := 58, attributes := #[] }, { accessFlags := 0, nameIndex := 27, descriptorIndex := 60, attributes := #[] }, { accessFlags := 0, nameIndex := 44, descriptorIndex := 45, attributes := #[] }, { accessFlags := 0, nameIndex := 61, descriptorIndex := 6, attributes := #[] }, { accessFlags := 1, nameIndex := 49, descriptorIndex := 50, attributes := #[] }, { accessFlags := 2, nameIndex := 37, descriptorIndex := 38, attributes := #[] }] 48 2 #[] #[{ accessFlags := 2, nameIndex := 13, descriptorIndex := 14, attributes := #[] }, { accessFlags := 2, nameIndex := 21, descriptorIndex := 22, attributes := #[] }, { accessFlags := 2, nameIndex := 17, descriptorIndex := 18, attributes := #[] }])
  fields := #[{ name := "piece", type := (.object "java/lang/String"), accessFlags := 2, slot := 0, constantValue := 0 }, { name := "pieces", type := (.object "java/lang/StringBuilder"), accessFlags := 2, slot := 1, constantValue := 0 }, { name := "joined", type := .boolean, accessFlags := 2, slot := 2, constantValue := 0 }]
  methods := #[k9m0, k9m1, k9m2, k9m3, k9m4, k9m5, k9m6]
  instanceTypes := #[(.object "java/lang/String"), (.object "java/lang/StringBuilder"), .boolean]
  staticTypes := #[]
  resolved := Array.replicate 64 none
  statics := none }

def pool10 : Array CpInfo := pool [(1, .class_ 2), (0, u "java/lang/Appendable"), (0, .class_ 4), (0, u "java/lang/Object")] 9

/-- java/lang/Appendable -/
def k10 : Class := { plain "java/lang/Appendable" (some 0) with
  accessFlags := 1537
  interfaces := #[]
  cf := some (fileOf pool10 1 #[] #[] 1537 3 #[] #[])
  fields := #[]
  methods := #[]
  instanceTypes := #[]
  staticTypes := #[]
  resolved := Array.replicate 14 none
  statics := none }

def pool11 : Array CpInfo := pool [(1, .class_ 2), (0, u "java/lang/String"), (0, .methodref 4 5), (0, .class_ 6), (0, .nameAndType 7 8), (0, u "java/lang/Object"), (0, u "<init>"), (0, u "()V"), (1, .class_ 12), (1, u "java/lang/AbstractStringBuilder"), (0, u "EMPTYVALUE"), (0, u "[B"), (0, .fieldref 10 16), (0, .nameAndType 17 14), (0, u "value"), (0, .fieldref 1 19), (0, .nameAndType 20 21), (0, u "COMPACT_STRINGS"), (0, u "Z"), (0, .fieldref 10 23), (0, .nameAndType 24 25), (0, u "coder"), (0, u "B"), (6, .methodref 1 33), (0, .nameAndType 34 35), (0, u "length"), (0, u "()I"), (4, .methodref 1 41), (0, .nameAndType 24 42), (0, u "()B"), (2, u "append"), (0, u "(Ljava/lang/String;)Ljava/lang/AbstractStringBuilder;"), (1, .class_ 49), (0, u "java/lang/CharSequence"), (19, u "(Ljava/lang/String;)V"), (3, .fieldref 10 74), (0, .nameAndType 75 21), (0, u "maybeLatin1"), (3, .fieldref 10 80), (0, .nameAndType 81 82), (0, u "count"), (0, u "I"), (0, .methodref 10 84), (0, .nameAndType 85 86), (0, u "isLatin1"), (0, u "()Z"), (1, .class_ 90), (1, u "java/lang/StringLatin1"), (9, .methodref 10 101), (0, .nameAndType 102 103), (0, u "ensureCapacityInternal"), (0, u "(I)V"), (87, .methodref 88 192), (0, .nameAndType 193 194), (0, u "canEncode"), (0, u "(C)Z"), (13, .methodref 10 209), (0, .nameAndType 210 211), (0, u "putStringAt"), (0, u "(ILjava/lang/String;)V"), (5, u "inflateIfNeededFor"), (2, .nameAndType 221 222), (0, u "getBytes"), (0, u "([BIB)V"), (69, u "(C)Ljava/lang/AbstractStringBuilder;"), (104, .methodref 10 398), (0, .nameAndType 217 69), (0, .methodref 1 220), (3, u "()[B"), (40, .class_ 445), (0, u "java/lang/Appendable"), (30, u "setLength"), (75, u "getValue")] 56

def k11m0 : Method := { name := "<init>", desc := "()V", sig := { parameters := [], returnType := none }, accessFlags := 0, code := none }
def k11c1 : Code := { maxStack := 2, maxLocals := 2, code := jdk_68_method_2_code, exceptionTable := #[], attributes := #[] }
def k11m1 : Method := { name := "<init>", desc := "(I)V", sig := { parameters := [.int], returnType := none }, accessFlags := 0, code := some k11c1 }
def k11c2 : Code := { maxStack := 1, maxLocals := 1, code := jdk_68_method_6_code, exceptionTable := #[], attributes := #[] }
def k11m2 : Method := { name := "length", desc := "()I", sig := { parameters := [], returnType := some .int }, accessFlags := 1, code := some k11c2 }
def k11c3 : Code := { maxStack := 4, maxLocals := 3, code := jdk_68_method_9_code, exceptionTable := #[], attributes := #[] }
def k11m3 : Method := { name := "ensureCapacityInternal", desc := "(I)V", sig := { parameters := [.int], returnType := none }, accessFlags := 2, code := some k11c3 }
def k11c4 : Code := { maxStack := 3, maxLocals := 2, code := jdk_68_method_13_code, exceptionTable := #[], attributes := #[] }
def k11m4 : Method := { name := "setLength", desc := "(I)V", sig := { parameters := [.int], returnType := none }, accessFlags := 1, code := some k11c4 }
def k11c5 : Code := { maxStack := 3, maxLocals := 3, code := jdk_68_method_22_code, exceptionTable := #[], attributes := #[] }
def k11m5 : Method := { name := "append", desc := "(Ljava/lang/String;)Ljava/lang/AbstractStringBuilder;", sig := { parameters := [(.object "java/lang/String")], returnType := some (.object "java/lang/AbstractStringBuilder") }, accessFlags := 1, code := some k11c5 }
def k11c6 : Code := { maxStack := 5, maxLocals := 2, code := jdk_68_method_31_code, exceptionTable := #[], attributes := #[] }
def k11m6 : Method := { name := "append", desc := "(C)Ljava/lang/AbstractStringBuilder;", sig := { parameters := [.char], returnType := some (.object "java/lang/AbstractStringBuilder") }, accessFlags := 1, code := some k11c6 }
def k11c7 : Code := { maxStack := 1, maxLocals := 1, code := jdk_68_method_64_code, exceptionTable := #[], attributes := #[] }
def k11m7 : Method := { name := "getValue", desc := "()[B", sig := { parameters := [], returnType := some (.array .byte) }, accessFlags := 16, code := some k11c7 }
def k11c8 : Code := { maxStack := 1, maxLocals := 1, code := jdk_68_method_68_code, exceptionTable := #[], attributes := #[] }
def k11m8 : Method := { name := "isLatin1", desc := "()Z", sig := { parameters := [], returnType := some .boolean }, accessFlags := 16, code := some k11c8 }
def k11c9 : Code := { maxStack := 2, maxLocals := 2, code := jdk_68_method_71_code, exceptionTable := #[], attributes := #[] }
def k11m9 : Method := { name := "inflateIfNeededFor", desc := "(Ljava/lang/String;)V", sig := { parameters := [(.object "java/lang/String")], returnType := none }, accessFlags := 2, code := some k11c9 }
def k11c10 : Code := { maxStack := 4, maxLocals := 3, code := jdk_68_method_73_code, exceptionTable := #[], attributes := #[] }
def k11m10 : Method := { name := "putStringAt", desc := "(ILjava/lang/String;)V", sig := { parameters := [.int, (.object "java/lang/String")], returnType := none }, accessFlags := 2, code := some k11c10 }
/-- java/lang/AbstractStringBuilder -/
def k11 : Class := { plain "java/lang/AbstractStringBuilder" (some 0) with
  accessFlags := 1056
  interfaces := #[10, 5]
  cf := some (fileOf pool11 10 #[] #[{ accessFlags := 0, nameIndex := 7, descriptorIndex := 8, attributes := #[] }, { accessFlags := 0, nameIndex := 7, descriptorIndex := 103, attributes := #[] }, { accessFlags := 1, nameIndex := 34, descriptorIndex := 35, attributes := #[] }, { accessFlags := 2, nameIndex := 102, descriptorIndex := 103, attributes := #[] }, { accessFlags := 1, nameIndex := 476, descriptorIndex := 103, attributes := #[] }, { accessFlags := 1, nameIndex := 45, descriptorIndex := 46, attributes := #[] }, { accessFlags := 1, nameIndex := 45, descriptorIndex := 292, attributes := #[] }, { accessFlags := 16, nameIndex := 552, descriptorIndex := 403, attributes := #[] }, { accessFlags := 16, nameIndex := 85, descriptorIndex := 86, attributes := #[] }, { accessFlags := 2, nameIndex := 217, descriptorIndex := 69, attributes := #[] }, { accessFlags := 2, nameIndex := 210, descriptorIndex := 211, attributes := #[] }] 1056 4 #[444, 48] #[{ accessFlags := 0, nameIndex := 17, descriptorIndex := 14, attributes := #[] }, { accessFlags := 0, nameIndex := 24, descriptorIndex := 25, attributes := #[] }, { accessFlags := 0, nameIndex := 75, descriptorIndex := 21, attributes := #[] }, { accessFlags := 0, nameIndex := 81, descriptorIndex := 82, attributes := #[] }, { accessFlags := 26, nameIndex := 13, descriptorIndex := 14, attributes := #[] }])
  fields := #[{ name := "value", type := (.array .byte), accessFlags := 0, slot := 0, constantValue := 0 }, { name := "coder", type := .byte, accessFlags := 0, slot := 1, constantValue := 0 }, { name := "maybeLatin1", type := .boolean, accessFlags := 0, slot := 2, constantValue := 0 }, { name := "count", type := .int, accessFlags := 0, slot := 3, constantValue := 0 }, { name := "EMPTYVALUE", type := (.array .byte), accessFlags := 26, slot := 0, constantValue := 0 }]
  methods := #[k11m0, k11m1, k11m2, k11m3, k11m4, k11m5, k11m6, k11m7, k11m8, k11m9, k11m10]
  instanceTypes := #[(.array .byte), .byte, .boolean, .int]
  staticTypes := #[(.array .byte)]
  resolved := Array.replicate 609 none
  statics := none }

def pool12 : Array CpInfo := pool [(1, .methodref 2 3), (0, .class_ 4), (0, .nameAndType 5 6), (0, u "java/lang/AbstractStringBuilder"), (0, u "<init>"), (0, u "(I)V"), (11, .class_ 20), (1, u "java/lang/String"), (3, .class_ 26), (1, u "java/lang/StringBuilder"), (0, u "append"), (0, u "(Ljava/lang/String;)Ljava/lang/StringBuilder;"), (0, .methodref 2 30), (0, .nameAndType 27 31), (0, u "(Ljava/lang/String;)Ljava/lang/AbstractStringBuilder;"), (18, .methodref 2 51), (0, .nameAndType 27 52), (0, u "(C)Ljava/lang/AbstractStringBuilder;"), (84, .methodref 18 138), (0, .nameAndType 5 139), (0, u "(Ljava/lang/StringBuilder;)V"), (5, u "()V"), (10, u "()I"), (129, u "(C)Ljava/lang/StringBuilder;"), (46, .methodref 2 334), (0, .nameAndType 335 6), (0, u "setLength"), (7, .methodref 2 344), (0, .nameAndType 345 156), (0, u "length"), (3, .class_ 350), (0, u "java/lang/Appendable"), (0, .class_ 352), (0, u "java/io/Serializable"), (0, .class_ 354), (0, u "java/lang/Comparable"), (0, .class_ 356), (0, u "java/lang/CharSequence"), (0, u "serialVersionUID"), (0, u "J"), (40, u "toString"), (0, u "()Ljava/lang/String;")] 21

def k12c0 : Code := { maxStack := 2, maxLocals := 1, code := jdk_67_method_1_code, exceptionTable := #[], attributes := #[] }
def k12m0 : Method := { name := "<init>", desc := "()V", sig := { parameters := [], returnType := none }, accessFlags := 1, code := some k12c0 }
def k12c1 : Code := { maxStack := 2, maxLocals := 2, code := jdk_67_method_7_code, exceptionTable := #[], attributes := #[] }
def k12m1 : Method := { name := "append", desc := "(Ljava/lang/String;)Ljava/lang/StringBuilder;", sig := { parameters := [(.object "java/lang/String")], returnType := some (.object "java/lang/StringBuilder") }, accessFlags := 1, code := some k12c1 }
def k12c2 : Code := { maxStack := 2, maxLocals := 2, code := jdk_67_method_14_code, exceptionTable := #[], attributes := #[] }
def k12m2 : Method := { name := "append", desc := "(C)Ljava/lang/StringBuilder;", sig := { parameters := [.char], returnType := some (.object "java/lang/StringBuilder") }, accessFlags := 1, code := some k12c2 }
def k12c3 : Code := { maxStack := 3, maxLocals := 1, code := jdk_67_method_42_code, exceptionTable := #[], attributes := #[] }
def k12m3 : Method := { name := "toString", desc := "()Ljava/lang/String;", sig := { parameters := [], returnType := some (.object "java/lang/String") }, accessFlags := 1, code := some k12c3 }
def k12c4 : Code := { maxStack := 2, maxLocals := 2, code := jdk_67_method_89_code, exceptionTable := #[], attributes := #[] }
def k12m4 : Method := { name := "setLength", desc := "(I)V", sig := { parameters := [.int], returnType := none }, accessFlags := 4161, code := some k12c4 }
def k12c5 : Code := { maxStack := 1, maxLocals := 1, code := jdk_67_method_93_code, exceptionTable := #[], attributes := #[] }
def k12m5 : Method := { name := "length", desc := "()I", sig := { parameters := [], returnType := some .int }, accessFlags := 4161, code := some k12c5 }
/-- java/lang/StringBuilder -/
def k12 : Class := { plain "java/lang/StringBuilder" (some 11) with
  accessFlags := 49
  interfaces := #[10, 3, 4, 5]
  cf := some (fileOf pool12 24 #[] #[{ accessFlags := 1, nameIndex := 5, descriptorIndex := 145, attributes := #[] }, { accessFlags := 1, nameIndex := 27, descriptorIndex := 28, attributes := #[] }, { accessFlags := 1, nameIndex := 27, descriptorIndex := 286, attributes := #[] }, { accessFlags := 1, nameIndex := 399, descriptorIndex := 400, attributes := #[] }, { accessFlags := 4161, nameIndex := 335, descriptorIndex := 6, attributes := #[] }, { accessFlags := 4161, nameIndex := 345, descriptorIndex := 156, attributes := #[] }] 49 2 #[349, 351, 353, 355] #[{ accessFlags := 24, nameIndex := 357, descriptorIndex := 358, attributes := #[] }])
  fields := #[{ name := "serialVersionUID", type := .long, accessFlags := 24, slot := 0, constantValue := 0 }]
  methods := #[k12m0, k12m1, k12m2, k12m3, k12m4, k12m5]
  instanceTypes := #[(.array .byte), .byte, .boolean, .int]
  staticTypes := #[.long]
  resolved := Array.replicate 422 none
  statics := none }

def pool13 : Array CpInfo := pool [(2, .class_ 4), (1, u "java/lang/Object"), (0, u "<init>"), (0, u "()V"), (1, .class_ 10), (1, u "java/lang/System"), (0, u "allowSecurityManager"), (0, u "I"), (16, u "cons"), (0, u "Ljava/io/Console;"), (77, .class_ 110), (1, u "java/lang/System$CallersHolder"), (43, u "initialErrStream"), (0, u "Ljava/io/PrintStream;"), (19, u "security"), (0, u "Ljava/lang/SecurityManager;"), (31, .class_ 209), (0, u "java/lang/System$1"), (7, u "props"), (0, u "Ljava/util/Properties;"), (2, u "lineSeparator"), (0, u "Ljava/lang/String;"), (96, .class_ 321), (1, u "java/lang/System$LoggerFinder"), (5, .class_ 328), (0, u "java/lang/System$Logger"), (67, u "err"), (2, u "out"), (91, u "notSupportedJnuEncoding"), (15, u "in"), (17, u "initialIn"), (0, u "Ljava/io/InputStream;"), (35, u "bootLayer"), (0, u "Ljava/lang/ModuleLayer;"), (99, .class_ 664), (0, u "java/lang/System$2"), (9, u "NEVER"), (2, u "MAYBE"), (49, u "arraycopy"), (0, u "(Ljava/lang/Object;ILjava/lang/Object;II)V"), (72, .class_ 802), (0, u "java/lang/System$Logger$Level")] 31

def k13m0 : Method := { name := "<init>", desc := "()V", sig := { parameters := [], returnType := none }, accessFlags := 2, code := none }
def k13m1 : Method := { name := "arraycopy", desc := "(Ljava/lang/Object;ILjava/lang/Object;II)V", sig := { parameters := [(.object "java/lang/Object"), .int, (.object "java/lang/Object"), .int, .int], returnType := none }, accessFlags := 265, code := none }
/-- java/lang/System -/
def k13 : Class := { plain "java/lang/System" (some 0) with
  accessFlags := 49
  interfaces := #[]
  cf := some (fileOf pool13 8 #[.nestMembers #[319, 327, 801, 108, 663, 208]] #[{ accessFlags := 2, nameIndex := 5, descriptorIndex := 6, attributes := #[] }, { accessFlags := 265, nameIndex := 727, descriptorIndex := 728, attributes := #[] }] 49 2 #[] #[{ accessFlags := 25, nameIndex := 507, descriptorIndex := 526, attributes := #[] }, { accessFlags := 25, nameIndex := 399, descriptorIndex := 155, attributes := #[] }, { accessFlags := 25, nameIndex := 396, descriptorIndex := 155, attributes := #[] }, { accessFlags := 10, nameIndex := 525, descriptorIndex := 526, attributes := #[] }, { accessFlags := 26, nameIndex := 674, descriptorIndex := 12, attributes := #[] }, { accessFlags := 26, nameIndex := 677, descriptorIndex := 12, attributes := #[] }, { accessFlags := 10, nameIndex := 11, descriptorIndex := 12, attributes := #[] }, { accessFlags := 74, nameIndex := 175, descriptorIndex := 176, attributes := #[] }, { accessFlags := 10, nameIndex := 491, descriptorIndex := 222, attributes := #[] }, { accessFlags := 74, nameIndex := 29, descriptorIndex := 30, attributes := #[] }, { accessFlags := 74, nameIndex := 154, descriptorIndex := 155, attributes := #[] }, { accessFlags := 10, nameIndex := 217, descriptorIndex := 218, attributes := #[] }, { accessFlags := 10, nameIndex := 221, descriptorIndex := 222, attributes := #[] }, { accessFlags := 8, nameIndex := 562, descriptorIndex := 563, attributes := #[] }])
  fields := #[{ name := "in", type := (.object "java/io/InputStream"), accessFlags := 25, slot := 0, constantValue := 0 }, { name := "out", type := (.object "java/io/PrintStream"), accessFlags := 25, slot := 1, constantValue := 0 }, { name := "err", type := (.object "java/io/PrintStream"), accessFlags := 25, slot := 2, constantValue := 0 }, { name := "initialIn", type := (.object "java/io/InputStream"), accessFlags := 10, slot := 3, constantValue := 0 }, { name := "NEVER", type := .int, accessFlags := 26, slot := 4, constantValue := 0 }, { name := "MAYBE", type := .int, accessFlags := 26, slot := 5, constantValue := 0 }, { name := "allowSecurityManager", type := .int, accessFlags := 10, slot := 6, constantValue := 0 }, { name := "security", type := (.object "java/lang/SecurityManager"), accessFlags := 74, slot := 7, constantValue := 0 }, { name := "notSupportedJnuEncoding", type := (.object "java/lang/String"), accessFlags := 10, slot := 8, constantValue := 0 }, { name := "cons", type := (.object "java/io/Console"), accessFlags := 74, slot := 9, constantValue := 0 }, { name := "initialErrStream", type := (.object "java/io/PrintStream"), accessFlags := 74, slot := 10, constantValue := 0 }, { name := "props", type := (.object "java/util/Properties"), accessFlags := 10, slot := 11, constantValue := 0 }, { name := "lineSeparator", type := (.object "java/lang/String"), accessFlags := 10, slot := 12, constantValue := 0 }, { name := "bootLayer", type := (.object "java/lang/ModuleLayer"), accessFlags := 8, slot := 13, constantValue := 0 }]
  methods := #[k13m0, k13m1]
  instanceTypes := #[]
  staticTypes := #[(.object "java/io/InputStream"), (.object "java/io/PrintStream"), (.object "java/io/PrintStream"), (.object "java/io/InputStream"), .int, .int, .int, (.object "java/lang/SecurityManager"), (.object "java/lang/String"), (.object "java/io/Console"), (.object "java/io/PrintStream"), (.object "java/util/Properties"), (.object "java/lang/String"), (.object "java/lang/ModuleLayer")]
  resolved := Array.replicate 834 none
  statics := none }

def pool14 : Array CpInfo := pool [(1, .class_ 2), (0, u "java/lang/String"), (1, .class_ 6), (1, u "java/lang/Object"), (0, u "<init>"), (0, u "()V"), (0, .methodref 1 10), (0, .nameAndType 11 12), (0, u "checkIndex"), (0, u "(II)V"), (1, .class_ 16), (1, u "java/lang/StringLatin1"), (36, u "([BI)C"), (36, u "canEncode"), (14, u "(C)Z"), (15, u "$assertionsDisabled"), (0, u "Z"), (98, .class_ 223), (1, u "java/lang/StringLatin1$LinesSpliterator"), (28, u "charAt"), (127, u "toBytes"), (1, u "(C)[B"), (7, .class_ 391), (0, u "java/lang/StringLatin1$CharsSpliterator")] 3

def k14m0 : Method := { name := "<init>", desc := "()V", sig := { parameters := [], returnType := none }, accessFlags := 0, code := none }
def k14c1 : Code := { maxStack := 2, maxLocals := 2, code := jdk_43_method_2_code, exceptionTable := #[], attributes := #[] }
def k14m1 : Method := { name := "charAt", desc := "([BI)C", sig := { parameters := [(.array .byte), .int], returnType := some .char }, accessFlags := 9, code := some k14c1 }
def k14c2 : Code := { maxStack := 2, maxLocals := 1, code := jdk_43_method_3_code, exceptionTable := #[], attributes := #[] }
def k14m2 : Method := { name := "canEncode", desc := "(C)Z", sig := { parameters := [.char], returnType := some .boolean }, accessFlags := 9, code := some k14c2 }
def k14c3 : Code := { maxStack := 4, maxLocals := 1, code := jdk_43_method_46_code, exceptionTable := #[], attributes := #[] }
def k14m3 : Method := { name := "toBytes", desc := "(C)[B", sig := { parameters := [.char], returnType := some (.array .byte) }, accessFlags := 9, code := some k14c3 }
/-- java/lang/StringLatin1 -/
def k14 : Class := { plain "java/lang/StringLatin1" (some 0) with
  accessFlags := 48
  interfaces := #[]
  cf := some (fileOf pool14 14 #[.nestMembers #[390, 221]] #[{ accessFlags := 0, nameIndex := 7, descriptorIndex := 8, attributes := #[] }, { accessFlags := 9, nameIndex := 252, descriptorIndex := 53, attributes := #[] }, { accessFlags := 9, nameIndex := 90, descriptorIndex := 105, attributes := #[] }, { accessFlags := 9, nameIndex := 380, descriptorIndex := 382, attributes := #[] }] 48 4 #[] #[{ accessFlags := 4120, nameIndex := 121, descriptorIndex := 122, attributes := #[] }])
  fields := #[{ name := "$assertionsDisabled", type := .boolean, accessFlags := 4120, slot := 0, constantValue := 0 }]
  methods := #[k14m0, k14m1, k14m2, k14m3]
  instanceTypes := #[]
  staticTypes := #[.boolean]
  resolved := Array.replicate 395 none
  statics := none }

def pool15 : Array CpInfo := pool [(2, .class_ 4), (1, u "java/lang/Object"), (0, u "<init>"), (0, u "()V"), (7, .class_ 16), (1, u "java/util/Arrays"), (57, .class_ 76), (1, u "java/util/Arrays$NaturalOrder"), (36, .class_ 115), (1, u "java/util/Arrays$LegacyMergeSort"), (1, u "Z"), (21, u "copyOfRange"), (10, .methodref 151 152), (0, .class_ 153), (0, .nameAndType 154 155), (0, u "java/lang/System"), (0, u "arraycopy"), (0, u "(Ljava/lang/Object;ILjava/lang/Object;II)V"), (148, .methodref 305 306), (0, .class_ 307), (0, .nameAndType 308 309), (0, u "java/lang/Math"), (0, u "min"), (0, u "(II)I"), (29, .methodref 14 340), (0, .nameAndType 341 342), (0, u "copyOfRangeByte"), (0, u "([BII)[B"), (0, .methodref 14 344), (0, .nameAndType 345 346), (0, u "checkLength"), (0, u "(II)V"), (28, .class_ 376), (0, u "java/util/Arrays$ArrayList"), (68, u "$assertionsDisabled"), (269, u "MIN_ARRAY_SORT_GRAN"), (0, u "I"), (2, u "INSERTIONSORT_THRESHOLD"), (255, .class_ 976), (0, u "java/util/Arrays$ArrayItr")] 52

def k15m0 : Method := { name := "<init>", desc := "()V", sig := { parameters := [], returnType := none }, accessFlags := 2, code := none }
def k15c1 : Code := { maxStack := 4, maxLocals := 2, code := jdk_65_method_131_code, exceptionTable := #[], attributes := #[] }
def k15m1 : Method := { name := "checkLength", desc := "(II)V", sig := { parameters := [.int, .int], returnType := none }, accessFlags := 10, code := some k15c1 }
def k15c2 : Code := { maxStack := 3, maxLocals := 3, code := jdk_65_method_132_code, exceptionTable := #[], attributes := #[] }
def k15m2 : Method := { name := "copyOfRange", desc := "([BII)[B", sig := { parameters := [(.array .byte), .int, .int], returnType := some (.array .byte) }, accessFlags := 9, code := some k15c2 }
def k15c3 : Code := { maxStack := 6, maxLocals := 5, code := jdk_65_method_133_code, exceptionTable := #[], attributes := #[] }
def k15m3 : Method := { name := "copyOfRangeByte", desc := "([BII)[B", sig := { parameters := [(.array .byte), .int, .int], returnType := some (.array .byte) }, accessFlags := 10, code := some k15c3 }
/-- java/util/Arrays -/
def k15 : Class := { plain "java/util/Arrays" (some 0) with
  accessFlags := 49
  interfaces := #[]
  cf := some (fileOf pool15 14 #[.nestMembers #[975, 375, 113, 74]] #[{ accessFlags := 2, nameIndex := 5, descriptorIndex := 6, attributes := #[] }, { accessFlags := 10, nameIndex := 345, descriptorIndex := 346, attributes := #[] }, { accessFlags := 9, nameIndex := 139, descriptorIndex := 342, attributes := #[] }, { accessFlags := 10, nameIndex := 341, descriptorIndex := 342, attributes := #[] }] 49 2 #[] #[{ accessFlags := 26, nameIndex := 715, descriptorIndex := 716, attributes := #[] }, { accessFlags := 26, nameIndex := 719, descriptorIndex := 716, attributes := #[] }, { accessFlags := 4120, nameIndex := 445, descriptorIndex := 117, attributes := #[] }])
  fields := #[{ name := "MIN_ARRAY_SORT_GRAN", type := .int, accessFlags := 26, slot := 0, constantValue := 0 }, { name := "INSERTIONSORT_THRESHOLD", type := .int, accessFlags := 26, slot := 1, constantValue := 0 }, { name := "$assertionsDisabled", type := .boolean, accessFlags := 4120, slot := 2, constantValue := 0 }]
  methods := #[k15m0, k15m1, k15m2, k15m3]
  instanceTypes := #[]
  staticTypes := #[.int, .int, .boolean]
  resolved := Array.replicate 1029 none
  statics := none }

def pool16 : Array CpInfo := pool [(2, .class_ 4), (1, u "java/lang/Object"), (0, u "<init>"), (0, u "()V"), (17, .class_ 26), (1, u "jdk/internal/util/Preconditions"), (6, u "checkIndex"), (21, .class_ 56), (0, u "jdk/internal/util/Preconditions$4"), (57, .class_ 115), (0, u "jdk/internal/util/Preconditions$1"), (7, u "SIOOBE_FORMATTER"), (0, u "Ljava/util/function/BiFunction;"), (0, .class_ 126), (0, u "jdk/internal/util/Preconditions$2"), (3, u "AIOOBE_FORMATTER"), (0, .class_ 132), (0, u "jdk/internal/util/Preconditions$3"), (3, u "IOOBE_FORMATTER"), (41, u "(IILjava/util/function/BiFunction;)I")] 15

def k16m0 : Method := { name := "<init>", desc := "()V", sig := { parameters := [], returnType := none }, accessFlags := 1, code := none }
def k16c1 : Code := { maxStack := 3, maxLocals := 3, code := jdk_41_method_11_code, exceptionTable := #[], attributes := #[] }
def k16m1 : Method := { name := "checkIndex", desc := "(IILjava/util/function/BiFunction;)I", sig := { parameters := [.int, .int, (.object "java/util/function/BiFunction")], returnType := some .int }, accessFlags := 9, code := some k16c1 }
/-- jdk/internal/util/Preconditions -/
def k16 : Class := { plain "jdk/internal/util/Preconditions" (some 0) with
  accessFlags := 33
  interfaces := #[]
  cf := some (fileOf pool16 24 #[.nestMembers #[55, 131, 125, 114]] #[{ accessFlags := 1, nameIndex := 5, descriptorIndex := 6, attributes := #[] }, { accessFlags := 9, nameIndex := 33, descriptorIndex := 178, attributes := #[] }] 33 2 #[] #[{ accessFlags := 25, nameIndex := 123, descriptorIndex := 124, attributes := #[] }, { accessFlags := 25, nameIndex := 130, descriptorIndex := 124, attributes := #[] }, { accessFlags := 25, nameIndex := 136, descriptorIndex := 124, attributes := #[] }])
  fields := #[{ name := "SIOOBE_FORMATTER", type := (.object "java/util/function/BiFunction"), accessFlags := 25, slot := 0, constantValue := 0 }, { name := "AIOOBE_FORMATTER", type := (.object "java/util/function/BiFunction"), accessFlags := 25, slot := 1, constantValue := 0 }, { name := "IOOBE_FORMATTER", type := (.object "java/util/function/BiFunction"), accessFlags := 25, slot := 2, constantValue := 0 }]
  methods := #[k16m0, k16m1]
  instanceTypes := #[]
  staticTypes := #[(.object "java/util/function/BiFunction"), (.object "java/util/function/BiFunction"), (.object "java/util/function/BiFunction")]
  resolved := Array.replicate 194 none
  statics := some 1 }

def pool17 : Array CpInfo := pool [(6, .class_ 8), (1, u "java/lang/Object"), (0, u "<init>"), (0, u "()V"), (1, .class_ 14), (1, u "java/lang/StringUTF16"), (31, u "$assertionsDisabled"), (0, u "Z"), (13, u "HI_BYTE_SHIFT"), (0, u "I"), (2, u "LO_BYTE_SHIFT"), (49, .methodref 12 116), (0, .nameAndType 117 118), (0, u "compress"), (0, u "([CI[BII)I"), (3, u "([CII)[B"), (138, u "coderFromArrayLen"), (0, u "([BI)B"), (106, .class_ 371), (1, u "java/lang/StringUTF16$LinesSpliterator"), (58, u "MAX_LENGTH"), (196, .class_ 628), (0, u "java/lang/StringUTF16$CodePointsSpliterator"), (0, .class_ 630), (0, u "java/lang/StringUTF16$CharsSpliterator")] 4

def k17m0 : Method := { name := "<init>", desc := "()V", sig := { parameters := [], returnType := none }, accessFlags := 0, code := none }
def k17c1 : Code := { maxStack := 2, maxLocals := 2, code := jdk_52_method_15_code, exceptionTable := #[], attributes := #[] }
def k17m1 : Method := { name := "coderFromArrayLen", desc := "([BI)B", sig := { parameters := [(.array .byte), .int], returnType := some .byte }, accessFlags := 8, code := some k17c1 }
def k17c2 : Code := { maxStack := 5, maxLocals := 6, code := jdk_52_method_16_code, exceptionTable := #[], attributes := #[] }
def k17m2 : Method := { name := "compress", desc := "([CII)[B", sig := { parameters := [(.array .char), .int, .int], returnType := some (.array .byte) }, accessFlags := 9, code := some k17c2 }
def k17c3 : Code := { maxStack := 3, maxLocals := 7, code := jdk_52_method_21_code, exceptionTable := #[], attributes := #[] }
def k17m3 : Method := { name := "compress", desc := "([CI[BII)I", sig := { parameters := [(.array .char), .int, (.array .byte), .int, .int], returnType := some .int }, accessFlags := 9, code := some k17c3 }
/-- java/lang/StringUTF16 -/
def k17 : Class := { plain "java/lang/StringUTF16" (some 0) with
  accessFlags := 48
  interfaces := #[]
  cf := some (fileOf pool17 12 #[.nestMembers #[627, 629, 369]] #[{ accessFlags := 0, nameIndex := 9, descriptorIndex := 10, attributes := #[] }, { accessFlags := 8, nameIndex := 261, descriptorIndex := 262, attributes := #[] }, { accessFlags := 9, nameIndex := 117, descriptorIndex := 122, attributes := #[] }, { accessFlags := 9, nameIndex := 117, descriptorIndex := 118, attributes := #[] }] 48 6 #[] #[{ accessFlags := 26, nameIndex := 61, descriptorIndex := 62, attributes := #[] }, { accessFlags := 26, nameIndex := 65, descriptorIndex := 62, attributes := #[] }, { accessFlags := 24, nameIndex := 430, descriptorIndex := 62, attributes := #[] }, { accessFlags := 4120, nameIndex := 46, descriptorIndex := 47, attributes := #[] }])
  fields := #[{ name := "HI_BYTE_SHIFT", type := .int, accessFlags := 26, slot := 0, constantValue := 0 }, { name := "LO_BYTE_SHIFT", type := .int, accessFlags := 26, slot := 1, constantValue := 0 }, { name := "MAX_LENGTH", type := .int, accessFlags := 24, slot := 2, constantValue := 0 }, { name := "$assertionsDisabled", type := .boolean, accessFlags := 4120, slot := 3, constantValue := 0 }]
  methods := #[k17m0, k17m1, k17m2, k17m3]
  instanceTypes := #[]
  staticTypes := #[.int, .int, .int, .boolean]
  resolved := Array.replicate 635 none
  statics := none }

def pool18 : Array CpInfo := pool [(9, u "<init>"), (6, .class_ 18), (1, u "java/lang/Object"), (0, u "()V"), (1, .class_ 23), (1, u "jdk/internal/util/ArraysSupport"), (0, u "LOG2_ARRAY_LONG_INDEX_SCALE"), (0, u "I"), (2, u "U"), (0, u "Ljdk/internal/misc/Unsafe;"), (8, u "BIG_ENDIAN"), (0, u "Z"), (8, u "LOG2_BYTE_BIT_SIZE"), (4, u "LOG2_ARRAY_INT_INDEX_SCALE"), (54, u "JLA"), (0, u "Ljdk/internal/access/JavaLangAccess;"), (11, u "LOG2_ARRAY_BOOLEAN_INDEX_SCALE"), (9, u "LOG2_ARRAY_BYTE_INDEX_SCALE"), (5, u "LOG2_ARRAY_CHAR_INDEX_SCALE"), (5, u "LOG2_ARRAY_SHORT_INDEX_SCALE"), (18, u "LOG2_ARRAY_FLOAT_INDEX_SCALE"), (24, u "LOG2_ARRAY_DOUBLE_INDEX_SCALE"), (89, u "T_BOOLEAN"), (2, u "T_CHAR"), (1, u "T_FLOAT"), (1, u "T_DOUBLE"), (1, u "T_BYTE"), (1, u "T_SHORT"), (1, u "T_INT"), (1, u "T_LONG"), (1, u "SOFT_MAX_ARRAY_LENGTH")] 83

def k18m0 : Method := { name := "<init>", desc := "()V", sig := { parameters := [], returnType := none }, accessFlags := 2, code := none }
/-- jdk/internal/util/ArraysSupport -/
def k18 : Class := { plain "jdk/internal/util/ArraysSupport" (some 0) with
  accessFlags := 33
  interfaces := #[]
  cf := some (fileOf pool18 21 #[] #[{ accessFlags := 2, nameIndex := 9, descriptorIndex := 19, attributes := #[] }] 33 16 #[] #[{ accessFlags := 24, nameIndex := 28, descriptorIndex := 29, attributes := #[] }, { accessFlags := 26, nameIndex := 38, descriptorIndex := 39, attributes := #[] }, { accessFlags := 25, nameIndex := 121, descriptorIndex := 25, attributes := #[] }, { accessFlags := 25, nameIndex := 131, descriptorIndex := 25, attributes := #[] }, { accessFlags := 25, nameIndex := 137, descriptorIndex := 25, attributes := #[] }, { accessFlags := 25, nameIndex := 143, descriptorIndex := 25, attributes := #[] }, { accessFlags := 25, nameIndex := 53, descriptorIndex := 25, attributes := #[] }, { accessFlags := 25, nameIndex := 24, descriptorIndex := 25, attributes := #[] }, { accessFlags := 25, nameIndex := 162, descriptorIndex := 25, attributes := #[] }, { accessFlags := 25, nameIndex := 187, descriptorIndex := 25, attributes := #[] }, { accessFlags := 26, nameIndex := 48, descriptorIndex := 25, attributes := #[] }, { accessFlags := 25, nameIndex := 277, descriptorIndex := 25, attributes := #[] }, { accessFlags := 25, nameIndex := 280, descriptorIndex := 25, attributes := #[] }, { accessFlags := 25, nameIndex := 282, descriptorIndex := 25, attributes := #[] }, { accessFlags := 25, nameIndex := 284, descriptorIndex := 25, attributes := #[] }, { accessFlags := 25, nameIndex := 286, descriptorIndex := 25, attributes := #[] }, { accessFlags := 25, nameIndex := 288, descriptorIndex := 25, attributes := #[] }, { accessFlags := 25, nameIndex := 290, descriptorIndex := 25, attributes := #[] }, { accessFlags := 25, nameIndex := 292, descriptorIndex := 25, attributes := #[] }, { accessFlags := 26, nameIndex := 108, descriptorIndex := 109, attributes := #[] }, { accessFlags := 25, nameIndex := 294, descriptorIndex := 25, attributes := #[] }])
  fields := #[{ name := "U", type := (.object "jdk/internal/misc/Unsafe"), accessFlags := 24, slot := 0, constantValue := 0 }, { name := "BIG_ENDIAN", type := .boolean, accessFlags := 26, slot := 1, constantValue := 0 }, { name := "LOG2_ARRAY_BOOLEAN_INDEX_SCALE", type := .int, accessFlags := 25, slot := 2, constantValue := 0 }, { name := "LOG2_ARRAY_BYTE_INDEX_SCALE", type := .int, accessFlags := 25, slot := 3, constantValue := 0 }, { name := "LOG2_ARRAY_CHAR_INDEX_SCALE", type := .int, accessFlags := 25, slot := 4, constantValue := 0 }, { name := "LOG2_ARRAY_SHORT_INDEX_SCALE", type := .int, accessFlags := 25, slot := 5, constantValue := 0 }, { name := "LOG2_ARRAY_INT_INDEX_SCALE", type := .int, accessFlags := 25, slot := 6, constantValue := 0 }, { name := "LOG2_ARRAY_LONG_INDEX_SCALE", type := .int, accessFlags := 25, slot := 7, constantValue := 0 }, { name := "LOG2_ARRAY_FLOAT_INDEX_SCALE", type := .int, accessFlags := 25, slot := 8, constantValue := 0 }, { name := "LOG2_ARRAY_DOUBLE_INDEX_SCALE", type := .int, accessFlags := 25, slot := 9, constantValue := 0 }, { name := "LOG2_BYTE_BIT_SIZE", type := .int, accessFlags := 26, slot := 10, constantValue := 0 }, { name := "T_BOOLEAN", type := .int, accessFlags := 25, slot := 11, constantValue := 0 }, { name := "T_CHAR", type := .int, accessFlags := 25, slot := 12, constantValue := 0 }, { name := "T_FLOAT", type := .int, accessFlags := 25, slot := 13, constantValue := 0 }, { name := "T_DOUBLE", type := .int, accessFlags := 25, slot := 14, constantValue := 0 }, { name := "T_BYTE", type := .int, accessFlags := 25, slot := 15, constantValue := 0 }, { name := "T_SHORT", type := .int, accessFlags := 25, slot := 16, constantValue := 0 }, { name := "T_INT", type := .int, accessFlags := 25, slot := 17, constantValue := 0 }, { name := "T_LONG", type := .int, accessFlags := 25, slot := 18, constantValue := 0 }, { name := "JLA", type := (.object "jdk/internal/access/JavaLangAccess"), accessFlags := 26, slot := 19, constantValue := 0 }, { name := "SOFT_MAX_ARRAY_LENGTH", type := .int, accessFlags := 25, slot := 20, constantValue := 0 }]
  methods := #[k18m0]
  instanceTypes := #[]
  staticTypes := #[(.object "jdk/internal/misc/Unsafe"), .boolean, .int, .int, .int, .int, .int, .int, .int, .int, .int, .int, .int, .int, .int, .int, .int, .int, .int, (.object "jdk/internal/access/JavaLangAccess"), .int]
  resolved := Array.replicate 378 none
  statics := none }

def pool19 : Array CpInfo := pool [(1, u "java/lang/Cloneable"), (0, .class_ 1), (0, u "java/lang/Object"), (0, .class_ 3)] 3

/-- java/lang/Cloneable -/
def k19 : Class := { plain "java/lang/Cloneable" (some 0) with
  accessFlags := 1537
  interfaces := #[]
  cf := some (fileOf pool19 2 #[] #[] 1537 4 #[] #[])
  fields := #[]
  methods := #[]
  instanceTypes := #[]
  staticTypes := #[]
  resolved := Array.replicate 8 none
  statics := none }

/-- the primitive byte -/
def k20 : Class := { plain "byte" none with kind := .primitive 'B', accessFlags := 0x411 }
/-- [B -/
def k21 : Class := { plain "[B" (some 0) with kind := .array 20 .byte, interfaces := #[19, 3], accessFlags := 1041 }

/-- the primitive char -/
def k22 : Class := { plain "char" none with kind := .primitive 'C', accessFlags := 0x411 }
/-- [C -/
def k23 : Class := { plain "[C" (some 0) with kind := .array 22 .char, interfaces := #[19, 3], accessFlags := 1041 }

/-- the primitive int -/
def k24 : Class := { plain "int" none with kind := .primitive 'I', accessFlags := 0x411 }
/-- [I -/
def k25 : Class := { plain "[I" (some 0) with kind := .array 24 .int, interfaces := #[19, 3], accessFlags := 1041 }

def heap : Heap := #[{ cls := 8, slots := #[.long 0, .int 1, .null, .int 0, .null, .int 0, .int 0], vm := .statics 8 },
  { cls := 16, slots := #[.null, .null, .null], vm := .statics 16 }]
def classes : Array Class := #[k0, k1, k2, k3, k4, k5, k6, k7, k8, k9, k10, k11, k12, k13, k14, k15, k16, k17, k18, k19, k20, k21, k22, k23, k24, k25]
def interned : List (Array UInt16 × Addr) := []
def slotsUsed : Nat := 10
def theMethod : MethodId := ⟨1, 3⟩
def args0 : Array Value := #[.int 5, .int 65536, .int 131072, .int 3, .int 70000, .int 2]
def aboutOver (below : List Frame) : State where
  vm := { classes := classes, interned := interned.toArray }
  heap := heap
  slotsUsed := slotsUsed
  threads := #[{ frames := .invoking theMethod args0 :: below }]
def below0 : List Frame := [.native { method := ⟨0, 0⟩, args := #[] }]
def about1 : State := aboutOver below0
def p0 : Program := .bare "" "" ""
def e0 : Env := launch0.env 0 0 0
theorem w_frames : about1.frames = Frame.invoking theMethod args0 :: below0 := rfl
set_option maxRecDepth 65536 in
theorem w_args : argsFit about1.vm theMethod args0 = true := by decide +kernel
set_option maxRecDepth 65536 in
theorem w_heap : heapFits about1 = true := by decide +kernel
set_option maxRecDepth 65536 in
theorem w_runnable : about1.curStatus? = some .runnable := by decide +kernel
set_option maxRecDepth 65536 in
theorem w_alone : about1.alone = true := by decide +kernel
set_option maxRecDepth 65536 in
theorem w_named : about1.methodNamed? x = some theMethod := by decide +kernel
set_option maxRecDepth 65536 in
theorem w_hears : about1.hears theMethod below0 = true := by decide +kernel
set_option maxRecDepth 65536 in
theorem w_ripe : about1.ripe theMethod args0 below0 = true := by decide +kernel
theorem w_running : about1.status = .running := rfl
set_option maxRecDepth 65536 in
theorem w_room : about1.hasRoom e0.platform room_1 = true :=
  launch0.hasRoom_least _ room_1 (by decide +kernel) (by decide +kernel) (by decide +kernel) (by decide +kernel) (by decide +kernel) (by decide +kernel)
theorem allAtoms_all (ts : List Jvm.Cond) (a : Array Jvm.Value) (st : Jvm.State) : (allAtoms ts).before a st = ts.all (fun c => c.before a st) := by
  induction ts with
  | nil => rfl
  | cons c t ih =>
    show (Jvm.Cond.and c (allAtoms t)).before a st = _
    rw [Jvm.Cond.before_and, ih, List.all_cons]
def words1 : List Jvm.Cond := Jvm.Cond.code x code maxLocals ret :: tables_1
/-- a 'code' word, met by the world's own term for the bytes: nothing is compared byte by byte -/
theorem code_word {y : MethodName} {bytes : ByteArray} {mx : Nat} {rt : Option FieldType} {a : Array Value} {s : State} {m : MethodId} {meth : Method} {c : Code} (h1 : s.methodNamed? y = some m) (h2 : s.vm.method? m = some meth) (h3 : meth.code = some c) (h4 : c.code = bytes)
    (h5 : (c.maxLocals == mx && c.exceptionTable.isEmpty && decide (c.maxStack ≤ mostOperands) && decide (meth.sig.returnType = rt) && !meth.locks && decide (parseMethodDescriptor y.desc = some meth.sig)) = true) : (Jvm.Cond.code y bytes mx rt).before a s = true := by
  simp only [Bool.and_eq_true, beq_iff_eq, Bool.not_eq_true', decide_eq_true_eq] at h5
  obtain ⟨⟨⟨⟨⟨g1, g2⟩, g3⟩, g4⟩, g5⟩, g6⟩ := h5
  simp [Cond.before, Cond.holds, Cond.value, h1, h2, h3, h4, g1, g2, g3, g4, g5, g6]
def isCode : Jvm.Cond → Bool
  | .code _ _ _ _ => true
  | _ => false
theorem all_split {L : List Jvm.Cond} {P : Jvm.Cond → Bool} (h1 : L.all (fun c => isCode c || P c) = true) (h2 : ∀ c ∈ L.filter isCode, P c = true) : L.all P = true := by
  refine List.all_eq_true.mpr fun c hc => ?_
  have h := List.all_eq_true.mp h1 c hc
  rcases Bool.eq_false_or_eq_true (isCode c) with hi | hi
  · exact h2 c (List.mem_filter.mpr ⟨hc, hi⟩)
  · simpa [hi] using h
set_option maxRecDepth 65536 in
theorem w_c0 : (Jvm.Cond.code x code maxLocals ret).before args0 about1 = true := code_word (m := ⟨1, 3⟩) (meth := k1m3) (c := k1c3) (by decide +kernel) rfl rfl rfl (by decide +kernel)
set_option maxRecDepth 65536 in
theorem w_c1 : (Jvm.Cond.code ({ cls := "com/example/nearfield/nearfield/JoinedTextClearPinLaw", name := "mk", desc := "(I)Ljava/lang/String;" } : Jvm.MethodName) method_2_code (4 : Nat) (Option.some (Jvm.ClassFile.FieldType.object "java/lang/String"))).before args0 about1 = true := code_word (m := ⟨1, 1⟩) (meth := k1m1) (c := k1c1) (by decide +kernel) rfl rfl rfl (by decide +kernel)
set_option maxRecDepth 65536 in
theorem w_c2 : (Jvm.Cond.code ({ cls := "java/lang/Math", name := "min", desc := "(II)I" } : Jvm.MethodName) jdk_29_method_69_code (2 : Nat) (Option.some Jvm.ClassFile.FieldType.int)).before args0 about1 = true := code_word (m := ⟨2, 1⟩) (meth := k2m1) (c := k2c1) (by decide +kernel) rfl rfl rfl (by decide +kernel)
set_option maxRecDepth 65536 in
theorem w_c3 : (Jvm.Cond.code ({ cls := "java/lang/String", name := "<init>", desc := "([C)V" } : Jvm.MethodName) jdk_42_method_3_code (2 : Nat) (Option.none : Option Jvm.ClassFile.FieldType)).before args0 about1 = true := code_word (m := ⟨8, 1⟩) (meth := k8m1) (c := k8c1) (by decide +kernel) rfl rfl rfl (by decide +kernel)
set_option maxRecDepth 65536 in
theorem w_c4 : (Jvm.Cond.code ({ cls := "java/lang/String", name := "<init>", desc := "([CIILjava/lang/Void;)V" } : Jvm.MethodName) jdk_42_method_149_code (6 : Nat) (Option.none : Option Jvm.ClassFile.FieldType)).before args0 about1 = true := code_word (m := ⟨8, 8⟩) (meth := k8m8) (c := k8c8) (by decide +kernel) rfl rfl rfl (by decide +kernel)
set_option maxRecDepth 65536 in
theorem w_c5 : (Jvm.Cond.code ({ cls := "java/lang/Object", name := "<init>", desc := "()V" } : Jvm.MethodName) object_method_1_code (1 : Nat) (Option.none : Option Jvm.ClassFile.FieldType)).before args0 about1 = true := code_word (m := ⟨0, 0⟩) (meth := k0m0) (c := k0c0) (by decide +kernel) rfl rfl rfl (by decide +kernel)
set_option maxRecDepth 65536 in
theorem w_c6 : (Jvm.Cond.code ({ cls := "com/example/nearfield/nearfield/JoinedText", name := "<init>", desc := "()V" } : Jvm.MethodName) prog_12_method_1_code (1 : Nat) (Option.none : Option Jvm.ClassFile.FieldType)).before args0 about1 = true := code_word (m := ⟨9, 0⟩) (meth := k9m0) (c := k9c0) (by decide +kernel) rfl rfl rfl (by decide +kernel)
set_option maxRecDepth 65536 in
theorem w_c7 : (Jvm.Cond.code ({ cls := "com/example/nearfield/nearfield/JoinedText", name := "append", desc := "(Ljava/lang/String;)V" } : Jvm.MethodName) prog_12_method_2_code (2 : Nat) (Option.none : Option Jvm.ClassFile.FieldType)).before args0 about1 = true := code_word (m := ⟨9, 1⟩) (meth := k9m1) (c := k9c1) (by decide +kernel) rfl rfl rfl (by decide +kernel)
set_option maxRecDepth 65536 in
theorem w_c8 : (Jvm.Cond.code ({ cls := "java/lang/String", name := "isEmpty", desc := "()Z" } : Jvm.MethodName) jdk_42_method_55_code (1 : Nat) (Option.some Jvm.ClassFile.FieldType.boolean)).before args0 about1 = true := code_word (m := ⟨8, 4⟩) (meth := k8m4) (c := k8c4) (by decide +kernel) rfl rfl rfl (by decide +kernel)
set_option maxRecDepth 65536 in
theorem w_c9 : (Jvm.Cond.code ({ cls := "com/example/nearfield/nearfield/JoinedText", name := "append", desc := "(C)V" } : Jvm.MethodName) prog_12_method_3_code (2 : Nat) (Option.none : Option Jvm.ClassFile.FieldType)).before args0 about1 = true := code_word (m := ⟨9, 2⟩) (meth := k9m2) (c := k9c2) (by decide +kernel) rfl rfl rfl (by decide +kernel)
set_option maxRecDepth 65536 in
theorem w_c10 : (Jvm.Cond.code ({ cls := "com/example/nearfield/nearfield/JoinedText", name := "join", desc := "()Ljava/lang/StringBuilder;" } : Jvm.MethodName) prog_12_method_7_code (1 : Nat) (Option.some (Jvm.ClassFile.FieldType.object "java/lang/StringBuilder"))).before args0 about1 = true := code_word (m := ⟨9, 6⟩) (meth := k9m6) (c := k9c6) (by decide +kernel) rfl rfl rfl (by decide +kernel)
set_option maxRecDepth 65536 in
theorem w_c11 : (Jvm.Cond.code ({ cls := "java/lang/StringBuilder", name := "<init>", desc := "()V" } : Jvm.MethodName) jdk_67_method_1_code (1 : Nat) (Option.none : Option Jvm.ClassFile.FieldType)).before args0 about1 = true := code_word (m := ⟨12, 0⟩) (meth := k12m0) (c := k12c0) (by decide +kernel) rfl rfl rfl (by decide +kernel)
set_option maxRecDepth 65536 in
theorem w_c12 : (Jvm.Cond.code ({ cls := "java/lang/AbstractStringBuilder", name := "<init>", desc := "(I)V" } : Jvm.MethodName) jdk_68_method_2_code (2 : Nat) (Option.none : Option Jvm.ClassFile.FieldType)).before args0 about1 = true := code_word (m := ⟨11, 1⟩) (meth := k11m1) (c := k11c1) (by decide +kernel) rfl rfl rfl (by decide +kernel)
set_option maxRecDepth 65536 in
theorem w_c13 : (Jvm.Cond.code ({ cls := "java/lang/StringBuilder", name := "setLength", desc := "(I)V" } : Jvm.MethodName) jdk_67_method_89_code (2 : Nat) (Option.none : Option Jvm.ClassFile.FieldType)).before args0 about1 = true := code_word (m := ⟨12, 4⟩) (meth := k12m4) (c := k12c4) (by decide +kernel) rfl rfl rfl (by decide +kernel)
set_option maxRecDepth 65536 in
theorem w_c14 : (Jvm.Cond.code ({ cls := "java/lang/AbstractStringBuilder", name := "setLength", desc := "(I)V" } : Jvm.MethodName) jdk_68_method_13_code (2 : Nat) (Option.none : Option Jvm.ClassFile.FieldType)).before args0 about1 = true := code_word (m := ⟨11, 4⟩) (meth := k11m4) (c := k11c4) (by decide +kernel) rfl rfl rfl (by decide +kernel)
set_option maxRecDepth 65536 in
theorem w_c15 : (Jvm.Cond.code ({ cls := "java/lang/AbstractStringBuilder", name := "ensureCapacityInternal", desc := "(I)V" } : Jvm.MethodName) jdk_68_method_9_code (3 : Nat) (Option.none : Option Jvm.ClassFile.FieldType)).before args0 about1 = true := code_word (m := ⟨11, 3⟩) (meth := k11m3) (c := k11c3) (by decide +kernel) rfl rfl rfl (by decide +kernel)
set_option maxRecDepth 65536 in
theorem w_c16 : (Jvm.Cond.code ({ cls := "java/lang/StringBuilder", name := "append", desc := "(Ljava/lang/String;)Ljava/lang/StringBuilder;" } : Jvm.MethodName) jdk_67_method_7_code (2 : Nat) (Option.some (Jvm.ClassFile.FieldType.object "java/lang/StringBuilder"))).before args0 about1 = true := code_word (m := ⟨12, 1⟩) (meth := k12m1) (c := k12c1) (by decide +kernel) rfl rfl rfl (by decide +kernel)
set_option maxRecDepth 65536 in
theorem w_c17 : (Jvm.Cond.code ({ cls := "java/lang/AbstractStringBuilder", name := "append", desc := "(Ljava/lang/String;)Ljava/lang/AbstractStringBuilder;" } : Jvm.MethodName) jdk_68_method_22_code (3 : Nat) (Option.some (Jvm.ClassFile.FieldType.object "java/lang/AbstractStringBuilder"))).before args0 about1 = true := code_word (m := ⟨11, 5⟩) (meth := k11m5) (c := k11c5) (by decide +kernel) rfl rfl rfl (by decide +kernel)
set_option maxRecDepth 65536 in
theorem w_c18 : (Jvm.Cond.code ({ cls := "java/lang/String", name := "length", desc := "()I" } : Jvm.MethodName) jdk_42_method_54_code (1 : Nat) (Option.some Jvm.ClassFile.FieldType.int)).before args0 about1 = true := code_word (m := ⟨8, 3⟩) (meth := k8m3) (c := k8c3) (by decide +kernel) rfl rfl rfl (by decide +kernel)
set_option maxRecDepth 65536 in
theorem w_c19 : (Jvm.Cond.code ({ cls := "java/lang/String", name := "coder", desc := "()B" } : Jvm.MethodName) jdk_42_method_152_code (1 : Nat) (Option.some Jvm.ClassFile.FieldType.byte)).before args0 about1 = true := code_word (m := ⟨8, 11⟩) (meth := k8m11) (c := k8c11) (by decide +kernel) rfl rfl rfl (by decide +kernel)
set_option maxRecDepth 65536 in
theorem w_c20 : (Jvm.Cond.code ({ cls := "java/lang/AbstractStringBuilder", name := "putStringAt", desc := "(ILjava/lang/String;)V" } : Jvm.MethodName) jdk_68_method_73_code (3 : Nat) (Option.none : Option Jvm.ClassFile.FieldType)).before args0 about1 = true := code_word (m := ⟨11, 10⟩) (meth := k11m10) (c := k11c10) (by decide +kernel) rfl rfl rfl (by decide +kernel)
set_option maxRecDepth 65536 in
theorem w_c21 : (Jvm.Cond.code ({ cls := "java/lang/AbstractStringBuilder", name := "inflateIfNeededFor", desc := "(Ljava/lang/String;)V" } : Jvm.MethodName) jdk_68_method_71_code (2 : Nat) (Option.none : Option Jvm.ClassFile.FieldType)).before args0 about1 = true := code_word (m := ⟨11, 9⟩) (meth := k11m9) (c := k11c9) (by decide +kernel) rfl rfl rfl (by decide +kernel)
set_option maxRecDepth 65536 in
theorem w_c22 : (Jvm.Cond.code ({ cls := "java/lang/String", name := "getBytes", desc := "([BIB)V" } : Jvm.MethodName) jdk_42_method_147_code (4 : Nat) (Option.none : Option Jvm.ClassFile.FieldType)).before args0 about1 = true := code_word (m := ⟨8, 7⟩) (meth := k8m7) (c := k8c7) (by decide +kernel) rfl rfl rfl (by decide +kernel)
set_option maxRecDepth 65536 in
theorem w_c23 : (Jvm.Cond.code ({ cls := "java/lang/StringBuilder", name := "append", desc := "(C)Ljava/lang/StringBuilder;" } : Jvm.MethodName) jdk_67_method_14_code (2 : Nat) (Option.some (Jvm.ClassFile.FieldType.object "java/lang/StringBuilder"))).before args0 about1 = true := code_word (m := ⟨12, 2⟩) (meth := k12m2) (c := k12c2) (by decide +kernel) rfl rfl rfl (by decide +kernel)
set_option maxRecDepth 65536 in
theorem w_c24 : (Jvm.Cond.code ({ cls := "java/lang/AbstractStringBuilder", name := "append", desc := "(C)Ljava/lang/AbstractStringBuilder;" } : Jvm.MethodName) jdk_68_method_31_code (2 : Nat) (Option.some (Jvm.ClassFile.FieldType.object "java/lang/AbstractStringBuilder"))).before args0 about1 = true := code_word (m := ⟨11, 6⟩) (meth := k11m6) (c := k11c6) (by decide +kernel) rfl rfl rfl (by decide +kernel)
set_option maxRecDepth 65536 in
theorem w_c25 : (Jvm.Cond.code ({ cls := "java/lang/AbstractStringBuilder", name := "isLatin1", desc := "()Z" } : Jvm.MethodName) jdk_68_method_68_code (1 : Nat) (Option.some Jvm.ClassFile.FieldType.boolean)).before args0 about1 = true := code_word (m := ⟨11, 8⟩) (meth := k11m8) (c := k11c8) (by decide +kernel) rfl rfl rfl (by decide +kernel)
set_option maxRecDepth 65536 in
theorem w_c26 : (Jvm.Cond.code ({ cls := "java/lang/StringLatin1", name := "canEncode", desc := "(C)Z" } : Jvm.MethodName) jdk_43_method_3_code (1 : Nat) (Option.some Jvm.ClassFile.FieldType.boolean)).before args0 about1 = true := code_word (m := ⟨14, 2⟩) (meth := k14m2) (c := k14c2) (by decide +kernel) rfl rfl rfl (by decide +kernel)
set_option maxRecDepth 65536 in
theorem w_c27 : (Jvm.Cond.code ({ cls := "com/example/nearfield/nearfield/JoinedText", name := "clear", desc := "()V" } : Jvm.MethodName) prog_12_method_5_code (1 : Nat) (Option.none : Option Jvm.ClassFile.FieldType)).before args0 about1 = true := code_word (m := ⟨9, 4⟩) (meth := k9m4) (c := k9c4) (by decide +kernel) rfl rfl rfl (by decide +kernel)
set_option maxRecDepth 65536 in
theorem w_c28 : (Jvm.Cond.code ({ cls := "com/example/nearfield/nearfield/JoinedText", name := "length", desc := "()I" } : Jvm.MethodName) prog_12_method_4_code (1 : Nat) (Option.some Jvm.ClassFile.FieldType.int)).before args0 about1 = true := code_word (m := ⟨9, 3⟩) (meth := k9m3) (c := k9c3) (by decide +kernel) rfl rfl rfl (by decide +kernel)
set_option maxRecDepth 65536 in
theorem w_c29 : (Jvm.Cond.code ({ cls := "com/example/nearfield/nearfield/JoinedText", name := "toString", desc := "()Ljava/lang/String;" } : Jvm.MethodName) prog_12_method_6_code (1 : Nat) (Option.some (Jvm.ClassFile.FieldType.object "java/lang/String"))).before args0 about1 = true := code_word (m := ⟨9, 5⟩) (meth := k9m5) (c := k9c5) (by decide +kernel) rfl rfl rfl (by decide +kernel)
set_option maxRecDepth 65536 in
theorem w_c30 : (Jvm.Cond.code ({ cls := "java/lang/String", name := "valueOf", desc := "(C)Ljava/lang/String;" } : Jvm.MethodName) jdk_42_method_139_code (1 : Nat) (Option.some (Jvm.ClassFile.FieldType.object "java/lang/String"))).before args0 about1 = true := code_word (m := ⟨8, 6⟩) (meth := k8m6) (c := k8c6) (by decide +kernel) rfl rfl rfl (by decide +kernel)
set_option maxRecDepth 65536 in
theorem w_c31 : (Jvm.Cond.code ({ cls := "java/lang/StringLatin1", name := "toBytes", desc := "(C)[B" } : Jvm.MethodName) jdk_43_method_46_code (1 : Nat) (Option.some (Jvm.ClassFile.FieldType.array Jvm.ClassFile.FieldType.byte))).before args0 about1 = true := code_word (m := ⟨14, 3⟩) (meth := k14m3) (c := k14c3) (by decide +kernel) rfl rfl rfl (by decide +kernel)
set_option maxRecDepth 65536 in
theorem w_c32 : (Jvm.Cond.code ({ cls := "java/lang/String", name := "<init>", desc := "([BB)V" } : Jvm.MethodName) jdk_42_method_151_code (3 : Nat) (Option.none : Option Jvm.ClassFile.FieldType)).before args0 about1 = true := code_word (m := ⟨8, 10⟩) (meth := k8m10) (c := k8c10) (by decide +kernel) rfl rfl rfl (by decide +kernel)
set_option maxRecDepth 65536 in
theorem w_c33 : (Jvm.Cond.code ({ cls := "java/lang/StringBuilder", name := "toString", desc := "()Ljava/lang/String;" } : Jvm.MethodName) jdk_67_method_42_code (1 : Nat) (Option.some (Jvm.ClassFile.FieldType.object "java/lang/String"))).before args0 about1 = true := code_word (m := ⟨12, 3⟩) (meth := k12m3) (c := k12c3) (by decide +kernel) rfl rfl rfl (by decide +kernel)
set_option maxRecDepth 65536 in
theorem w_c34 : (Jvm.Cond.code ({ cls := "java/lang/String", name := "<init>", desc := "(Ljava/lang/StringBuilder;)V" } : Jvm.MethodName) jdk_42_method_53_code (2 : Nat) (Option.none : Option Jvm.ClassFile.FieldType)).before args0 about1 = true := code_word (m := ⟨8, 2⟩) (meth := k8m2) (c := k8c2) (by decide +kernel) rfl rfl rfl (by decide +kernel)
set_option maxRecDepth 65536 in
theorem w_c35 : (Jvm.Cond.code ({ cls := "java/lang/String", name := "<init>", desc := "(Ljava/lang/AbstractStringBuilder;Ljava/lang/Void;)V" } : Jvm.MethodName) jdk_42_method_150_code (5 : Nat) (Option.none : Option Jvm.ClassFile.FieldType)).before args0 about1 = true := code_word (m := ⟨8, 9⟩) (meth := k8m9) (c := k8c9) (by decide +kernel) rfl rfl rfl (by decide +kernel)
set_option maxRecDepth 65536 in
theorem w_c36 : (Jvm.Cond.code ({ cls := "java/lang/AbstractStringBuilder", name := "getValue", desc := "()[B" } : Jvm.MethodName) jdk_68_method_64_code (1 : Nat) (Option.some (Jvm.ClassFile.FieldType.array Jvm.ClassFile.FieldType.byte))).before args0 about1 = true := code_word (m := ⟨11, 7⟩) (meth := k11m7) (c := k11c7) (by decide +kernel) rfl rfl rfl (by decide +kernel)
set_option maxRecDepth 65536 in
theorem w_c37 : (Jvm.Cond.code ({ cls := "java/lang/StringBuilder", name := "length", desc := "()I" } : Jvm.MethodName) jdk_67_method_93_code (1 : Nat) (Option.some Jvm.ClassFile.FieldType.int)).before args0 about1 = true := code_word (m := ⟨12, 5⟩) (meth := k12m5) (c := k12c5) (by decide +kernel) rfl rfl rfl (by decide +kernel)
set_option maxRecDepth 65536 in
theorem w_c38 : (Jvm.Cond.code ({ cls := "java/lang/AbstractStringBuilder", name := "length", desc := "()I" } : Jvm.MethodName) jdk_68_method_6_code (1 : Nat) (Option.some Jvm.ClassFile.FieldType.int)).before args0 about1 = true := code_word (m := ⟨11, 2⟩) (meth := k11m2) (c := k11c2) (by decide +kernel) rfl rfl rfl (by decide +kernel)
set_option maxRecDepth 65536 in
theorem w_c39 : (Jvm.Cond.code ({ cls := "java/util/Arrays", name := "copyOfRange", desc := "([BII)[B" } : Jvm.MethodName) jdk_65_method_132_code (3 : Nat) (Option.some (Jvm.ClassFile.FieldType.array Jvm.ClassFile.FieldType.byte))).before args0 about1 = true := code_word (m := ⟨15, 2⟩) (meth := k15m2) (c := k15c2) (by decide +kernel) rfl rfl rfl (by decide +kernel)
set_option maxRecDepth 65536 in
theorem w_c40 : (Jvm.Cond.code ({ cls := "java/util/Arrays", name := "copyOfRangeByte", desc := "([BII)[B" } : Jvm.MethodName) jdk_65_method_133_code (5 : Nat) (Option.some (Jvm.ClassFile.FieldType.array Jvm.ClassFile.FieldType.byte))).before args0 about1 = true := code_word (m := ⟨15, 3⟩) (meth := k15m3) (c := k15c3) (by decide +kernel) rfl rfl rfl (by decide +kernel)
set_option maxRecDepth 65536 in
theorem w_c41 : (Jvm.Cond.code ({ cls := "java/util/Arrays", name := "checkLength", desc := "(II)V" } : Jvm.MethodName) jdk_65_method_131_code (2 : Nat) (Option.none : Option Jvm.ClassFile.FieldType)).before args0 about1 = true := code_word (m := ⟨15, 1⟩) (meth := k15m1) (c := k15c1) (by decide +kernel) rfl rfl rfl (by decide +kernel)
set_option maxRecDepth 65536 in
theorem w_c42 : (Jvm.Cond.code ({ cls := "com/example/nearfield/nearfield/JoinedTextClearPinLaw", name := "same", desc := "(Ljava/lang/String;ILjava/lang/String;)Z" } : Jvm.MethodName) method_3_code (4 : Nat) (Option.some Jvm.ClassFile.FieldType.boolean)).before args0 about1 = true := code_word (m := ⟨1, 2⟩) (meth := k1m2) (c := k1c2) (by decide +kernel) rfl rfl rfl (by decide +kernel)
set_option maxRecDepth 65536 in
theorem w_c43 : (Jvm.Cond.code ({ cls := "java/lang/String", name := "charAt", desc := "(I)C" } : Jvm.MethodName) jdk_42_method_56_code (2 : Nat) (Option.some Jvm.ClassFile.FieldType.char)).before args0 about1 = true := code_word (m := ⟨8, 5⟩) (meth := k8m5) (c := k8c5) (by decide +kernel) rfl rfl rfl (by decide +kernel)
set_option maxRecDepth 65536 in
theorem w_c44 : (Jvm.Cond.code ({ cls := "java/lang/String", name := "isLatin1", desc := "()Z" } : Jvm.MethodName) jdk_42_method_154_code (1 : Nat) (Option.some Jvm.ClassFile.FieldType.boolean)).before args0 about1 = true := code_word (m := ⟨8, 12⟩) (meth := k8m12) (c := k8c12) (by decide +kernel) rfl rfl rfl (by decide +kernel)
set_option maxRecDepth 65536 in
theorem w_c45 : (Jvm.Cond.code ({ cls := "java/lang/StringLatin1", name := "charAt", desc := "([BI)C" } : Jvm.MethodName) jdk_43_method_2_code (2 : Nat) (Option.some Jvm.ClassFile.FieldType.char)).before args0 about1 = true := code_word (m := ⟨14, 1⟩) (meth := k14m1) (c := k14c1) (by decide +kernel) rfl rfl rfl (by decide +kernel)
set_option maxRecDepth 65536 in
theorem w_c46 : (Jvm.Cond.code ({ cls := "java/lang/String", name := "checkIndex", desc := "(II)V" } : Jvm.MethodName) jdk_42_method_155_code (2 : Nat) (Option.none : Option Jvm.ClassFile.FieldType)).before args0 about1 = true := code_word (m := ⟨8, 13⟩) (meth := k8m13) (c := k8c13) (by decide +kernel) rfl rfl rfl (by decide +kernel)
set_option maxRecDepth 65536 in
theorem w_c47 : (Jvm.Cond.code ({ cls := "jdk/internal/util/Preconditions", name := "checkIndex", desc := "(IILjava/util/function/BiFunction;)I" } : Jvm.MethodName) jdk_41_method_11_code (3 : Nat) (Option.some Jvm.ClassFile.FieldType.int)).before args0 about1 = true := code_word (m := ⟨16, 1⟩) (meth := k16m1) (c := k16c1) (by decide +kernel) rfl rfl rfl (by decide +kernel)
set_option maxRecDepth 65536 in
theorem w_c48 : (Jvm.Cond.code ({ cls := "java/lang/StringUTF16", name := "compress", desc := "([CII)[B" } : Jvm.MethodName) jdk_52_method_16_code (6 : Nat) (Option.some (Jvm.ClassFile.FieldType.array Jvm.ClassFile.FieldType.byte))).before args0 about1 = true := code_word (m := ⟨17, 2⟩) (meth := k17m2) (c := k17c2) (by decide +kernel) rfl rfl rfl (by decide +kernel)
set_option maxRecDepth 65536 in
theorem w_c49 : (Jvm.Cond.code ({ cls := "java/lang/StringUTF16", name := "compress", desc := "([CI[BII)I" } : Jvm.MethodName) jdk_52_method_21_code (7 : Nat) (Option.some Jvm.ClassFile.FieldType.int)).before args0 about1 = true := code_word (m := ⟨17, 3⟩) (meth := k17m3) (c := k17c3) (by decide +kernel) rfl rfl rfl (by decide +kernel)
set_option maxRecDepth 65536 in
theorem w_c50 : (Jvm.Cond.code ({ cls := "java/lang/StringUTF16", name := "coderFromArrayLen", desc := "([BI)B" } : Jvm.MethodName) jdk_52_method_15_code (2 : Nat) (Option.some Jvm.ClassFile.FieldType.byte)).before args0 about1 = true := code_word (m := ⟨17, 1⟩) (meth := k17m1) (c := k17c1) (by decide +kernel) rfl rfl rfl (by decide +kernel)
def codes1 : List Jvm.Cond := [Jvm.Cond.code x code maxLocals ret, Jvm.Cond.code ({ cls := "com/example/nearfield/nearfield/JoinedTextClearPinLaw", name := "mk", desc := "(I)Ljava/lang/String;" } : Jvm.MethodName) method_2_code (4 : Nat) (Option.some (Jvm.ClassFile.FieldType.object "java/lang/String")), Jvm.Cond.code ({ cls := "java/lang/Math", name := "min", desc := "(II)I" } : Jvm.MethodName) jdk_29_method_69_code (2 : Nat) (Option.some Jvm.ClassFile.FieldType.int), Jvm.Cond.code ({ cls := "java/lang/String", name := "<init>", desc := "([C)V" } : Jvm.MethodName) jdk_42_method_3_code (2 : Nat) (Option.none : Option Jvm.ClassFile.FieldType), Jvm.Cond.code ({ cls := "java/lang/String", name := "<init>", desc := "([CIILjava/lang/Void;)V" } : Jvm.MethodName) jdk_42_method_149_code (6 : Nat) (Option.none : Option Jvm.ClassFile.FieldType), Jvm.Cond.code ({ cls := "java/lang/Object", name := "<init>", desc := "()V" } : Jvm.MethodName) object_method_1_code (1 : Nat) (Option.none : Option Jvm.ClassFile.FieldType), Jvm.Cond.code ({ cls := "com/example/nearfield/nearfield/JoinedText", name := "<init>", desc := "()V" } : Jvm.MethodName) prog_12_method_1_code (1 : Nat) (Option.none : Option Jvm.ClassFile.FieldType), Jvm.Cond.code ({ cls := "com/example/nearfield/nearfield/JoinedText", name := "append", desc := "(Ljava/lang/String;)V" } : Jvm.MethodName) prog_12_method_2_code (2 : Nat) (Option.none : Option Jvm.ClassFile.FieldType), Jvm.Cond.code ({ cls := "java/lang/String", name := "isEmpty", desc := "()Z" } : Jvm.MethodName) jdk_42_method_55_code (1 : Nat) (Option.some Jvm.ClassFile.FieldType.boolean), Jvm.Cond.code ({ cls := "com/example/nearfield/nearfield/JoinedText", name := "append", desc := "(C)V" } : Jvm.MethodName) prog_12_method_3_code (2 : Nat) (Option.none : Option Jvm.ClassFile.FieldType), Jvm.Cond.code ({ cls := "com/example/nearfield/nearfield/JoinedText", name := "join", desc := "()Ljava/lang/StringBuilder;" } : Jvm.MethodName) prog_12_method_7_code (1 : Nat) (Option.some (Jvm.ClassFile.FieldType.object "java/lang/StringBuilder")), Jvm.Cond.code ({ cls := "java/lang/StringBuilder", name := "<init>", desc := "()V" } : Jvm.MethodName) jdk_67_method_1_code (1 : Nat) (Option.none : Option Jvm.ClassFile.FieldType), Jvm.Cond.code ({ cls := "java/lang/AbstractStringBuilder", name := "<init>", desc := "(I)V" } : Jvm.MethodName) jdk_68_method_2_code (2 : Nat) (Option.none : Option Jvm.ClassFile.FieldType), Jvm.Cond.code ({ cls := "java/lang/StringBuilder", name := "setLength", desc := "(I)V" } : Jvm.MethodName) jdk_67_method_89_code (2 : Nat) (Option.none : Option Jvm.ClassFile.FieldType), Jvm.Cond.code ({ cls := "java/lang/AbstractStringBuilder", name := "setLength", desc := "(I)V" } : Jvm.MethodName) jdk_68_method_13_code (2 : Nat) (Option.none : Option Jvm.ClassFile.FieldType), Jvm.Cond.code ({ cls := "java/lang/AbstractStringBuilder", name := "ensureCapacityInternal", desc := "(I)V" } : Jvm.MethodName) jdk_68_method_9_code (3 : Nat) (Option.none : Option Jvm.ClassFile.FieldType), Jvm.Cond.code ({ cls := "java/lang/StringBuilder", name := "append", desc := "(Ljava/lang/String;)Ljava/lang/StringBuilder;" } : Jvm.MethodName) jdk_67_method_7_code (2 : Nat) (Option.some (Jvm.ClassFile.FieldType.object "java/lang/StringBuilder")), Jvm.Cond.code ({ cls := "java/lang/AbstractStringBuilder", name := "append", desc := "(Ljava/lang/String;)Ljava/lang/AbstractStringBuilder;" } : Jvm.MethodName) jdk_68_method_22_code (3 : Nat) (Option.some (Jvm.ClassFile.FieldType.object "java/lang/AbstractStringBuilder")), Jvm.Cond.code ({ cls := "java/lang/String", name := "length", desc := "()I" } : Jvm.MethodName) jdk_42_method_54_code (1 : Nat) (Option.some Jvm.ClassFile.FieldType.int), Jvm.Cond.code ({ cls := "java/lang/String", name := "coder", desc := "()B" } : Jvm.MethodName) jdk_42_method_152_code (1 : Nat) (Option.some Jvm.ClassFile.FieldType.byte), Jvm.Cond.code ({ cls := "java/lang/AbstractStringBuilder", name := "putStringAt", desc := "(ILjava/lang/String;)V" } : Jvm.MethodName) jdk_68_method_73_code (3 : Nat) (Option.none : Option Jvm.ClassFile.FieldType), Jvm.Cond.code ({ cls := "java/lang/AbstractStringBuilder", name := "inflateIfNeededFor", desc := "(Ljava/lang/String;)V" } : Jvm.MethodName) jdk_68_method_71_code (2 : Nat) (Option.none : Option Jvm.ClassFile.FieldType), Jvm.Cond.code ({ cls := "java/lang/String", name := "getBytes", desc := "([BIB)V" } : Jvm.MethodName) jdk_42_method_147_code (4 : Nat) (Option.none : Option Jvm.ClassFile.FieldType), Jvm.Cond.code ({ cls := "java/lang/StringBuilder", name := "append", desc := "(C)Ljava/lang/StringBuilder;" } : Jvm.MethodName) jdk_67_method_14_code (2 : Nat) (Option.some (Jvm.ClassFile.FieldType.object "java/lang/StringBuilder")), Jvm.Cond.code ({ cls := "java/lang/AbstractStringBuilder", name := "append", desc := "(C)Ljava/lang/AbstractStringBuilder;" } : Jvm.MethodName) jdk_68_method_31_code (2 : Nat) (Option.some (Jvm.ClassFile.FieldType.object "java/lang/AbstractStringBuilder")), Jvm.Cond.code ({ cls := "java/lang/AbstractStringBuilder", name := "isLatin1", desc := "()Z" } : Jvm.MethodName) jdk_68_method_68_code (1 : Nat) (Option.some Jvm.ClassFile.FieldType.boolean), Jvm.Cond.code ({ cls := "java/lang/StringLatin1", name := "canEncode", desc := "(C)Z" } : Jvm.MethodName) jdk_43_method_3_code (1 : Nat) (Option.some Jvm.ClassFile.FieldType.boolean), Jvm.Cond.code ({ cls := "com/example/nearfield/nearfield/JoinedText", name := "clear", desc := "()V" } : Jvm.MethodName) prog_12_method_5_code (1 : Nat) (Option.none : Option Jvm.ClassFile.FieldType), Jvm.Cond.code ({ cls := "com/example/nearfield/nearfield/JoinedText", name := "length", desc := "()I" } : Jvm.MethodName) prog_12_method_4_code (1 : Nat) (Option.some Jvm.ClassFile.FieldType.int), Jvm.Cond.code ({ cls := "com/example/nearfield/nearfield/JoinedText", name := "toString", desc := "()Ljava/lang/String;" } : Jvm.MethodName) prog_12_method_6_code (1 : Nat) (Option.some (Jvm.ClassFile.FieldType.object "java/lang/String")), Jvm.Cond.code ({ cls := "java/lang/String", name := "valueOf", desc := "(C)Ljava/lang/String;" } : Jvm.MethodName) jdk_42_method_139_code (1 : Nat) (Option.some (Jvm.ClassFile.FieldType.object "java/lang/String")), Jvm.Cond.code ({ cls := "java/lang/StringLatin1", name := "toBytes", desc := "(C)[B" } : Jvm.MethodName) jdk_43_method_46_code (1 : Nat) (Option.some (Jvm.ClassFile.FieldType.array Jvm.ClassFile.FieldType.byte)), Jvm.Cond.code ({ cls := "java/lang/String", name := "<init>", desc := "([BB)V" } : Jvm.MethodName) jdk_42_method_151_code (3 : Nat) (Option.none : Option Jvm.ClassFile.FieldType), Jvm.Cond.code ({ cls := "java/lang/StringBuilder", name := "toString", desc := "()Ljava/lang/String;" } : Jvm.MethodName) jdk_67_method_42_code (1 : Nat) (Option.some (Jvm.ClassFile.FieldType.object "java/lang/String")), Jvm.Cond.code ({ cls := "java/lang/String", name := "<init>", desc := "(Ljava/lang/StringBuilder;)V" } : Jvm.MethodName) jdk_42_method_53_code (2 : Nat) (Option.none : Option Jvm.ClassFile.FieldType), Jvm.Cond.code ({ cls := "java/lang/String", name := "<init>", desc := "(Ljava/lang/AbstractStringBuilder;Ljava/lang/Void;)V" } : Jvm.MethodName) jdk_42_method_150_code (5 : Nat) (Option.none : Option Jvm.ClassFile.FieldType), Jvm.Cond.code ({ cls := "java/lang/AbstractStringBuilder", name := "getValue", desc := "()[B" } : Jvm.MethodName) jdk_68_method_64_code (1 : Nat) (Option.some (Jvm.ClassFile.FieldType.array Jvm.ClassFile.FieldType.byte)), Jvm.Cond.code ({ cls := "java/lang/StringBuilder", name := "length", desc := "()I" } : Jvm.MethodName) jdk_67_method_93_code (1 : Nat) (Option.some Jvm.ClassFile.FieldType.int), Jvm.Cond.code ({ cls := "java/lang/AbstractStringBuilder", name := "length", desc := "()I" } : Jvm.MethodName) jdk_68_method_6_code (1 : Nat) (Option.some Jvm.ClassFile.FieldType.int), Jvm.Cond.code ({ cls := "java/util/Arrays", name := "copyOfRange", desc := "([BII)[B" } : Jvm.MethodName) jdk_65_method_132_code (3 : Nat) (Option.some (Jvm.ClassFile.FieldType.array Jvm.ClassFile.FieldType.byte)), Jvm.Cond.code ({ cls := "java/util/Arrays", name := "copyOfRangeByte", desc := "([BII)[B" } : Jvm.MethodName) jdk_65_method_133_code (5 : Nat) (Option.some (Jvm.ClassFile.FieldType.array Jvm.ClassFile.FieldType.byte)), Jvm.Cond.code ({ cls := "java/util/Arrays", name := "checkLength", desc := "(II)V" } : Jvm.MethodName) jdk_65_method_131_code (2 : Nat) (Option.none : Option Jvm.ClassFile.FieldType), Jvm.Cond.code ({ cls := "com/example/nearfield/nearfield/JoinedTextClearPinLaw", name := "same", desc := "(Ljava/lang/String;ILjava/lang/String;)Z" } : Jvm.MethodName) method_3_code (4 : Nat) (Option.some Jvm.ClassFile.FieldType.boolean), Jvm.Cond.code ({ cls := "java/lang/String", name := "charAt", desc := "(I)C" } : Jvm.MethodName) jdk_42_method_56_code (2 : Nat) (Option.some Jvm.ClassFile.FieldType.char), Jvm.Cond.code ({ cls := "java/lang/String", name := "isLatin1", desc := "()Z" } : Jvm.MethodName) jdk_42_method_154_code (1 : Nat) (Option.some Jvm.ClassFile.FieldType.boolean), Jvm.Cond.code ({ cls := "java/lang/StringLatin1", name := "charAt", desc := "([BI)C" } : Jvm.MethodName) jdk_43_method_2_code (2 : Nat) (Option.some Jvm.ClassFile.FieldType.char), Jvm.Cond.code ({ cls := "java/lang/String", name := "checkIndex", desc := "(II)V" } : Jvm.MethodName) jdk_42_method_155_code (2 : Nat) (Option.none : Option Jvm.ClassFile.FieldType), Jvm.Cond.code ({ cls := "jdk/internal/util/Preconditions", name := "checkIndex", desc := "(IILjava/util/function/BiFunction;)I" } : Jvm.MethodName) jdk_41_method_11_code (3 : Nat) (Option.some Jvm.ClassFile.FieldType.int), Jvm.Cond.code ({ cls := "java/lang/StringUTF16", name := "compress", desc := "([CII)[B" } : Jvm.MethodName) jdk_52_method_16_code (6 : Nat) (Option.some (Jvm.ClassFile.FieldType.array Jvm.ClassFile.FieldType.byte)), Jvm.Cond.code ({ cls := "java/lang/StringUTF16", name := "compress", desc := "([CI[BII)I" } : Jvm.MethodName) jdk_52_method_21_code (7 : Nat) (Option.some Jvm.ClassFile.FieldType.int), Jvm.Cond.code ({ cls := "java/lang/StringUTF16", name := "coderFromArrayLen", desc := "([BI)B" } : Jvm.MethodName) jdk_52_method_15_code (2 : Nat) (Option.some Jvm.ClassFile.FieldType.byte)]
set_option maxRecDepth 65536 in
theorem codes_eq : words1.filter isCode = codes1 := rfl
theorem w_codes : ∀ c ∈ words1.filter isCode, c.before args0 about1 = true := by
  rw [codes_eq]
  intro c hc
  simp only [codes1, List.mem_cons, List.not_mem_nil, or_false] at hc
  rcases hc with rfl | rfl | rfl | rfl | rfl | rfl | rfl | rfl | rfl | rfl | rfl | rfl | rfl | rfl | rfl | rfl | rfl | rfl | rfl | rfl | rfl | rfl | rfl | rfl | rfl | rfl | rfl | rfl | rfl | rfl | rfl | rfl | rfl | rfl | rfl | rfl | rfl | rfl | rfl | rfl | rfl | rfl | rfl | rfl | rfl | rfl | rfl | rfl | rfl | rfl | rfl
  · exact w_c0
  · exact w_c1
  · exact w_c2
  · exact w_c3
  · exact w_c4
  · exact w_c5
  · exact w_c6
  · exact w_c7
  · exact w_c8
  · exact w_c9
  · exact w_c10
  · exact w_c11
  · exact w_c12
  · exact w_c13
  · exact w_c14
  · exact w_c15
  · exact w_c16
  · exact w_c17
  · exact w_c18
  · exact w_c19
  · exact w_c20
  · exact w_c21
  · exact w_c22
  · exact w_c23
  · exact w_c24
  · exact w_c25
  · exact w_c26
  · exact w_c27
  · exact w_c28
  · exact w_c29
  · exact w_c30
  · exact w_c31
  · exact w_c32
  · exact w_c33
  · exact w_c34
  · exact w_c35
  · exact w_c36
  · exact w_c37
  · exact w_c38
  · exact w_c39
  · exact w_c40
  · exact w_c41
  · exact w_c42
  · exact w_c43
  · exact w_c44
  · exact w_c45
  · exact w_c46
  · exact w_c47
  · exact w_c48
  · exact w_c49
  · exact w_c50
set_option maxRecDepth 65536 in
theorem w_t1 : (words1.take 24).all (fun c => isCode c || c.before args0 about1) = true := by decide +kernel
set_option maxRecDepth 65536 in
theorem w_t2 : ((words1.drop 24).take 24).all (fun c => isCode c || c.before args0 about1) = true := by decide +kernel
set_option maxRecDepth 65536 in
theorem w_t3 : (((words1.drop 24).drop 24).take 24).all (fun c => isCode c || c.before args0 about1) = true := by decide +kernel
set_option maxRecDepth 65536 in
theorem w_t4 : ((((words1.drop 24).drop 24).drop 24).take 24).all (fun c => isCode c || c.before args0 about1) = true := by decide +kernel
set_option maxRecDepth 65536 in
theorem w_t5 : (((((words1.drop 24).drop 24).drop 24).drop 24).take 24).all (fun c => isCode c || c.before args0 about1) = true := by decide +kernel
set_option maxRecDepth 65536 in
theorem w_t6 : ((((((words1.drop 24).drop 24).drop 24).drop 24).drop 24).take 24).all (fun c => isCode c || c.before args0 about1) = true := by decide +kernel
set_option maxRecDepth 65536 in
theorem w_t7 : (((((((words1.drop 24).drop 24).drop 24).drop 24).drop 24).drop 24).take 24).all (fun c => isCode c || c.before args0 about1) = true := by decide +kernel
set_option maxRecDepth 65536 in
theorem w_t8 : ((((((((words1.drop 24).drop 24).drop 24).drop 24).drop 24).drop 24).drop 24).take 24).all (fun c => isCode c || c.before args0 about1) = true := by decide +kernel
set_option maxRecDepth 65536 in
theorem w_t9 : (((((((((words1.drop 24).drop 24).drop 24).drop 24).drop 24).drop 24).drop 24).drop 24).take 24).all (fun c => isCode c || c.before args0 about1) = true := by decide +kernel
set_option maxRecDepth 65536 in
theorem w_t10 : ((((((((((words1.drop 24).drop 24).drop 24).drop 24).drop 24).drop 24).drop 24).drop 24).drop 24).take 24).all (fun c => isCode c || c.before args0 about1) = true := by decide +kernel
set_option maxRecDepth 65536 in
theorem w_t11 : ((((((((((words1.drop 24).drop 24).drop 24).drop 24).drop 24).drop 24).drop 24).drop 24).drop 24).drop 24).all (fun c => isCode c || c.before args0 about1) = true := by decide +kernel
theorem w_tables : (allAtoms (Jvm.Cond.code x code maxLocals ret :: tables_1)).before args0 about1 = true := by
  rw [allAtoms_all]
  show words1.all (fun c => c.before args0 about1) = true
  refine all_split ?_ w_codes
  rw [← List.take_append_drop 24 words1, List.all_append, w_t1, ← List.take_append_drop 24 (words1.drop 24), List.all_append, w_t2, ← List.take_append_drop 24 ((words1.drop 24).drop 24), List.all_append, w_t3, ← List.take_append_drop 24 (((words1.drop 24).drop 24).drop 24), List.all_append, w_t4, ← List.take_append_drop 24 ((((words1.drop 24).drop 24).drop 24).drop 24), List.all_append, w_t5, ← List.take_append_drop 24 (((((words1.drop 24).drop 24).drop 24).drop 24).drop 24), List.all_append, w_t6, ← List.take_append_drop 24 ((((((words1.drop 24).drop 24).drop 24).drop 24).drop 24).drop 24), List.all_append, w_t7, ← List.take_append_drop 24 (((((((words1.drop 24).drop 24).drop 24).drop 24).drop 24).drop 24).drop 24), List.all_append, w_t8, ← List.take_append_drop 24 ((((((((words1.drop 24).drop 24).drop 24).drop 24).drop 24).drop 24).drop 24).drop 24), List.all_append, w_t9, ← List.take_append_drop 24 (((((((((words1.drop 24).drop 24).drop 24).drop 24).drop 24).drop 24).drop 24).drop 24).drop 24), List.all_append, w_t10, w_t11]
  rfl
set_option maxRecDepth 65536 in
theorem w_rest : rest_1_c.before args0 about1 = true := by decide +kernel
set_option maxRecDepth 65536 in
theorem w_case : (Jvm.Cond.and given_1 narrow_1).before args0 about1 = true := by decide +kernel
set_option maxRecDepth 65536 in
theorem w_consts : constsHeld consts_1 about1 := Jvm.Lit.constsHeldB_iff.mp (by decide +kernel)
theorem w_applies : (headSpec (Jvm.Cond.code x code maxLocals ret :: tables_1) room_1).applies x e0.platform about1 = true :=
  (Spec.applies_iff w_frames).mpr ⟨w_running, w_runnable, w_alone, w_named, w_hears, w_ripe, w_room, w_tables⟩
theorem atStart : AtStart classFile x code maxLocals ret World_1 tables_1 room_1 Calls_1 rest_1 Pre_1 launch0 p0 e0 about1 theMethod args0 below0 :=
  ⟨lists_1, trivial, launch0.admits_env _ _ _, launch0.least_env, fairChoices_fair.cas, fairChoices_fair.clock, w_frames, w_args, w_heap, w_applies, ⟨w_consts, trivial⟩, w_rest, w_case⟩
end start1
theorem witness_1 : WitnessClaimed_1 := ⟨start1.p0, start1.e0, start1.about1, start1.theMethod, start1.args0, start1.below0, start1.atStart⟩
end Jvm.Pilot.@@N@@
