import JvmDerived
import JvmDerived.Pilot.@@N@@Statement
import JvmDerived.Pilot.@@N@@Code
set_option linter.unusedVariables false
set_option linter.unusedSimpArgs false
namespace Jvm.RoadKit
open Sem ClassFile Op Lib Jvm.Stand Jvm.Free Jvm.LawKit
section Own
variable {p : Program} {l : Launch} {e : Env} {R : Room} {s : State} {m : MethodId} {args : Array Value} {below : List Frame} {meth : Method} {c : Code} {T : State} {locs : List Loc} {cells slots : Nat} {Q : Option Value → Heap → List Loc → Prop} {kc ks : Nat}
/-- the run from S comes to its end and leaves what Q says -/
def own_Fin (p : Program) (e : Env) (below : List Frame) (s : State) (kc ks : Nat) (Q : Option Value → Heap → List Loc → Prop) (S : State) : Prop :=
  ∃ U o, Steps p.tables e below S U ∧ U.status = .running ∧ Ended U below o ∧ ∃ v L, o = .returned v ∧ Q v U.heap L ∧ FrameEnd s o U L kc ks
theorem own_step {S S' : State} (h : ∀ t, Steps p.tables e below S' t → Steps p.tables e below S t) (k : own_Fin p e below s kc ks Q S') : own_Fin p e below s kc ks Q S := by
  obtain ⟨U, o, h1, r⟩ := k
  exact ⟨U, o, h _ h1, r⟩
theorem own_ret (X : Stand p l e R s m args below meth c T locs cells slots) (hlk : meth.locks = false) {v : Option Value} (hv : meth.sig.returnType = none → v = none) (hc : cells ≤ kc) (hs : slots ≤ ks) (hQ : Q v T.heap locs) {S : State}
    (hst : ∀ fs, (∀ (f : JFrame) (acts : List Action), f.method = m → f.locked = none → f.entered = [] → (doReturn e (T.setTop f) acts v).1 = T.setFrames fs) → Steps p.tables e below S (T.setFrames fs)) : own_Fin p e below s kc ks Q S := by
  obtain ⟨fs, hr, hrun, hended, hW, hsame⟩ := X.leave (v := v) hv hlk
  exact ⟨_, _, hst fs hr, hrun, hended, _, _, rfl, hQ, ⟨_, rfl⟩, hW, hsame.mono hc hs⟩
def own_FinW (p : Program) (e : Env) (below : List Frame) (s : State) (kc ks : Nat) (Q : Option Value → Heap → List Loc → Prop) (S : State) : Prop :=
  ∃ U o, Steps p.tables e below S U ∧ U.status = .running ∧ Ended U below o ∧ ∃ v L, o = .returned v ∧ Q v U.heap L ∧ ReturnedEndW s o U L kc ks
theorem own_stepW {S S' : State} (h : ∀ t, Steps p.tables e below S' t → Steps p.tables e below S t) (k : own_FinW p e below s kc ks Q S') : own_FinW p e below s kc ks Q S := by
  obtain ⟨U, o, h1, r⟩ := k
  exact ⟨U, o, h _ h1, r⟩
theorem own_retW {vm1 : Vm} (X : Stand p l e R (s.setVm vm1) m args below meth c T locs cells slots) (hlk : meth.locks = false) {n : Nat} (hS : s.Since vm1 n) {h : Heap} (eT : T.heap = h) (hn : n ≤ h.size) {v : Option Value} (hv : meth.sig.returnType = none → v = none) (hc : cells ≤ kc) (hs : slots ≤ ks) (hQ : Q v T.heap locs) {S : State}
    (hst : ∀ fs, (∀ (f : JFrame) (acts : List Action), f.method = m → f.locked = none → f.entered = [] → (doReturn e (T.setTop f) acts v).1 = T.setFrames fs) → Steps p.tables e below S (T.setFrames fs)) : own_FinW p e below s kc ks Q S := by
  obtain ⟨fs, hr, hrun, hended, hE⟩ := X.leaveW hS (by rw [eT]; exact hn) (v := v) hv hlk
  exact ⟨_, _, hst fs hr, hrun, hended, _, _, rfl, hQ, hE.1, hE.2.1, hE.2.2.1, hE.2.2.2.mono hc hs⟩
theorem own_castW {g g' : JFrame} (q : g = g') (k : own_FinW p e below s kc ks Q (T.setTop g')) : own_FinW p e below s kc ks Q (T.setTop g) := q ▸ k
theorem own_m0 : Jvm.Free.Fl.Mag64 1 FP.dconst0 := by unfold Jvm.Free.Fl.Mag64; decide
theorem own_mz : Jvm.Free.Fl.Mag64 1 (0 : UInt64) := by unfold Jvm.Free.Fl.Mag64; decide
theorem own_m1 : Jvm.Free.Fl.Mag64 1024 FP.dconst1 := by unfold Jvm.Free.Fl.Mag64; decide
/-- roads that meet again: what lies behind the meeting is walked once -/
theorem own_join {G : Prop} {F : State → Prop} (X : Stand p l e R s m args below meth c T locs cells slots) {h : Heap} (eT : T.heap = h) {β : Type} (g : β → JFrame) (hyp : β → Prop)
    (body : ∀ Tj : State, Stand p l e R s m args below meth c Tj locs cells slots → Tj.heap = h → ∀ b, hyp b → F (Tj.setTop (g b)))
    (cont : (∀ Tj : State, Stand p l e R s m args below meth c Tj locs cells slots → Tj.heap = h → ∀ b, hyp b → F (Tj.setTop (g b))) → G) : G := cont body
theorem own_ltn {n k j : Int32} (h : ¬ n < k) (q : j < k) : j < n := by
  rw [Int32.lt_iff_toInt_lt] at *
  omega
theorem own_cast {g g' : JFrame} (q : g = g') (k : own_Fin p e below s kc ks Q (T.setTop g')) : own_Fin p e below s kc ks Q (T.setTop g) := q ▸ k
theorem own_getJ {cl : Cell} {vs : List Int64} {j : Int32} (H : Has cl (vs.map Value.long) (.long 0)) (q : ¬ (j < 0 ∨ cl.slots.size ≤ j.toNatClampNeg)) : cl.slots[j.toNatClampNeg]? = some (.long (vs.getD j.toNatClampNeg 0)) := by
  refine Has.at H q ?_
  simp only [List.getD_eq_getElem?_getD, List.getElem?_map]
  cases vs[j.toNatClampNeg]? <;> rfl
def own_Nst (h : Heap) (x : Addr) : Prop := ∃ c : Cell, h[x]? = some c ∧ c.vm.isStatics = false
theorem own_nst_exa {Z : State} {h : Heap} {a : Addr} {C : String} (F : Exa Z h a C) : own_Nst h a := by
  obtain ⟨c, _, h1, _, _, h4, _⟩ := F
  exact ⟨c, h1, h4⟩
theorem own_nst_arv {Z : State} {h : Heap} {a : Addr} {k : ClassId} {ty : FieldType} {n : Int32} {vs : List Value} {d : Value} (F : Arv Z h a k ty n vs d) : own_Nst h a := by
  obtain ⟨c, A, _⟩ := F
  exact ⟨c, A.1, A.plain⟩
theorem own_sta_keep {Z : State} {h h' : Heap} {C n d : String} {v : Value} {ws : List Addr} (F : Sta Z h C n d v) (K : Keep h h' ws) (q : ∀ x ∈ ws, own_Nst h x) : Sta Z h' C n d v := by
  obtain ⟨cf, i, k, f, st, cell, h1, h2, h3, h4, h5, h6, h7⟩ := F
  refine ⟨cf, i, k, f, st, cell, h1, h2, h3, h4, K.2.1 _ _ h5 (fun z => ?_), h6, h7⟩
  obtain ⟨c, e1, e2⟩ := q _ z
  cases h5.symm.trans e1
  rw [h6] at e2
  cases e2
theorem own_sta_keep0 {Z : State} {h h' : Heap} {C n d : String} {v : Value} (F : Sta Z h C n d v) (K : Keep h h' []) : Sta Z h' C n d v := own_sta_keep F K (fun _ z => nomatch z)
end Own
section OwnStart
variable {args : Array Value} {Z : State} {t : Term} {a : Addr} {O n d : String}
theorem own_fldV {v : Value} (ev : t.eval args Z none [] Z = some (.ref a)) (h : (Term.field t O n d).eval args Z none [] Z = some v) : Fld Z Z.heap a O n d v := Fld.start ((fld_at ev).symm.trans h)
theorem own_len {cl : Cell} {ty : FieldType} {k : Int32} (ev : t.eval args Z none [] Z = some (.ref a)) (A : Arr Z Z.heap a cl ty) (h : (Cond.eq (.length t) (.int k)).value args Z none Z [] = some true) : cl.slots.size < 2 ^ 31 ∧ cl.slots.size.toInt32 = k := by
  have e := eqv_i (y := k) rfl h
  have ha := A.fin (Vm.Alike.refl _)
  by_cases q : cl.slots.size < 2 ^ 31
  · exact ⟨q, Value.int.inj (Option.some.inj ((len_f ev ha q).symm.trans e))⟩
  · simp [Term.eval, ev, ha, q] at e
theorem own_elI {cl : Cell} {ty : FieldType} {i k : Int32} (ev : t.eval args Z none [] Z = some (.ref a)) (A : Arr Z Z.heap a cl ty) (hi : ¬ i < 0) (h : (Cond.eq (.elem t (.int i)) (.int k)).value args Z none Z [] = some true) : cl.slots[i.toNatClampNeg]? = some (.int k) :=
  (elem_f ev rfl (A.fin (Vm.Alike.refl _)) hi).symm.trans (eqv_i (y := k) rfl h)
theorem own_elJ {cl : Cell} {ty : FieldType} {i : Int32} {k : Int64} (ev : t.eval args Z none [] Z = some (.ref a)) (A : Arr Z Z.heap a cl ty) (hi : ¬ i < 0) (h : (Cond.eq (.elem t (.int i)) (.long k)).value args Z none Z [] = some true) : cl.slots[i.toNatClampNeg]? = some (.long k) :=
  (elem_f ev rfl (A.fin (Vm.Alike.refl _)) hi).symm.trans (eqv_l (y := k) rfl h)
end OwnStart
end Jvm.RoadKit
namespace Jvm.Pilot.@@N@@
open Jvm Jvm.ClassFile Sem Op Lib Jvm.Free Jvm.Stand Jvm.LawKit Jvm.RoadKit Bundle Jvm.Pilot.@@N@@.Jvm.D
theorem own_w {ts : List Jvm.Cond} {Z : State} {a0 : Array Value} (hw : ∀ d ∈ ts, d.before a0 Z = true) (i : Nat) {d : Jvm.Cond} (h : ts[i]? = some d) : d.before a0 Z = true := hw d (List.mem_of_getElem? h)
theorem own_k (x : Int32) : ((x &&& (2147483647 : Int32)) % (10 : Int32)) = (0 : Int32) ∨ ((x &&& (2147483647 : Int32)) % (10 : Int32)) = (1 : Int32) ∨ ((x &&& (2147483647 : Int32)) % (10 : Int32)) = (2 : Int32) ∨ ((x &&& (2147483647 : Int32)) % (10 : Int32)) = (3 : Int32) ∨ ((x &&& (2147483647 : Int32)) % (10 : Int32)) = (4 : Int32) ∨ ((x &&& (2147483647 : Int32)) % (10 : Int32)) = (5 : Int32) ∨ ((x &&& (2147483647 : Int32)) % (10 : Int32)) = (6 : Int32) ∨ ((x &&& (2147483647 : Int32)) % (10 : Int32)) = (7 : Int32) ∨ ((x &&& (2147483647 : Int32)) % (10 : Int32)) = (8 : Int32) ∨ ((x &&& (2147483647 : Int32)) % (10 : Int32)) = (9 : Int32) := by
  have h1 : (x &&& (2147483647 : Int32)).toInt = x.toInt % 2147483648 := c_mask x _ 31 (by decide) (by decide)
  have h2 := (c_irem (x &&& (2147483647 : Int32)) (10 : Int32) 10 (by decide)).1 (by omega)
  have h3 : ((x &&& (2147483647 : Int32)) % (10 : Int32)).toInt = 0 ∨ ((x &&& (2147483647 : Int32)) % (10 : Int32)).toInt = 1 ∨ ((x &&& (2147483647 : Int32)) % (10 : Int32)).toInt = 2 ∨ ((x &&& (2147483647 : Int32)) % (10 : Int32)).toInt = 3 ∨ ((x &&& (2147483647 : Int32)) % (10 : Int32)).toInt = 4 ∨ ((x &&& (2147483647 : Int32)) % (10 : Int32)).toInt = 5 ∨ ((x &&& (2147483647 : Int32)) % (10 : Int32)).toInt = 6 ∨ ((x &&& (2147483647 : Int32)) % (10 : Int32)).toInt = 7 ∨ ((x &&& (2147483647 : Int32)) % (10 : Int32)).toInt = 8 ∨ ((x &&& (2147483647 : Int32)) % (10 : Int32)).toInt = 9 := by omega
  rcases h3 with h | h | h | h | h | h | h | h | h | h
  · exact Or.inl (Int32.toInt_inj.mp (h.trans (by decide)))
  · exact Or.inr (Or.inl (Int32.toInt_inj.mp (h.trans (by decide))))
  · exact Or.inr (Or.inr (Or.inl (Int32.toInt_inj.mp (h.trans (by decide)))))
  · exact Or.inr (Or.inr (Or.inr (Or.inl (Int32.toInt_inj.mp (h.trans (by decide))))))
  · exact Or.inr (Or.inr (Or.inr (Or.inr (Or.inl (Int32.toInt_inj.mp (h.trans (by decide)))))))
  · exact Or.inr (Or.inr (Or.inr (Or.inr (Or.inr (Or.inl (Int32.toInt_inj.mp (h.trans (by decide))))))))
  · exact Or.inr (Or.inr (Or.inr (Or.inr (Or.inr (Or.inr (Or.inl (Int32.toInt_inj.mp (h.trans (by decide)))))))))
  · exact Or.inr (Or.inr (Or.inr (Or.inr (Or.inr (Or.inr (Or.inr (Or.inl (Int32.toInt_inj.mp (h.trans (by decide))))))))))
  · exact Or.inr (Or.inr (Or.inr (Or.inr (Or.inr (Or.inr (Or.inr (Or.inr (Or.inl (Int32.toInt_inj.mp (h.trans (by decide)))))))))))
  · exact Or.inr (Or.inr (Or.inr (Or.inr (Or.inr (Or.inr (Or.inr (Or.inr (Or.inr (Int32.toInt_inj.mp (h.trans (by decide)))))))))))
theorem own_d1_0 : decode method_2_code 0 = .ok (.iload_n 0, 1) := by decide +kernel
theorem own_d1_1 : decode method_2_code 1 = .ok (.ifCond .ne 7, 3) := by decide +kernel
theorem own_d1_4 : decode method_2_code 4 = .ok (.getstatic 7, 3) := by decide +kernel
theorem own_d1_7 : decode method_2_code 7 = .ok (.areturn, 1) := by decide +kernel
theorem own_pn0 : plainName "com/example/taproom/taproom/model/ColumnTypeIsWholePinLaw" = true := by first | (simp [plainName, overriddenIn]; done) | decide +kernel
theorem own_ef1 (m : MethodId)  : entryFrame m #[(.int (0 : Int32))] 1 = mkF m 0 #[.val (.int (0 : Int32))] [] := by first | (simp [entryFrame, mkF, argsToLocals, Value.category]; done) | rfl
def own_Q1 (Z : State) (s_SMALLINT : Addr) (h0 : Heap) (n0 : Nat) (v : Option Value) (h : Heap) (L : List Loc) : Prop := v = some (.ref s_SMALLINT) ∧ Fr n0 L ∧ h = h0
set_option maxRecDepth 65536 in
set_option maxHeartbeats 40000000 in
theorem own_rm1 (l : Launch) (Z : State) (a0 : Array Value) (hw : ∀ d ∈ tables_1, d.before a0 Z = true) (ws : List Jvm.Cond) (s_SMALLINT : Addr) (h0 : Heap) (n0 : Nat) (Z0 : n0 ≤ h0.size) (S_SMALLINT : Sta Z h0 "com/example/taproom/taproom/model/ColumnType" "SMALLINT" "Lcom/example/taproom/taproom/model/ColumnType;" (.ref s_SMALLINT)) :
    MetFree l (⟨"com/example/taproom/taproom/model/ColumnTypeIsWholePinLaw", "pick", "(I)Lcom/example/taproom/taproom/model/ColumnType;"⟩ : MethodName) (head1 (Jvm.Cond.code (⟨"com/example/taproom/taproom/model/ColumnTypeIsWholePinLaw", "pick", "(I)Lcom/example/taproom/taproom/model/ColumnType;"⟩ : MethodName) method_2_code 1 (some (.object "com/example/taproom/taproom/model/ColumnType")) :: ws) ({ frames := 0, cells := 0, slots := 0, locals := 0 } : Room)) (fun a U => a = #[(.int (0 : Int32))] ∧ Z.Warmed39 U.vm ∧ U.heap = h0) (fun _ _ _ _ _ => True) (fun _ U o U' => ∃ v L, o = .returned v ∧ own_Q1 Z s_SMALLINT h0 n0 v U'.heap L ∧ FrameEnd U o U' L ({ frames := 0, cells := 0, slots := 0, locals := 0 } : Room).cells ({ frames := 0, cells := 0, slots := 0, locals := 0 } : Room).slots) := by
  refine MetFree.of_bodySF (plainFor_of_name own_pn0) hisR ?_
  intro p e s m args below meth c s₁ Bd hml0 hP hK
  obtain ⟨rfl, hZ, hh⟩ := hP
  have hx := Bd.exec
  have hby := Bd.bytes
  have hlk := Bd.notSynchronized
  have hml : c.maxLocals = 1 := hml0
  have hown : s.vm.findClass "com/example/taproom/taproom/model/ColumnTypeIsWholePinLaw" = some m.cls := findClass_of_methodNamed Bd.named
  have hnm := (name_of_methodNamed Bd.named Bd.method).1
  have X0 : Stand p l e ({ frames := 0, cells := 0, slots := 0, locals := 0 } : Room) s m #[(.int (0 : Int32))] below meth c s₁ [] 0 0 := Stand.of_body Bd
  have e0 : s₁.heap = h0 := by rw [← hh, Bd.state]; rfl
  have N0 := Fr.nil n0
  have KR : Keep h0 h0 [] := Keep.refl _ _
  show own_Fin p e below s ({ frames := 0, cells := 0, slots := 0, locals := 0 } : Room).cells ({ frames := 0, cells := 0, slots := 0, locals := 0 } : Room).slots (own_Q1 Z s_SMALLINT h0 n0) (s₁.setTop (entryFrame m #[(.int (0 : Int32))] 1))
  refine own_cast (own_ef1 m ) ?_
  refine own_step (fun _ k => XS.iloadN X0.here hx rfl (hb hby own_d1_0) rfl k) ?_
  show own_Fin p e below s _ _ _ (s₁.setTop (mkF m 1 #[.val (.int (0 : Int32))] [(.int (0 : Int32))]))
  refine own_step (fun _ k => XS.ifNo X0.here hx rfl (hb hby own_d1_1) rfl ((if0 _ _).trans (teq (by decide : (0 : Int32) = (0 : Int32))).2) k) ?_
  show own_Fin p e below s _ _ _ (s₁.setTop (mkF m 4 #[.val (.int (0 : Int32))] []))
  obtain ⟨T1, X1, e1, st1⟩ := getS2 X0 hx hZ hown (host := "") (Or.inl (own_w hw 5 rfl)) Via.refl e0 S_SMALLINT (g := (mkF m 4 #[.val (.int (0 : Int32))] [])) rfl (hb hby own_d1_4)
  refine own_step st1 ?_
  show own_Fin p e below s _ _ _ (T1.setTop (mkF m 7 #[.val (.int (0 : Int32))] [(.ref s_SMALLINT)]))
  exact own_ret X1 hlk (v := some (.ref s_SMALLINT)) (fun h => by rw [Bd.returns] at h; cases h) (by decide) (by decide) (by show own_Q1 Z s_SMALLINT h0 n0 _ T1.heap _; rw [e1]; exact ⟨rfl, N0, rfl⟩) (fun fs hr => retOut X1 hx Bd.returns rfl (Or.inr (Or.inr (Or.inr (Or.inr ⟨rfl, rfl, rfl⟩)))) (hb hby own_d1_7) hr)

theorem own_d2_0 : decode method_2_code 0 = .ok (.iload_n 0, 1) := by decide +kernel
theorem own_d2_1 : decode method_2_code 1 = .ok (.ifCond .ne 7, 3) := by decide +kernel
theorem own_d2_8 : decode method_2_code 8 = .ok (.iload_n 0, 1) := by decide +kernel
theorem own_d2_9 : decode method_2_code 9 = .ok (.iconst 1, 1) := by decide +kernel
theorem own_d2_10 : decode method_2_code 10 = .ok (.if_icmp .ne 7, 3) := by decide +kernel
theorem own_d2_13 : decode method_2_code 13 = .ok (.getstatic 13, 3) := by decide +kernel
theorem own_d2_16 : decode method_2_code 16 = .ok (.areturn, 1) := by decide +kernel
theorem own_ef2 (m : MethodId)  : entryFrame m #[(.int (1 : Int32))] 1 = mkF m 0 #[.val (.int (1 : Int32))] [] := by first | (simp [entryFrame, mkF, argsToLocals, Value.category]; done) | rfl
def own_Q2 (Z : State) (s_INTEGER : Addr) (h0 : Heap) (n0 : Nat) (v : Option Value) (h : Heap) (L : List Loc) : Prop := v = some (.ref s_INTEGER) ∧ Fr n0 L ∧ h = h0
set_option maxRecDepth 65536 in
set_option maxHeartbeats 40000000 in
theorem own_rm2 (l : Launch) (Z : State) (a0 : Array Value) (hw : ∀ d ∈ tables_1, d.before a0 Z = true) (ws : List Jvm.Cond) (s_INTEGER : Addr) (h0 : Heap) (n0 : Nat) (Z0 : n0 ≤ h0.size) (S_INTEGER : Sta Z h0 "com/example/taproom/taproom/model/ColumnType" "INTEGER" "Lcom/example/taproom/taproom/model/ColumnType;" (.ref s_INTEGER)) :
    MetFree l (⟨"com/example/taproom/taproom/model/ColumnTypeIsWholePinLaw", "pick", "(I)Lcom/example/taproom/taproom/model/ColumnType;"⟩ : MethodName) (head1 (Jvm.Cond.code (⟨"com/example/taproom/taproom/model/ColumnTypeIsWholePinLaw", "pick", "(I)Lcom/example/taproom/taproom/model/ColumnType;"⟩ : MethodName) method_2_code 1 (some (.object "com/example/taproom/taproom/model/ColumnType")) :: ws) ({ frames := 0, cells := 0, slots := 0, locals := 0 } : Room)) (fun a U => a = #[(.int (1 : Int32))] ∧ Z.Warmed39 U.vm ∧ U.heap = h0) (fun _ _ _ _ _ => True) (fun _ U o U' => ∃ v L, o = .returned v ∧ own_Q2 Z s_INTEGER h0 n0 v U'.heap L ∧ FrameEnd U o U' L ({ frames := 0, cells := 0, slots := 0, locals := 0 } : Room).cells ({ frames := 0, cells := 0, slots := 0, locals := 0 } : Room).slots) := by
  refine MetFree.of_bodySF (plainFor_of_name own_pn0) hisR ?_
  intro p e s m args below meth c s₁ Bd hml0 hP hK
  obtain ⟨rfl, hZ, hh⟩ := hP
  have hx := Bd.exec
  have hby := Bd.bytes
  have hlk := Bd.notSynchronized
  have hml : c.maxLocals = 1 := hml0
  have hown : s.vm.findClass "com/example/taproom/taproom/model/ColumnTypeIsWholePinLaw" = some m.cls := findClass_of_methodNamed Bd.named
  have hnm := (name_of_methodNamed Bd.named Bd.method).1
  have X0 : Stand p l e ({ frames := 0, cells := 0, slots := 0, locals := 0 } : Room) s m #[(.int (1 : Int32))] below meth c s₁ [] 0 0 := Stand.of_body Bd
  have e0 : s₁.heap = h0 := by rw [← hh, Bd.state]; rfl
  have N0 := Fr.nil n0
  have KR : Keep h0 h0 [] := Keep.refl _ _
  show own_Fin p e below s ({ frames := 0, cells := 0, slots := 0, locals := 0 } : Room).cells ({ frames := 0, cells := 0, slots := 0, locals := 0 } : Room).slots (own_Q2 Z s_INTEGER h0 n0) (s₁.setTop (entryFrame m #[(.int (1 : Int32))] 1))
  refine own_cast (own_ef2 m ) ?_
  refine own_step (fun _ k => XS.iloadN X0.here hx rfl (hb hby own_d2_0) rfl k) ?_
  show own_Fin p e below s _ _ _ (s₁.setTop (mkF m 1 #[.val (.int (1 : Int32))] [(.int (1 : Int32))]))
  refine own_step (fun _ k => XS.ifYes X0.here hx rfl (pc0 := 1) (pc' := 8) rfl (hb hby own_d2_1) rfl ((if0 _ _).trans (feq (by decide : ¬ ((1 : Int32) = (0 : Int32)))).2) (by decide) (by decide) k) ?_
  show own_Fin p e below s _ _ _ (s₁.setTop (mkF m 8 #[.val (.int (1 : Int32))] []))
  refine own_step (fun _ k => XS.iloadN X0.here hx rfl (hb hby own_d2_8) rfl k) ?_
  show own_Fin p e below s _ _ _ (s₁.setTop (mkF m 9 #[.val (.int (1 : Int32))] [(.int (1 : Int32))]))
  refine own_step (fun _ k => XS.iconst X0.here hx rfl (hb hby own_d2_9) k) ?_
  show own_Fin p e below s _ _ _ (s₁.setTop (mkF m 10 #[.val (.int (1 : Int32))] [(.int (1 : Int32)), (.int (1 : Int32))]))
  refine own_step (fun _ k => XS.icmpNo X0.here hx rfl (hb hby own_d2_10) rfl (teq (by decide : (1 : Int32) = (1 : Int32))).2 k) ?_
  show own_Fin p e below s _ _ _ (s₁.setTop (mkF m 13 #[.val (.int (1 : Int32))] []))
  obtain ⟨T1, X1, e1, st1⟩ := getS2 X0 hx hZ hown (host := "") (Or.inl (own_w hw 20 rfl)) Via.refl e0 S_INTEGER (g := (mkF m 13 #[.val (.int (1 : Int32))] [])) rfl (hb hby own_d2_13)
  refine own_step st1 ?_
  show own_Fin p e below s _ _ _ (T1.setTop (mkF m 16 #[.val (.int (1 : Int32))] [(.ref s_INTEGER)]))
  exact own_ret X1 hlk (v := some (.ref s_INTEGER)) (fun h => by rw [Bd.returns] at h; cases h) (by decide) (by decide) (by show own_Q2 Z s_INTEGER h0 n0 _ T1.heap _; rw [e1]; exact ⟨rfl, N0, rfl⟩) (fun fs hr => retOut X1 hx Bd.returns rfl (Or.inr (Or.inr (Or.inr (Or.inr ⟨rfl, rfl, rfl⟩)))) (hb hby own_d2_16) hr)

theorem own_d3_0 : decode method_2_code 0 = .ok (.iload_n 0, 1) := by decide +kernel
theorem own_d3_1 : decode method_2_code 1 = .ok (.ifCond .ne 7, 3) := by decide +kernel
theorem own_d3_8 : decode method_2_code 8 = .ok (.iload_n 0, 1) := by decide +kernel
theorem own_d3_9 : decode method_2_code 9 = .ok (.iconst 1, 1) := by decide +kernel
theorem own_d3_10 : decode method_2_code 10 = .ok (.if_icmp .ne 7, 3) := by decide +kernel
theorem own_d3_17 : decode method_2_code 17 = .ok (.iload_n 0, 1) := by decide +kernel
theorem own_d3_18 : decode method_2_code 18 = .ok (.iconst 2, 1) := by decide +kernel
theorem own_d3_19 : decode method_2_code 19 = .ok (.if_icmp .ne 7, 3) := by decide +kernel
theorem own_d3_22 : decode method_2_code 22 = .ok (.getstatic 16, 3) := by decide +kernel
theorem own_d3_25 : decode method_2_code 25 = .ok (.areturn, 1) := by decide +kernel
theorem own_ef3 (m : MethodId)  : entryFrame m #[(.int (2 : Int32))] 1 = mkF m 0 #[.val (.int (2 : Int32))] [] := by first | (simp [entryFrame, mkF, argsToLocals, Value.category]; done) | rfl
def own_Q3 (Z : State) (s_BIGINT : Addr) (h0 : Heap) (n0 : Nat) (v : Option Value) (h : Heap) (L : List Loc) : Prop := v = some (.ref s_BIGINT) ∧ Fr n0 L ∧ h = h0
set_option maxRecDepth 65536 in
set_option maxHeartbeats 40000000 in
theorem own_rm3 (l : Launch) (Z : State) (a0 : Array Value) (hw : ∀ d ∈ tables_1, d.before a0 Z = true) (ws : List Jvm.Cond) (s_BIGINT : Addr) (h0 : Heap) (n0 : Nat) (Z0 : n0 ≤ h0.size) (S_BIGINT : Sta Z h0 "com/example/taproom/taproom/model/ColumnType" "BIGINT" "Lcom/example/taproom/taproom/model/ColumnType;" (.ref s_BIGINT)) :
    MetFree l (⟨"com/example/taproom/taproom/model/ColumnTypeIsWholePinLaw", "pick", "(I)Lcom/example/taproom/taproom/model/ColumnType;"⟩ : MethodName) (head1 (Jvm.Cond.code (⟨"com/example/taproom/taproom/model/ColumnTypeIsWholePinLaw", "pick", "(I)Lcom/example/taproom/taproom/model/ColumnType;"⟩ : MethodName) method_2_code 1 (some (.object "com/example/taproom/taproom/model/ColumnType")) :: ws) ({ frames := 0, cells := 0, slots := 0, locals := 0 } : Room)) (fun a U => a = #[(.int (2 : Int32))] ∧ Z.Warmed39 U.vm ∧ U.heap = h0) (fun _ _ _ _ _ => True) (fun _ U o U' => ∃ v L, o = .returned v ∧ own_Q3 Z s_BIGINT h0 n0 v U'.heap L ∧ FrameEnd U o U' L ({ frames := 0, cells := 0, slots := 0, locals := 0 } : Room).cells ({ frames := 0, cells := 0, slots := 0, locals := 0 } : Room).slots) := by
  refine MetFree.of_bodySF (plainFor_of_name own_pn0) hisR ?_
  intro p e s m args below meth c s₁ Bd hml0 hP hK
  obtain ⟨rfl, hZ, hh⟩ := hP
  have hx := Bd.exec
  have hby := Bd.bytes
  have hlk := Bd.notSynchronized
  have hml : c.maxLocals = 1 := hml0
  have hown : s.vm.findClass "com/example/taproom/taproom/model/ColumnTypeIsWholePinLaw" = some m.cls := findClass_of_methodNamed Bd.named
  have hnm := (name_of_methodNamed Bd.named Bd.method).1
  have X0 : Stand p l e ({ frames := 0, cells := 0, slots := 0, locals := 0 } : Room) s m #[(.int (2 : Int32))] below meth c s₁ [] 0 0 := Stand.of_body Bd
  have e0 : s₁.heap = h0 := by rw [← hh, Bd.state]; rfl
  have N0 := Fr.nil n0
  have KR : Keep h0 h0 [] := Keep.refl _ _
  show own_Fin p e below s ({ frames := 0, cells := 0, slots := 0, locals := 0 } : Room).cells ({ frames := 0, cells := 0, slots := 0, locals := 0 } : Room).slots (own_Q3 Z s_BIGINT h0 n0) (s₁.setTop (entryFrame m #[(.int (2 : Int32))] 1))
  refine own_cast (own_ef3 m ) ?_
  refine own_step (fun _ k => XS.iloadN X0.here hx rfl (hb hby own_d3_0) rfl k) ?_
  show own_Fin p e below s _ _ _ (s₁.setTop (mkF m 1 #[.val (.int (2 : Int32))] [(.int (2 : Int32))]))
  refine own_step (fun _ k => XS.ifYes X0.here hx rfl (pc0 := 1) (pc' := 8) rfl (hb hby own_d3_1) rfl ((if0 _ _).trans (feq (by decide : ¬ ((2 : Int32) = (0 : Int32)))).2) (by decide) (by decide) k) ?_
  show own_Fin p e below s _ _ _ (s₁.setTop (mkF m 8 #[.val (.int (2 : Int32))] []))
  refine own_step (fun _ k => XS.iloadN X0.here hx rfl (hb hby own_d3_8) rfl k) ?_
  show own_Fin p e below s _ _ _ (s₁.setTop (mkF m 9 #[.val (.int (2 : Int32))] [(.int (2 : Int32))]))
  refine own_step (fun _ k => XS.iconst X0.here hx rfl (hb hby own_d3_9) k) ?_
  show own_Fin p e below s _ _ _ (s₁.setTop (mkF m 10 #[.val (.int (2 : Int32))] [(.int (1 : Int32)), (.int (2 : Int32))]))
  refine own_step (fun _ k => XS.icmpYes X0.here hx rfl (pc0 := 10) (pc' := 17) rfl (hb hby own_d3_10) rfl (feq (by decide : ¬ ((2 : Int32) = (1 : Int32)))).2 (by decide) (by decide) k) ?_
  show own_Fin p e below s _ _ _ (s₁.setTop (mkF m 17 #[.val (.int (2 : Int32))] []))
  refine own_step (fun _ k => XS.iloadN X0.here hx rfl (hb hby own_d3_17) rfl k) ?_
  show own_Fin p e below s _ _ _ (s₁.setTop (mkF m 18 #[.val (.int (2 : Int32))] [(.int (2 : Int32))]))
  refine own_step (fun _ k => XS.iconst X0.here hx rfl (hb hby own_d3_18) k) ?_
  show own_Fin p e below s _ _ _ (s₁.setTop (mkF m 19 #[.val (.int (2 : Int32))] [(.int (2 : Int32)), (.int (2 : Int32))]))
  refine own_step (fun _ k => XS.icmpNo X0.here hx rfl (hb hby own_d3_19) rfl (teq (by decide : (2 : Int32) = (2 : Int32))).2 k) ?_
  show own_Fin p e below s _ _ _ (s₁.setTop (mkF m 22 #[.val (.int (2 : Int32))] []))
  obtain ⟨T1, X1, e1, st1⟩ := getS2 X0 hx hZ hown (host := "") (Or.inl (own_w hw 25 rfl)) Via.refl e0 S_BIGINT (g := (mkF m 22 #[.val (.int (2 : Int32))] [])) rfl (hb hby own_d3_22)
  refine own_step st1 ?_
  show own_Fin p e below s _ _ _ (T1.setTop (mkF m 25 #[.val (.int (2 : Int32))] [(.ref s_BIGINT)]))
  exact own_ret X1 hlk (v := some (.ref s_BIGINT)) (fun h => by rw [Bd.returns] at h; cases h) (by decide) (by decide) (by show own_Q3 Z s_BIGINT h0 n0 _ T1.heap _; rw [e1]; exact ⟨rfl, N0, rfl⟩) (fun fs hr => retOut X1 hx Bd.returns rfl (Or.inr (Or.inr (Or.inr (Or.inr ⟨rfl, rfl, rfl⟩)))) (hb hby own_d3_25) hr)

theorem own_d4_0 : decode method_2_code 0 = .ok (.iload_n 0, 1) := by decide +kernel
theorem own_d4_1 : decode method_2_code 1 = .ok (.ifCond .ne 7, 3) := by decide +kernel
theorem own_d4_8 : decode method_2_code 8 = .ok (.iload_n 0, 1) := by decide +kernel
theorem own_d4_9 : decode method_2_code 9 = .ok (.iconst 1, 1) := by decide +kernel
theorem own_d4_10 : decode method_2_code 10 = .ok (.if_icmp .ne 7, 3) := by decide +kernel
theorem own_d4_17 : decode method_2_code 17 = .ok (.iload_n 0, 1) := by decide +kernel
theorem own_d4_18 : decode method_2_code 18 = .ok (.iconst 2, 1) := by decide +kernel
theorem own_d4_19 : decode method_2_code 19 = .ok (.if_icmp .ne 7, 3) := by decide +kernel
theorem own_d4_26 : decode method_2_code 26 = .ok (.iload_n 0, 1) := by decide +kernel
theorem own_d4_27 : decode method_2_code 27 = .ok (.iconst 3, 1) := by decide +kernel
theorem own_d4_28 : decode method_2_code 28 = .ok (.if_icmp .ne 7, 3) := by decide +kernel
theorem own_d4_31 : decode method_2_code 31 = .ok (.getstatic 19, 3) := by decide +kernel
theorem own_d4_34 : decode method_2_code 34 = .ok (.areturn, 1) := by decide +kernel
theorem own_ef4 (m : MethodId)  : entryFrame m #[(.int (3 : Int32))] 1 = mkF m 0 #[.val (.int (3 : Int32))] [] := by first | (simp [entryFrame, mkF, argsToLocals, Value.category]; done) | rfl
def own_Q4 (Z : State) (s_REAL : Addr) (h0 : Heap) (n0 : Nat) (v : Option Value) (h : Heap) (L : List Loc) : Prop := v = some (.ref s_REAL) ∧ Fr n0 L ∧ h = h0
set_option maxRecDepth 65536 in
set_option maxHeartbeats 40000000 in
theorem own_rm4 (l : Launch) (Z : State) (a0 : Array Value) (hw : ∀ d ∈ tables_1, d.before a0 Z = true) (ws : List Jvm.Cond) (s_REAL : Addr) (h0 : Heap) (n0 : Nat) (Z0 : n0 ≤ h0.size) (S_REAL : Sta Z h0 "com/example/taproom/taproom/model/ColumnType" "REAL" "Lcom/example/taproom/taproom/model/ColumnType;" (.ref s_REAL)) :
    MetFree l (⟨"com/example/taproom/taproom/model/ColumnTypeIsWholePinLaw", "pick", "(I)Lcom/example/taproom/taproom/model/ColumnType;"⟩ : MethodName) (head1 (Jvm.Cond.code (⟨"com/example/taproom/taproom/model/ColumnTypeIsWholePinLaw", "pick", "(I)Lcom/example/taproom/taproom/model/ColumnType;"⟩ : MethodName) method_2_code 1 (some (.object "com/example/taproom/taproom/model/ColumnType")) :: ws) ({ frames := 0, cells := 0, slots := 0, locals := 0 } : Room)) (fun a U => a = #[(.int (3 : Int32))] ∧ Z.Warmed39 U.vm ∧ U.heap = h0) (fun _ _ _ _ _ => True) (fun _ U o U' => ∃ v L, o = .returned v ∧ own_Q4 Z s_REAL h0 n0 v U'.heap L ∧ FrameEnd U o U' L ({ frames := 0, cells := 0, slots := 0, locals := 0 } : Room).cells ({ frames := 0, cells := 0, slots := 0, locals := 0 } : Room).slots) := by
  refine MetFree.of_bodySF (plainFor_of_name own_pn0) hisR ?_
  intro p e s m args below meth c s₁ Bd hml0 hP hK
  obtain ⟨rfl, hZ, hh⟩ := hP
  have hx := Bd.exec
  have hby := Bd.bytes
  have hlk := Bd.notSynchronized
  have hml : c.maxLocals = 1 := hml0
  have hown : s.vm.findClass "com/example/taproom/taproom/model/ColumnTypeIsWholePinLaw" = some m.cls := findClass_of_methodNamed Bd.named
  have hnm := (name_of_methodNamed Bd.named Bd.method).1
  have X0 : Stand p l e ({ frames := 0, cells := 0, slots := 0, locals := 0 } : Room) s m #[(.int (3 : Int32))] below meth c s₁ [] 0 0 := Stand.of_body Bd
  have e0 : s₁.heap = h0 := by rw [← hh, Bd.state]; rfl
  have N0 := Fr.nil n0
  have KR : Keep h0 h0 [] := Keep.refl _ _
  show own_Fin p e below s ({ frames := 0, cells := 0, slots := 0, locals := 0 } : Room).cells ({ frames := 0, cells := 0, slots := 0, locals := 0 } : Room).slots (own_Q4 Z s_REAL h0 n0) (s₁.setTop (entryFrame m #[(.int (3 : Int32))] 1))
  refine own_cast (own_ef4 m ) ?_
  refine own_step (fun _ k => XS.iloadN X0.here hx rfl (hb hby own_d4_0) rfl k) ?_
  show own_Fin p e below s _ _ _ (s₁.setTop (mkF m 1 #[.val (.int (3 : Int32))] [(.int (3 : Int32))]))
  refine own_step (fun _ k => XS.ifYes X0.here hx rfl (pc0 := 1) (pc' := 8) rfl (hb hby own_d4_1) rfl ((if0 _ _).trans (feq (by decide : ¬ ((3 : Int32) = (0 : Int32)))).2) (by decide) (by decide) k) ?_
  show own_Fin p e below s _ _ _ (s₁.setTop (mkF m 8 #[.val (.int (3 : Int32))] []))
  refine own_step (fun _ k => XS.iloadN X0.here hx rfl (hb hby own_d4_8) rfl k) ?_
  show own_Fin p e below s _ _ _ (s₁.setTop (mkF m 9 #[.val (.int (3 : Int32))] [(.int (3 : Int32))]))
  refine own_step (fun _ k => XS.iconst X0.here hx rfl (hb hby own_d4_9) k) ?_
  show own_Fin p e below s _ _ _ (s₁.setTop (mkF m 10 #[.val (.int (3 : Int32))] [(.int (1 : Int32)), (.int (3 : Int32))]))
  refine own_step (fun _ k => XS.icmpYes X0.here hx rfl (pc0 := 10) (pc' := 17) rfl (hb hby own_d4_10) rfl (feq (by decide : ¬ ((3 : Int32) = (1 : Int32)))).2 (by decide) (by decide) k) ?_
  show own_Fin p e below s _ _ _ (s₁.setTop (mkF m 17 #[.val (.int (3 : Int32))] []))
  refine own_step (fun _ k => XS.iloadN X0.here hx rfl (hb hby own_d4_17) rfl k) ?_
  show own_Fin p e below s _ _ _ (s₁.setTop (mkF m 18 #[.val (.int (3 : Int32))] [(.int (3 : Int32))]))
  refine own_step (fun _ k => XS.iconst X0.here hx rfl (hb hby own_d4_18) k) ?_
  show own_Fin p e below s _ _ _ (s₁.setTop (mkF m 19 #[.val (.int (3 : Int32))] [(.int (2 : Int32)), (.int (3 : Int32))]))
  refine own_step (fun _ k => XS.icmpYes X0.here hx rfl (pc0 := 19) (pc' := 26) rfl (hb hby own_d4_19) rfl (feq (by decide : ¬ ((3 : Int32) = (2 : Int32)))).2 (by decide) (by decide) k) ?_
  show own_Fin p e below s _ _ _ (s₁.setTop (mkF m 26 #[.val (.int (3 : Int32))] []))
  refine own_step (fun _ k => XS.iloadN X0.here hx rfl (hb hby own_d4_26) rfl k) ?_
  show own_Fin p e below s _ _ _ (s₁.setTop (mkF m 27 #[.val (.int (3 : Int32))] [(.int (3 : Int32))]))
  refine own_step (fun _ k => XS.iconst X0.here hx rfl (hb hby own_d4_27) k) ?_
  show own_Fin p e below s _ _ _ (s₁.setTop (mkF m 28 #[.val (.int (3 : Int32))] [(.int (3 : Int32)), (.int (3 : Int32))]))
  refine own_step (fun _ k => XS.icmpNo X0.here hx rfl (hb hby own_d4_28) rfl (teq (by decide : (3 : Int32) = (3 : Int32))).2 k) ?_
  show own_Fin p e below s _ _ _ (s₁.setTop (mkF m 31 #[.val (.int (3 : Int32))] []))
  obtain ⟨T1, X1, e1, st1⟩ := getS2 X0 hx hZ hown (host := "") (Or.inl (own_w hw 14 rfl)) Via.refl e0 S_REAL (g := (mkF m 31 #[.val (.int (3 : Int32))] [])) rfl (hb hby own_d4_31)
  refine own_step st1 ?_
  show own_Fin p e below s _ _ _ (T1.setTop (mkF m 34 #[.val (.int (3 : Int32))] [(.ref s_REAL)]))
  exact own_ret X1 hlk (v := some (.ref s_REAL)) (fun h => by rw [Bd.returns] at h; cases h) (by decide) (by decide) (by show own_Q4 Z s_REAL h0 n0 _ T1.heap _; rw [e1]; exact ⟨rfl, N0, rfl⟩) (fun fs hr => retOut X1 hx Bd.returns rfl (Or.inr (Or.inr (Or.inr (Or.inr ⟨rfl, rfl, rfl⟩)))) (hb hby own_d4_34) hr)

theorem own_d5_0 : decode method_2_code 0 = .ok (.iload_n 0, 1) := by decide +kernel
theorem own_d5_1 : decode method_2_code 1 = .ok (.ifCond .ne 7, 3) := by decide +kernel
theorem own_d5_8 : decode method_2_code 8 = .ok (.iload_n 0, 1) := by decide +kernel
theorem own_d5_9 : decode method_2_code 9 = .ok (.iconst 1, 1) := by decide +kernel
theorem own_d5_10 : decode method_2_code 10 = .ok (.if_icmp .ne 7, 3) := by decide +kernel
theorem own_d5_17 : decode method_2_code 17 = .ok (.iload_n 0, 1) := by decide +kernel
theorem own_d5_18 : decode method_2_code 18 = .ok (.iconst 2, 1) := by decide +kernel
theorem own_d5_19 : decode method_2_code 19 = .ok (.if_icmp .ne 7, 3) := by decide +kernel
theorem own_d5_26 : decode method_2_code 26 = .ok (.iload_n 0, 1) := by decide +kernel
theorem own_d5_27 : decode method_2_code 27 = .ok (.iconst 3, 1) := by decide +kernel
theorem own_d5_28 : decode method_2_code 28 = .ok (.if_icmp .ne 7, 3) := by decide +kernel
theorem own_d5_35 : decode method_2_code 35 = .ok (.iload_n 0, 1) := by decide +kernel
theorem own_d5_36 : decode method_2_code 36 = .ok (.iconst 4, 1) := by decide +kernel
theorem own_d5_37 : decode method_2_code 37 = .ok (.if_icmp .ne 7, 3) := by decide +kernel
theorem own_d5_40 : decode method_2_code 40 = .ok (.getstatic 22, 3) := by decide +kernel
theorem own_d5_43 : decode method_2_code 43 = .ok (.areturn, 1) := by decide +kernel
theorem own_ef5 (m : MethodId)  : entryFrame m #[(.int (4 : Int32))] 1 = mkF m 0 #[.val (.int (4 : Int32))] [] := by first | (simp [entryFrame, mkF, argsToLocals, Value.category]; done) | rfl
def own_Q5 (Z : State) (s_DOUBLE : Addr) (h0 : Heap) (n0 : Nat) (v : Option Value) (h : Heap) (L : List Loc) : Prop := v = some (.ref s_DOUBLE) ∧ Fr n0 L ∧ h = h0
set_option maxRecDepth 65536 in
set_option maxHeartbeats 40000000 in
theorem own_rm5 (l : Launch) (Z : State) (a0 : Array Value) (hw : ∀ d ∈ tables_1, d.before a0 Z = true) (ws : List Jvm.Cond) (s_DOUBLE : Addr) (h0 : Heap) (n0 : Nat) (Z0 : n0 ≤ h0.size) (S_DOUBLE : Sta Z h0 "com/example/taproom/taproom/model/ColumnType" "DOUBLE" "Lcom/example/taproom/taproom/model/ColumnType;" (.ref s_DOUBLE)) :
    MetFree l (⟨"com/example/taproom/taproom/model/ColumnTypeIsWholePinLaw", "pick", "(I)Lcom/example/taproom/taproom/model/ColumnType;"⟩ : MethodName) (head1 (Jvm.Cond.code (⟨"com/example/taproom/taproom/model/ColumnTypeIsWholePinLaw", "pick", "(I)Lcom/example/taproom/taproom/model/ColumnType;"⟩ : MethodName) method_2_code 1 (some (.object "com/example/taproom/taproom/model/ColumnType")) :: ws) ({ frames := 0, cells := 0, slots := 0, locals := 0 } : Room)) (fun a U => a = #[(.int (4 : Int32))] ∧ Z.Warmed39 U.vm ∧ U.heap = h0) (fun _ _ _ _ _ => True) (fun _ U o U' => ∃ v L, o = .returned v ∧ own_Q5 Z s_DOUBLE h0 n0 v U'.heap L ∧ FrameEnd U o U' L ({ frames := 0, cells := 0, slots := 0, locals := 0 } : Room).cells ({ frames := 0, cells := 0, slots := 0, locals := 0 } : Room).slots) := by
  refine MetFree.of_bodySF (plainFor_of_name own_pn0) hisR ?_
  intro p e s m args below meth c s₁ Bd hml0 hP hK
  obtain ⟨rfl, hZ, hh⟩ := hP
  have hx := Bd.exec
  have hby := Bd.bytes
  have hlk := Bd.notSynchronized
  have hml : c.maxLocals = 1 := hml0
  have hown : s.vm.findClass "com/example/taproom/taproom/model/ColumnTypeIsWholePinLaw" = some m.cls := findClass_of_methodNamed Bd.named
  have hnm := (name_of_methodNamed Bd.named Bd.method).1
  have X0 : Stand p l e ({ frames := 0, cells := 0, slots := 0, locals := 0 } : Room) s m #[(.int (4 : Int32))] below meth c s₁ [] 0 0 := Stand.of_body Bd
  have e0 : s₁.heap = h0 := by rw [← hh, Bd.state]; rfl
  have N0 := Fr.nil n0
  have KR : Keep h0 h0 [] := Keep.refl _ _
  show own_Fin p e below s ({ frames := 0, cells := 0, slots := 0, locals := 0 } : Room).cells ({ frames := 0, cells := 0, slots := 0, locals := 0 } : Room).slots (own_Q5 Z s_DOUBLE h0 n0) (s₁.setTop (entryFrame m #[(.int (4 : Int32))] 1))
  refine own_cast (own_ef5 m ) ?_
  refine own_step (fun _ k => XS.iloadN X0.here hx rfl (hb hby own_d5_0) rfl k) ?_
  show own_Fin p e below s _ _ _ (s₁.setTop (mkF m 1 #[.val (.int (4 : Int32))] [(.int (4 : Int32))]))
  refine own_step (fun _ k => XS.ifYes X0.here hx rfl (pc0 := 1) (pc' := 8) rfl (hb hby own_d5_1) rfl ((if0 _ _).trans (feq (by decide : ¬ ((4 : Int32) = (0 : Int32)))).2) (by decide) (by decide) k) ?_
  show own_Fin p e below s _ _ _ (s₁.setTop (mkF m 8 #[.val (.int (4 : Int32))] []))
  refine own_step (fun _ k => XS.iloadN X0.here hx rfl (hb hby own_d5_8) rfl k) ?_
  show own_Fin p e below s _ _ _ (s₁.setTop (mkF m 9 #[.val (.int (4 : Int32))] [(.int (4 : Int32))]))
  refine own_step (fun _ k => XS.iconst X0.here hx rfl (hb hby own_d5_9) k) ?_
  show own_Fin p e below s _ _ _ (s₁.setTop (mkF m 10 #[.val (.int (4 : Int32))] [(.int (1 : Int32)), (.int (4 : Int32))]))
  refine own_step (fun _ k => XS.icmpYes X0.here hx rfl (pc0 := 10) (pc' := 17) rfl (hb hby own_d5_10) rfl (feq (by decide : ¬ ((4 : Int32) = (1 : Int32)))).2 (by decide) (by decide) k) ?_
  show own_Fin p e below s _ _ _ (s₁.setTop (mkF m 17 #[.val (.int (4 : Int32))] []))
  refine own_step (fun _ k => XS.iloadN X0.here hx rfl (hb hby own_d5_17) rfl k) ?_
  show own_Fin p e below s _ _ _ (s₁.setTop (mkF m 18 #[.val (.int (4 : Int32))] [(.int (4 : Int32))]))
  refine own_step (fun _ k => XS.iconst X0.here hx rfl (hb hby own_d5_18) k) ?_
  show own_Fin p e below s _ _ _ (s₁.setTop (mkF m 19 #[.val (.int (4 : Int32))] [(.int (2 : Int32)), (.int (4 : Int32))]))
  refine own_step (fun _ k => XS.icmpYes X0.here hx rfl (pc0 := 19) (pc' := 26) rfl (hb hby own_d5_19) rfl (feq (by decide : ¬ ((4 : Int32) = (2 : Int32)))).2 (by decide) (by decide) k) ?_
  show own_Fin p e below s _ _ _ (s₁.setTop (mkF m 26 #[.val (.int (4 : Int32))] []))
  refine own_step (fun _ k => XS.iloadN X0.here hx rfl (hb hby own_d5_26) rfl k) ?_
  show own_Fin p e below s _ _ _ (s₁.setTop (mkF m 27 #[.val (.int (4 : Int32))] [(.int (4 : Int32))]))
  refine own_step (fun _ k => XS.iconst X0.here hx rfl (hb hby own_d5_27) k) ?_
  show own_Fin p e below s _ _ _ (s₁.setTop (mkF m 28 #[.val (.int (4 : Int32))] [(.int (3 : Int32)), (.int (4 : Int32))]))
  refine own_step (fun _ k => XS.icmpYes X0.here hx rfl (pc0 := 28) (pc' := 35) rfl (hb hby own_d5_28) rfl (feq (by decide : ¬ ((4 : Int32) = (3 : Int32)))).2 (by decide) (by decide) k) ?_
  show own_Fin p e below s _ _ _ (s₁.setTop (mkF m 35 #[.val (.int (4 : Int32))] []))
  refine own_step (fun _ k => XS.iloadN X0.here hx rfl (hb hby own_d5_35) rfl k) ?_
  show own_Fin p e below s _ _ _ (s₁.setTop (mkF m 36 #[.val (.int (4 : Int32))] [(.int (4 : Int32))]))
  refine own_step (fun _ k => XS.iconst X0.here hx rfl (hb hby own_d5_36) k) ?_
  show own_Fin p e below s _ _ _ (s₁.setTop (mkF m 37 #[.val (.int (4 : Int32))] [(.int (4 : Int32)), (.int (4 : Int32))]))
  refine own_step (fun _ k => XS.icmpNo X0.here hx rfl (hb hby own_d5_37) rfl (teq (by decide : (4 : Int32) = (4 : Int32))).2 k) ?_
  show own_Fin p e below s _ _ _ (s₁.setTop (mkF m 40 #[.val (.int (4 : Int32))] []))
  obtain ⟨T1, X1, e1, st1⟩ := getS2 X0 hx hZ hown (host := "") (Or.inl (own_w hw 21 rfl)) Via.refl e0 S_DOUBLE (g := (mkF m 40 #[.val (.int (4 : Int32))] [])) rfl (hb hby own_d5_40)
  refine own_step st1 ?_
  show own_Fin p e below s _ _ _ (T1.setTop (mkF m 43 #[.val (.int (4 : Int32))] [(.ref s_DOUBLE)]))
  exact own_ret X1 hlk (v := some (.ref s_DOUBLE)) (fun h => by rw [Bd.returns] at h; cases h) (by decide) (by decide) (by show own_Q5 Z s_DOUBLE h0 n0 _ T1.heap _; rw [e1]; exact ⟨rfl, N0, rfl⟩) (fun fs hr => retOut X1 hx Bd.returns rfl (Or.inr (Or.inr (Or.inr (Or.inr ⟨rfl, rfl, rfl⟩)))) (hb hby own_d5_43) hr)

theorem own_d6_0 : decode method_2_code 0 = .ok (.iload_n 0, 1) := by decide +kernel
theorem own_d6_1 : decode method_2_code 1 = .ok (.ifCond .ne 7, 3) := by decide +kernel
theorem own_d6_8 : decode method_2_code 8 = .ok (.iload_n 0, 1) := by decide +kernel
theorem own_d6_9 : decode method_2_code 9 = .ok (.iconst 1, 1) := by decide +kernel
theorem own_d6_10 : decode method_2_code 10 = .ok (.if_icmp .ne 7, 3) := by decide +kernel
theorem own_d6_17 : decode method_2_code 17 = .ok (.iload_n 0, 1) := by decide +kernel
theorem own_d6_18 : decode method_2_code 18 = .ok (.iconst 2, 1) := by decide +kernel
theorem own_d6_19 : decode method_2_code 19 = .ok (.if_icmp .ne 7, 3) := by decide +kernel
theorem own_d6_26 : decode method_2_code 26 = .ok (.iload_n 0, 1) := by decide +kernel
theorem own_d6_27 : decode method_2_code 27 = .ok (.iconst 3, 1) := by decide +kernel
theorem own_d6_28 : decode method_2_code 28 = .ok (.if_icmp .ne 7, 3) := by decide +kernel
theorem own_d6_35 : decode method_2_code 35 = .ok (.iload_n 0, 1) := by decide +kernel
theorem own_d6_36 : decode method_2_code 36 = .ok (.iconst 4, 1) := by decide +kernel
theorem own_d6_37 : decode method_2_code 37 = .ok (.if_icmp .ne 7, 3) := by decide +kernel
theorem own_d6_44 : decode method_2_code 44 = .ok (.iload_n 0, 1) := by decide +kernel
theorem own_d6_45 : decode method_2_code 45 = .ok (.iconst 5, 1) := by decide +kernel
theorem own_d6_46 : decode method_2_code 46 = .ok (.if_icmp .ne 7, 3) := by decide +kernel
theorem own_d6_49 : decode method_2_code 49 = .ok (.getstatic 25, 3) := by decide +kernel
theorem own_d6_52 : decode method_2_code 52 = .ok (.areturn, 1) := by decide +kernel
theorem own_ef6 (m : MethodId)  : entryFrame m #[(.int (5 : Int32))] 1 = mkF m 0 #[.val (.int (5 : Int32))] [] := by first | (simp [entryFrame, mkF, argsToLocals, Value.category]; done) | rfl
def own_Q6 (Z : State) (s_CHAR : Addr) (h0 : Heap) (n0 : Nat) (v : Option Value) (h : Heap) (L : List Loc) : Prop := v = some (.ref s_CHAR) ∧ Fr n0 L ∧ h = h0
set_option maxRecDepth 65536 in
set_option maxHeartbeats 40000000 in
theorem own_rm6 (l : Launch) (Z : State) (a0 : Array Value) (hw : ∀ d ∈ tables_1, d.before a0 Z = true) (ws : List Jvm.Cond) (s_CHAR : Addr) (h0 : Heap) (n0 : Nat) (Z0 : n0 ≤ h0.size) (S_CHAR : Sta Z h0 "com/example/taproom/taproom/model/ColumnType" "CHAR" "Lcom/example/taproom/taproom/model/ColumnType;" (.ref s_CHAR)) :
    MetFree l (⟨"com/example/taproom/taproom/model/ColumnTypeIsWholePinLaw", "pick", "(I)Lcom/example/taproom/taproom/model/ColumnType;"⟩ : MethodName) (head1 (Jvm.Cond.code (⟨"com/example/taproom/taproom/model/ColumnTypeIsWholePinLaw", "pick", "(I)Lcom/example/taproom/taproom/model/ColumnType;"⟩ : MethodName) method_2_code 1 (some (.object "com/example/taproom/taproom/model/ColumnType")) :: ws) ({ frames := 0, cells := 0, slots := 0, locals := 0 } : Room)) (fun a U => a = #[(.int (5 : Int32))] ∧ Z.Warmed39 U.vm ∧ U.heap = h0) (fun _ _ _ _ _ => True) (fun _ U o U' => ∃ v L, o = .returned v ∧ own_Q6 Z s_CHAR h0 n0 v U'.heap L ∧ FrameEnd U o U' L ({ frames := 0, cells := 0, slots := 0, locals := 0 } : Room).cells ({ frames := 0, cells := 0, slots := 0, locals := 0 } : Room).slots) := by
  refine MetFree.of_bodySF (plainFor_of_name own_pn0) hisR ?_
  intro p e s m args below meth c s₁ Bd hml0 hP hK
  obtain ⟨rfl, hZ, hh⟩ := hP
  have hx := Bd.exec
  have hby := Bd.bytes
  have hlk := Bd.notSynchronized
  have hml : c.maxLocals = 1 := hml0
  have hown : s.vm.findClass "com/example/taproom/taproom/model/ColumnTypeIsWholePinLaw" = some m.cls := findClass_of_methodNamed Bd.named
  have hnm := (name_of_methodNamed Bd.named Bd.method).1
  have X0 : Stand p l e ({ frames := 0, cells := 0, slots := 0, locals := 0 } : Room) s m #[(.int (5 : Int32))] below meth c s₁ [] 0 0 := Stand.of_body Bd
  have e0 : s₁.heap = h0 := by rw [← hh, Bd.state]; rfl
  have N0 := Fr.nil n0
  have KR : Keep h0 h0 [] := Keep.refl _ _
  show own_Fin p e below s ({ frames := 0, cells := 0, slots := 0, locals := 0 } : Room).cells ({ frames := 0, cells := 0, slots := 0, locals := 0 } : Room).slots (own_Q6 Z s_CHAR h0 n0) (s₁.setTop (entryFrame m #[(.int (5 : Int32))] 1))
  refine own_cast (own_ef6 m ) ?_
  refine own_step (fun _ k => XS.iloadN X0.here hx rfl (hb hby own_d6_0) rfl k) ?_
  show own_Fin p e below s _ _ _ (s₁.setTop (mkF m 1 #[.val (.int (5 : Int32))] [(.int (5 : Int32))]))
  refine own_step (fun _ k => XS.ifYes X0.here hx rfl (pc0 := 1) (pc' := 8) rfl (hb hby own_d6_1) rfl ((if0 _ _).trans (feq (by decide : ¬ ((5 : Int32) = (0 : Int32)))).2) (by decide) (by decide) k) ?_
  show own_Fin p e below s _ _ _ (s₁.setTop (mkF m 8 #[.val (.int (5 : Int32))] []))
  refine own_step (fun _ k => XS.iloadN X0.here hx rfl (hb hby own_d6_8) rfl k) ?_
  show own_Fin p e below s _ _ _ (s₁.setTop (mkF m 9 #[.val (.int (5 : Int32))] [(.int (5 : Int32))]))
  refine own_step (fun _ k => XS.iconst X0.here hx rfl (hb hby own_d6_9) k) ?_
  show own_Fin p e below s _ _ _ (s₁.setTop (mkF m 10 #[.val (.int (5 : Int32))] [(.int (1 : Int32)), (.int (5 : Int32))]))
  refine own_step (fun _ k => XS.icmpYes X0.here hx rfl (pc0 := 10) (pc' := 17) rfl (hb hby own_d6_10) rfl (feq (by decide : ¬ ((5 : Int32) = (1 : Int32)))).2 (by decide) (by decide) k) ?_
  show own_Fin p e below s _ _ _ (s₁.setTop (mkF m 17 #[.val (.int (5 : Int32))] []))
  refine own_step (fun _ k => XS.iloadN X0.here hx rfl (hb hby own_d6_17) rfl k) ?_
  show own_Fin p e below s _ _ _ (s₁.setTop (mkF m 18 #[.val (.int (5 : Int32))] [(.int (5 : Int32))]))
  refine own_step (fun _ k => XS.iconst X0.here hx rfl (hb hby own_d6_18) k) ?_
  show own_Fin p e below s _ _ _ (s₁.setTop (mkF m 19 #[.val (.int (5 : Int32))] [(.int (2 : Int32)), (.int (5 : Int32))]))
  refine own_step (fun _ k => XS.icmpYes X0.here hx rfl (pc0 := 19) (pc' := 26) rfl (hb hby own_d6_19) rfl (feq (by decide : ¬ ((5 : Int32) = (2 : Int32)))).2 (by decide) (by decide) k) ?_
  show own_Fin p e below s _ _ _ (s₁.setTop (mkF m 26 #[.val (.int (5 : Int32))] []))
  refine own_step (fun _ k => XS.iloadN X0.here hx rfl (hb hby own_d6_26) rfl k) ?_
  show own_Fin p e below s _ _ _ (s₁.setTop (mkF m 27 #[.val (.int (5 : Int32))] [(.int (5 : Int32))]))
  refine own_step (fun _ k => XS.iconst X0.here hx rfl (hb hby own_d6_27) k) ?_
  show own_Fin p e below s _ _ _ (s₁.setTop (mkF m 28 #[.val (.int (5 : Int32))] [(.int (3 : Int32)), (.int (5 : Int32))]))
  refine own_step (fun _ k => XS.icmpYes X0.here hx rfl (pc0 := 28) (pc' := 35) rfl (hb hby own_d6_28) rfl (feq (by decide : ¬ ((5 : Int32) = (3 : Int32)))).2 (by decide) (by decide) k) ?_
  show own_Fin p e below s _ _ _ (s₁.setTop (mkF m 35 #[.val (.int (5 : Int32))] []))
  refine own_step (fun _ k => XS.iloadN X0.here hx rfl (hb hby own_d6_35) rfl k) ?_
  show own_Fin p e below s _ _ _ (s₁.setTop (mkF m 36 #[.val (.int (5 : Int32))] [(.int (5 : Int32))]))
  refine own_step (fun _ k => XS.iconst X0.here hx rfl (hb hby own_d6_36) k) ?_
  show own_Fin p e below s _ _ _ (s₁.setTop (mkF m 37 #[.val (.int (5 : Int32))] [(.int (4 : Int32)), (.int (5 : Int32))]))
  refine own_step (fun _ k => XS.icmpYes X0.here hx rfl (pc0 := 37) (pc' := 44) rfl (hb hby own_d6_37) rfl (feq (by decide : ¬ ((5 : Int32) = (4 : Int32)))).2 (by decide) (by decide) k) ?_
  show own_Fin p e below s _ _ _ (s₁.setTop (mkF m 44 #[.val (.int (5 : Int32))] []))
  refine own_step (fun _ k => XS.iloadN X0.here hx rfl (hb hby own_d6_44) rfl k) ?_
  show own_Fin p e below s _ _ _ (s₁.setTop (mkF m 45 #[.val (.int (5 : Int32))] [(.int (5 : Int32))]))
  refine own_step (fun _ k => XS.iconst X0.here hx rfl (hb hby own_d6_45) k) ?_
  show own_Fin p e below s _ _ _ (s₁.setTop (mkF m 46 #[.val (.int (5 : Int32))] [(.int (5 : Int32)), (.int (5 : Int32))]))
  refine own_step (fun _ k => XS.icmpNo X0.here hx rfl (hb hby own_d6_46) rfl (teq (by decide : (5 : Int32) = (5 : Int32))).2 k) ?_
  show own_Fin p e below s _ _ _ (s₁.setTop (mkF m 49 #[.val (.int (5 : Int32))] []))
  obtain ⟨T1, X1, e1, st1⟩ := getS2 X0 hx hZ hown (host := "") (Or.inl (own_w hw 30 rfl)) Via.refl e0 S_CHAR (g := (mkF m 49 #[.val (.int (5 : Int32))] [])) rfl (hb hby own_d6_49)
  refine own_step st1 ?_
  show own_Fin p e below s _ _ _ (T1.setTop (mkF m 52 #[.val (.int (5 : Int32))] [(.ref s_CHAR)]))
  exact own_ret X1 hlk (v := some (.ref s_CHAR)) (fun h => by rw [Bd.returns] at h; cases h) (by decide) (by decide) (by show own_Q6 Z s_CHAR h0 n0 _ T1.heap _; rw [e1]; exact ⟨rfl, N0, rfl⟩) (fun fs hr => retOut X1 hx Bd.returns rfl (Or.inr (Or.inr (Or.inr (Or.inr ⟨rfl, rfl, rfl⟩)))) (hb hby own_d6_52) hr)

theorem own_d7_0 : decode method_2_code 0 = .ok (.iload_n 0, 1) := by decide +kernel
theorem own_d7_1 : decode method_2_code 1 = .ok (.ifCond .ne 7, 3) := by decide +kernel
theorem own_d7_8 : decode method_2_code 8 = .ok (.iload_n 0, 1) := by decide +kernel
theorem own_d7_9 : decode method_2_code 9 = .ok (.iconst 1, 1) := by decide +kernel
theorem own_d7_10 : decode method_2_code 10 = .ok (.if_icmp .ne 7, 3) := by decide +kernel
theorem own_d7_17 : decode method_2_code 17 = .ok (.iload_n 0, 1) := by decide +kernel
theorem own_d7_18 : decode method_2_code 18 = .ok (.iconst 2, 1) := by decide +kernel
theorem own_d7_19 : decode method_2_code 19 = .ok (.if_icmp .ne 7, 3) := by decide +kernel
theorem own_d7_26 : decode method_2_code 26 = .ok (.iload_n 0, 1) := by decide +kernel
theorem own_d7_27 : decode method_2_code 27 = .ok (.iconst 3, 1) := by decide +kernel
theorem own_d7_28 : decode method_2_code 28 = .ok (.if_icmp .ne 7, 3) := by decide +kernel
theorem own_d7_35 : decode method_2_code 35 = .ok (.iload_n 0, 1) := by decide +kernel
theorem own_d7_36 : decode method_2_code 36 = .ok (.iconst 4, 1) := by decide +kernel
theorem own_d7_37 : decode method_2_code 37 = .ok (.if_icmp .ne 7, 3) := by decide +kernel
theorem own_d7_44 : decode method_2_code 44 = .ok (.iload_n 0, 1) := by decide +kernel
theorem own_d7_45 : decode method_2_code 45 = .ok (.iconst 5, 1) := by decide +kernel
theorem own_d7_46 : decode method_2_code 46 = .ok (.if_icmp .ne 7, 3) := by decide +kernel
theorem own_d7_53 : decode method_2_code 53 = .ok (.iload_n 0, 1) := by decide +kernel
theorem own_d7_54 : decode method_2_code 54 = .ok (.bipush 6, 2) := by decide +kernel
theorem own_d7_56 : decode method_2_code 56 = .ok (.if_icmp .ne 7, 3) := by decide +kernel
theorem own_d7_59 : decode method_2_code 59 = .ok (.getstatic 28, 3) := by decide +kernel
theorem own_d7_62 : decode method_2_code 62 = .ok (.areturn, 1) := by decide +kernel
theorem own_ef7 (m : MethodId)  : entryFrame m #[(.int (6 : Int32))] 1 = mkF m 0 #[.val (.int (6 : Int32))] [] := by first | (simp [entryFrame, mkF, argsToLocals, Value.category]; done) | rfl
def own_Q7 (Z : State) (s_VARCHAR : Addr) (h0 : Heap) (n0 : Nat) (v : Option Value) (h : Heap) (L : List Loc) : Prop := v = some (.ref s_VARCHAR) ∧ Fr n0 L ∧ h = h0
set_option maxRecDepth 65536 in
set_option maxHeartbeats 40000000 in
theorem own_rm7 (l : Launch) (Z : State) (a0 : Array Value) (hw : ∀ d ∈ tables_1, d.before a0 Z = true) (ws : List Jvm.Cond) (s_VARCHAR : Addr) (h0 : Heap) (n0 : Nat) (Z0 : n0 ≤ h0.size) (S_VARCHAR : Sta Z h0 "com/example/taproom/taproom/model/ColumnType" "VARCHAR" "Lcom/example/taproom/taproom/model/ColumnType;" (.ref s_VARCHAR)) :
    MetFree l (⟨"com/example/taproom/taproom/model/ColumnTypeIsWholePinLaw", "pick", "(I)Lcom/example/taproom/taproom/model/ColumnType;"⟩ : MethodName) (head1 (Jvm.Cond.code (⟨"com/example/taproom/taproom/model/ColumnTypeIsWholePinLaw", "pick", "(I)Lcom/example/taproom/taproom/model/ColumnType;"⟩ : MethodName) method_2_code 1 (some (.object "com/example/taproom/taproom/model/ColumnType")) :: ws) ({ frames := 0, cells := 0, slots := 0, locals := 0 } : Room)) (fun a U => a = #[(.int (6 : Int32))] ∧ Z.Warmed39 U.vm ∧ U.heap = h0) (fun _ _ _ _ _ => True) (fun _ U o U' => ∃ v L, o = .returned v ∧ own_Q7 Z s_VARCHAR h0 n0 v U'.heap L ∧ FrameEnd U o U' L ({ frames := 0, cells := 0, slots := 0, locals := 0 } : Room).cells ({ frames := 0, cells := 0, slots := 0, locals := 0 } : Room).slots) := by
  refine MetFree.of_bodySF (plainFor_of_name own_pn0) hisR ?_
  intro p e s m args below meth c s₁ Bd hml0 hP hK
  obtain ⟨rfl, hZ, hh⟩ := hP
  have hx := Bd.exec
  have hby := Bd.bytes
  have hlk := Bd.notSynchronized
  have hml : c.maxLocals = 1 := hml0
  have hown : s.vm.findClass "com/example/taproom/taproom/model/ColumnTypeIsWholePinLaw" = some m.cls := findClass_of_methodNamed Bd.named
  have hnm := (name_of_methodNamed Bd.named Bd.method).1
  have X0 : Stand p l e ({ frames := 0, cells := 0, slots := 0, locals := 0 } : Room) s m #[(.int (6 : Int32))] below meth c s₁ [] 0 0 := Stand.of_body Bd
  have e0 : s₁.heap = h0 := by rw [← hh, Bd.state]; rfl
  have N0 := Fr.nil n0
  have KR : Keep h0 h0 [] := Keep.refl _ _
  show own_Fin p e below s ({ frames := 0, cells := 0, slots := 0, locals := 0 } : Room).cells ({ frames := 0, cells := 0, slots := 0, locals := 0 } : Room).slots (own_Q7 Z s_VARCHAR h0 n0) (s₁.setTop (entryFrame m #[(.int (6 : Int32))] 1))
  refine own_cast (own_ef7 m ) ?_
  refine own_step (fun _ k => XS.iloadN X0.here hx rfl (hb hby own_d7_0) rfl k) ?_
  show own_Fin p e below s _ _ _ (s₁.setTop (mkF m 1 #[.val (.int (6 : Int32))] [(.int (6 : Int32))]))
  refine own_step (fun _ k => XS.ifYes X0.here hx rfl (pc0 := 1) (pc' := 8) rfl (hb hby own_d7_1) rfl ((if0 _ _).trans (feq (by decide : ¬ ((6 : Int32) = (0 : Int32)))).2) (by decide) (by decide) k) ?_
  show own_Fin p e below s _ _ _ (s₁.setTop (mkF m 8 #[.val (.int (6 : Int32))] []))
  refine own_step (fun _ k => XS.iloadN X0.here hx rfl (hb hby own_d7_8) rfl k) ?_
  show own_Fin p e below s _ _ _ (s₁.setTop (mkF m 9 #[.val (.int (6 : Int32))] [(.int (6 : Int32))]))
  refine own_step (fun _ k => XS.iconst X0.here hx rfl (hb hby own_d7_9) k) ?_
  show own_Fin p e below s _ _ _ (s₁.setTop (mkF m 10 #[.val (.int (6 : Int32))] [(.int (1 : Int32)), (.int (6 : Int32))]))
  refine own_step (fun _ k => XS.icmpYes X0.here hx rfl (pc0 := 10) (pc' := 17) rfl (hb hby own_d7_10) rfl (feq (by decide : ¬ ((6 : Int32) = (1 : Int32)))).2 (by decide) (by decide) k) ?_
  show own_Fin p e below s _ _ _ (s₁.setTop (mkF m 17 #[.val (.int (6 : Int32))] []))
  refine own_step (fun _ k => XS.iloadN X0.here hx rfl (hb hby own_d7_17) rfl k) ?_
  show own_Fin p e below s _ _ _ (s₁.setTop (mkF m 18 #[.val (.int (6 : Int32))] [(.int (6 : Int32))]))
  refine own_step (fun _ k => XS.iconst X0.here hx rfl (hb hby own_d7_18) k) ?_
  show own_Fin p e below s _ _ _ (s₁.setTop (mkF m 19 #[.val (.int (6 : Int32))] [(.int (2 : Int32)), (.int (6 : Int32))]))
  refine own_step (fun _ k => XS.icmpYes X0.here hx rfl (pc0 := 19) (pc' := 26) rfl (hb hby own_d7_19) rfl (feq (by decide : ¬ ((6 : Int32) = (2 : Int32)))).2 (by decide) (by decide) k) ?_
  show own_Fin p e below s _ _ _ (s₁.setTop (mkF m 26 #[.val (.int (6 : Int32))] []))
  refine own_step (fun _ k => XS.iloadN X0.here hx rfl (hb hby own_d7_26) rfl k) ?_
  show own_Fin p e below s _ _ _ (s₁.setTop (mkF m 27 #[.val (.int (6 : Int32))] [(.int (6 : Int32))]))
  refine own_step (fun _ k => XS.iconst X0.here hx rfl (hb hby own_d7_27) k) ?_
  show own_Fin p e below s _ _ _ (s₁.setTop (mkF m 28 #[.val (.int (6 : Int32))] [(.int (3 : Int32)), (.int (6 : Int32))]))
  refine own_step (fun _ k => XS.icmpYes X0.here hx rfl (pc0 := 28) (pc' := 35) rfl (hb hby own_d7_28) rfl (feq (by decide : ¬ ((6 : Int32) = (3 : Int32)))).2 (by decide) (by decide) k) ?_
  show own_Fin p e below s _ _ _ (s₁.setTop (mkF m 35 #[.val (.int (6 : Int32))] []))
  refine own_step (fun _ k => XS.iloadN X0.here hx rfl (hb hby own_d7_35) rfl k) ?_
  show own_Fin p e below s _ _ _ (s₁.setTop (mkF m 36 #[.val (.int (6 : Int32))] [(.int (6 : Int32))]))
  refine own_step (fun _ k => XS.iconst X0.here hx rfl (hb hby own_d7_36) k) ?_
  show own_Fin p e below s _ _ _ (s₁.setTop (mkF m 37 #[.val (.int (6 : Int32))] [(.int (4 : Int32)), (.int (6 : Int32))]))
  refine own_step (fun _ k => XS.icmpYes X0.here hx rfl (pc0 := 37) (pc' := 44) rfl (hb hby own_d7_37) rfl (feq (by decide : ¬ ((6 : Int32) = (4 : Int32)))).2 (by decide) (by decide) k) ?_
  show own_Fin p e below s _ _ _ (s₁.setTop (mkF m 44 #[.val (.int (6 : Int32))] []))
  refine own_step (fun _ k => XS.iloadN X0.here hx rfl (hb hby own_d7_44) rfl k) ?_
  show own_Fin p e below s _ _ _ (s₁.setTop (mkF m 45 #[.val (.int (6 : Int32))] [(.int (6 : Int32))]))
  refine own_step (fun _ k => XS.iconst X0.here hx rfl (hb hby own_d7_45) k) ?_
  show own_Fin p e below s _ _ _ (s₁.setTop (mkF m 46 #[.val (.int (6 : Int32))] [(.int (5 : Int32)), (.int (6 : Int32))]))
  refine own_step (fun _ k => XS.icmpYes X0.here hx rfl (pc0 := 46) (pc' := 53) rfl (hb hby own_d7_46) rfl (feq (by decide : ¬ ((6 : Int32) = (5 : Int32)))).2 (by decide) (by decide) k) ?_
  show own_Fin p e below s _ _ _ (s₁.setTop (mkF m 53 #[.val (.int (6 : Int32))] []))
  refine own_step (fun _ k => XS.iloadN X0.here hx rfl (hb hby own_d7_53) rfl k) ?_
  show own_Fin p e below s _ _ _ (s₁.setTop (mkF m 54 #[.val (.int (6 : Int32))] [(.int (6 : Int32))]))
  refine own_step (fun _ k => XS.bipush X0.here hx rfl (hb hby own_d7_54) k) ?_
  show own_Fin p e below s _ _ _ (s₁.setTop (mkF m 56 #[.val (.int (6 : Int32))] [(.int (6 : Int32)), (.int (6 : Int32))]))
  refine own_step (fun _ k => XS.icmpNo X0.here hx rfl (hb hby own_d7_56) rfl (teq (by decide : (6 : Int32) = (6 : Int32))).2 k) ?_
  show own_Fin p e below s _ _ _ (s₁.setTop (mkF m 59 #[.val (.int (6 : Int32))] []))
  obtain ⟨T1, X1, e1, st1⟩ := getS2 X0 hx hZ hown (host := "") (Or.inl (own_w hw 32 rfl)) Via.refl e0 S_VARCHAR (g := (mkF m 59 #[.val (.int (6 : Int32))] [])) rfl (hb hby own_d7_59)
  refine own_step st1 ?_
  show own_Fin p e below s _ _ _ (T1.setTop (mkF m 62 #[.val (.int (6 : Int32))] [(.ref s_VARCHAR)]))
  exact own_ret X1 hlk (v := some (.ref s_VARCHAR)) (fun h => by rw [Bd.returns] at h; cases h) (by decide) (by decide) (by show own_Q7 Z s_VARCHAR h0 n0 _ T1.heap _; rw [e1]; exact ⟨rfl, N0, rfl⟩) (fun fs hr => retOut X1 hx Bd.returns rfl (Or.inr (Or.inr (Or.inr (Or.inr ⟨rfl, rfl, rfl⟩)))) (hb hby own_d7_62) hr)

theorem own_d8_0 : decode method_2_code 0 = .ok (.iload_n 0, 1) := by decide +kernel
theorem own_d8_1 : decode method_2_code 1 = .ok (.ifCond .ne 7, 3) := by decide +kernel
theorem own_d8_8 : decode method_2_code 8 = .ok (.iload_n 0, 1) := by decide +kernel
theorem own_d8_9 : decode method_2_code 9 = .ok (.iconst 1, 1) := by decide +kernel
theorem own_d8_10 : decode method_2_code 10 = .ok (.if_icmp .ne 7, 3) := by decide +kernel
theorem own_d8_17 : decode method_2_code 17 = .ok (.iload_n 0, 1) := by decide +kernel
theorem own_d8_18 : decode method_2_code 18 = .ok (.iconst 2, 1) := by decide +kernel
theorem own_d8_19 : decode method_2_code 19 = .ok (.if_icmp .ne 7, 3) := by decide +kernel
theorem own_d8_26 : decode method_2_code 26 = .ok (.iload_n 0, 1) := by decide +kernel
theorem own_d8_27 : decode method_2_code 27 = .ok (.iconst 3, 1) := by decide +kernel
theorem own_d8_28 : decode method_2_code 28 = .ok (.if_icmp .ne 7, 3) := by decide +kernel
theorem own_d8_35 : decode method_2_code 35 = .ok (.iload_n 0, 1) := by decide +kernel
theorem own_d8_36 : decode method_2_code 36 = .ok (.iconst 4, 1) := by decide +kernel
theorem own_d8_37 : decode method_2_code 37 = .ok (.if_icmp .ne 7, 3) := by decide +kernel
theorem own_d8_44 : decode method_2_code 44 = .ok (.iload_n 0, 1) := by decide +kernel
theorem own_d8_45 : decode method_2_code 45 = .ok (.iconst 5, 1) := by decide +kernel
theorem own_d8_46 : decode method_2_code 46 = .ok (.if_icmp .ne 7, 3) := by decide +kernel
theorem own_d8_53 : decode method_2_code 53 = .ok (.iload_n 0, 1) := by decide +kernel
theorem own_d8_54 : decode method_2_code 54 = .ok (.bipush 6, 2) := by decide +kernel
theorem own_d8_56 : decode method_2_code 56 = .ok (.if_icmp .ne 7, 3) := by decide +kernel
theorem own_d8_63 : decode method_2_code 63 = .ok (.iload_n 0, 1) := by decide +kernel
theorem own_d8_64 : decode method_2_code 64 = .ok (.bipush 7, 2) := by decide +kernel
theorem own_d8_66 : decode method_2_code 66 = .ok (.if_icmp .ne 7, 3) := by decide +kernel
theorem own_d8_69 : decode method_2_code 69 = .ok (.getstatic 31, 3) := by decide +kernel
theorem own_d8_72 : decode method_2_code 72 = .ok (.areturn, 1) := by decide +kernel
theorem own_ef8 (m : MethodId)  : entryFrame m #[(.int (7 : Int32))] 1 = mkF m 0 #[.val (.int (7 : Int32))] [] := by first | (simp [entryFrame, mkF, argsToLocals, Value.category]; done) | rfl
def own_Q8 (Z : State) (s_TIMESTAMP : Addr) (h0 : Heap) (n0 : Nat) (v : Option Value) (h : Heap) (L : List Loc) : Prop := v = some (.ref s_TIMESTAMP) ∧ Fr n0 L ∧ h = h0
set_option maxRecDepth 65536 in
set_option maxHeartbeats 40000000 in
theorem own_rm8 (l : Launch) (Z : State) (a0 : Array Value) (hw : ∀ d ∈ tables_1, d.before a0 Z = true) (ws : List Jvm.Cond) (s_TIMESTAMP : Addr) (h0 : Heap) (n0 : Nat) (Z0 : n0 ≤ h0.size) (S_TIMESTAMP : Sta Z h0 "com/example/taproom/taproom/model/ColumnType" "TIMESTAMP" "Lcom/example/taproom/taproom/model/ColumnType;" (.ref s_TIMESTAMP)) :
    MetFree l (⟨"com/example/taproom/taproom/model/ColumnTypeIsWholePinLaw", "pick", "(I)Lcom/example/taproom/taproom/model/ColumnType;"⟩ : MethodName) (head1 (Jvm.Cond.code (⟨"com/example/taproom/taproom/model/ColumnTypeIsWholePinLaw", "pick", "(I)Lcom/example/taproom/taproom/model/ColumnType;"⟩ : MethodName) method_2_code 1 (some (.object "com/example/taproom/taproom/model/ColumnType")) :: ws) ({ frames := 0, cells := 0, slots := 0, locals := 0 } : Room)) (fun a U => a = #[(.int (7 : Int32))] ∧ Z.Warmed39 U.vm ∧ U.heap = h0) (fun _ _ _ _ _ => True) (fun _ U o U' => ∃ v L, o = .returned v ∧ own_Q8 Z s_TIMESTAMP h0 n0 v U'.heap L ∧ FrameEnd U o U' L ({ frames := 0, cells := 0, slots := 0, locals := 0 } : Room).cells ({ frames := 0, cells := 0, slots := 0, locals := 0 } : Room).slots) := by
  refine MetFree.of_bodySF (plainFor_of_name own_pn0) hisR ?_
  intro p e s m args below meth c s₁ Bd hml0 hP hK
  obtain ⟨rfl, hZ, hh⟩ := hP
  have hx := Bd.exec
  have hby := Bd.bytes
  have hlk := Bd.notSynchronized
  have hml : c.maxLocals = 1 := hml0
  have hown : s.vm.findClass "com/example/taproom/taproom/model/ColumnTypeIsWholePinLaw" = some m.cls := findClass_of_methodNamed Bd.named
  have hnm := (name_of_methodNamed Bd.named Bd.method).1
  have X0 : Stand p l e ({ frames := 0, cells := 0, slots := 0, locals := 0 } : Room) s m #[(.int (7 : Int32))] below meth c s₁ [] 0 0 := Stand.of_body Bd
  have e0 : s₁.heap = h0 := by rw [← hh, Bd.state]; rfl
  have N0 := Fr.nil n0
  have KR : Keep h0 h0 [] := Keep.refl _ _
  show own_Fin p e below s ({ frames := 0, cells := 0, slots := 0, locals := 0 } : Room).cells ({ frames := 0, cells := 0, slots := 0, locals := 0 } : Room).slots (own_Q8 Z s_TIMESTAMP h0 n0) (s₁.setTop (entryFrame m #[(.int (7 : Int32))] 1))
  refine own_cast (own_ef8 m ) ?_
  refine own_step (fun _ k => XS.iloadN X0.here hx rfl (hb hby own_d8_0) rfl k) ?_
  show own_Fin p e below s _ _ _ (s₁.setTop (mkF m 1 #[.val (.int (7 : Int32))] [(.int (7 : Int32))]))
  refine own_step (fun _ k => XS.ifYes X0.here hx rfl (pc0 := 1) (pc' := 8) rfl (hb hby own_d8_1) rfl ((if0 _ _).trans (feq (by decide : ¬ ((7 : Int32) = (0 : Int32)))).2) (by decide) (by decide) k) ?_
  show own_Fin p e below s _ _ _ (s₁.setTop (mkF m 8 #[.val (.int (7 : Int32))] []))
  refine own_step (fun _ k => XS.iloadN X0.here hx rfl (hb hby own_d8_8) rfl k) ?_
  show own_Fin p e below s _ _ _ (s₁.setTop (mkF m 9 #[.val (.int (7 : Int32))] [(.int (7 : Int32))]))
  refine own_step (fun _ k => XS.iconst X0.here hx rfl (hb hby own_d8_9) k) ?_
  show own_Fin p e below s _ _ _ (s₁.setTop (mkF m 10 #[.val (.int (7 : Int32))] [(.int (1 : Int32)), (.int (7 : Int32))]))
  refine own_step (fun _ k => XS.icmpYes X0.here hx rfl (pc0 := 10) (pc' := 17) rfl (hb hby own_d8_10) rfl (feq (by decide : ¬ ((7 : Int32) = (1 : Int32)))).2 (by decide) (by decide) k) ?_
  show own_Fin p e below s _ _ _ (s₁.setTop (mkF m 17 #[.val (.int (7 : Int32))] []))
  refine own_step (fun _ k => XS.iloadN X0.here hx rfl (hb hby own_d8_17) rfl k) ?_
  show own_Fin p e below s _ _ _ (s₁.setTop (mkF m 18 #[.val (.int (7 : Int32))] [(.int (7 : Int32))]))
  refine own_step (fun _ k => XS.iconst X0.here hx rfl (hb hby own_d8_18) k) ?_
  show own_Fin p e below s _ _ _ (s₁.setTop (mkF m 19 #[.val (.int (7 : Int32))] [(.int (2 : Int32)), (.int (7 : Int32))]))
  refine own_step (fun _ k => XS.icmpYes X0.here hx rfl (pc0 := 19) (pc' := 26) rfl (hb hby own_d8_19) rfl (feq (by decide : ¬ ((7 : Int32) = (2 : Int32)))).2 (by decide) (by decide) k) ?_
  show own_Fin p e below s _ _ _ (s₁.setTop (mkF m 26 #[.val (.int (7 : Int32))] []))
  refine own_step (fun _ k => XS.iloadN X0.here hx rfl (hb hby own_d8_26) rfl k) ?_
  show own_Fin p e below s _ _ _ (s₁.setTop (mkF m 27 #[.val (.int (7 : Int32))] [(.int (7 : Int32))]))
  refine own_step (fun _ k => XS.iconst X0.here hx rfl (hb hby own_d8_27) k) ?_
  show own_Fin p e below s _ _ _ (s₁.setTop (mkF m 28 #[.val (.int (7 : Int32))] [(.int (3 : Int32)), (.int (7 : Int32))]))
  refine own_step (fun _ k => XS.icmpYes X0.here hx rfl (pc0 := 28) (pc' := 35) rfl (hb hby own_d8_28) rfl (feq (by decide : ¬ ((7 : Int32) = (3 : Int32)))).2 (by decide) (by decide) k) ?_
  show own_Fin p e below s _ _ _ (s₁.setTop (mkF m 35 #[.val (.int (7 : Int32))] []))
  refine own_step (fun _ k => XS.iloadN X0.here hx rfl (hb hby own_d8_35) rfl k) ?_
  show own_Fin p e below s _ _ _ (s₁.setTop (mkF m 36 #[.val (.int (7 : Int32))] [(.int (7 : Int32))]))
  refine own_step (fun _ k => XS.iconst X0.here hx rfl (hb hby own_d8_36) k) ?_
  show own_Fin p e below s _ _ _ (s₁.setTop (mkF m 37 #[.val (.int (7 : Int32))] [(.int (4 : Int32)), (.int (7 : Int32))]))
  refine own_step (fun _ k => XS.icmpYes X0.here hx rfl (pc0 := 37) (pc' := 44) rfl (hb hby own_d8_37) rfl (feq (by decide : ¬ ((7 : Int32) = (4 : Int32)))).2 (by decide) (by decide) k) ?_
  show own_Fin p e below s _ _ _ (s₁.setTop (mkF m 44 #[.val (.int (7 : Int32))] []))
  refine own_step (fun _ k => XS.iloadN X0.here hx rfl (hb hby own_d8_44) rfl k) ?_
  show own_Fin p e below s _ _ _ (s₁.setTop (mkF m 45 #[.val (.int (7 : Int32))] [(.int (7 : Int32))]))
  refine own_step (fun _ k => XS.iconst X0.here hx rfl (hb hby own_d8_45) k) ?_
  show own_Fin p e below s _ _ _ (s₁.setTop (mkF m 46 #[.val (.int (7 : Int32))] [(.int (5 : Int32)), (.int (7 : Int32))]))
  refine own_step (fun _ k => XS.icmpYes X0.here hx rfl (pc0 := 46) (pc' := 53) rfl (hb hby own_d8_46) rfl (feq (by decide : ¬ ((7 : Int32) = (5 : Int32)))).2 (by decide) (by decide) k) ?_
  show own_Fin p e below s _ _ _ (s₁.setTop (mkF m 53 #[.val (.int (7 : Int32))] []))
  refine own_step (fun _ k => XS.iloadN X0.here hx rfl (hb hby own_d8_53) rfl k) ?_
  show own_Fin p e below s _ _ _ (s₁.setTop (mkF m 54 #[.val (.int (7 : Int32))] [(.int (7 : Int32))]))
  refine own_step (fun _ k => XS.bipush X0.here hx rfl (hb hby own_d8_54) k) ?_
  show own_Fin p e below s _ _ _ (s₁.setTop (mkF m 56 #[.val (.int (7 : Int32))] [(.int (6 : Int32)), (.int (7 : Int32))]))
  refine own_step (fun _ k => XS.icmpYes X0.here hx rfl (pc0 := 56) (pc' := 63) rfl (hb hby own_d8_56) rfl (feq (by decide : ¬ ((7 : Int32) = (6 : Int32)))).2 (by decide) (by decide) k) ?_
  show own_Fin p e below s _ _ _ (s₁.setTop (mkF m 63 #[.val (.int (7 : Int32))] []))
  refine own_step (fun _ k => XS.iloadN X0.here hx rfl (hb hby own_d8_63) rfl k) ?_
  show own_Fin p e below s _ _ _ (s₁.setTop (mkF m 64 #[.val (.int (7 : Int32))] [(.int (7 : Int32))]))
  refine own_step (fun _ k => XS.bipush X0.here hx rfl (hb hby own_d8_64) k) ?_
  show own_Fin p e below s _ _ _ (s₁.setTop (mkF m 66 #[.val (.int (7 : Int32))] [(.int (7 : Int32)), (.int (7 : Int32))]))
  refine own_step (fun _ k => XS.icmpNo X0.here hx rfl (hb hby own_d8_66) rfl (teq (by decide : (7 : Int32) = (7 : Int32))).2 k) ?_
  show own_Fin p e below s _ _ _ (s₁.setTop (mkF m 69 #[.val (.int (7 : Int32))] []))
  obtain ⟨T1, X1, e1, st1⟩ := getS2 X0 hx hZ hown (host := "") (Or.inl (own_w hw 23 rfl)) Via.refl e0 S_TIMESTAMP (g := (mkF m 69 #[.val (.int (7 : Int32))] [])) rfl (hb hby own_d8_69)
  refine own_step st1 ?_
  show own_Fin p e below s _ _ _ (T1.setTop (mkF m 72 #[.val (.int (7 : Int32))] [(.ref s_TIMESTAMP)]))
  exact own_ret X1 hlk (v := some (.ref s_TIMESTAMP)) (fun h => by rw [Bd.returns] at h; cases h) (by decide) (by decide) (by show own_Q8 Z s_TIMESTAMP h0 n0 _ T1.heap _; rw [e1]; exact ⟨rfl, N0, rfl⟩) (fun fs hr => retOut X1 hx Bd.returns rfl (Or.inr (Or.inr (Or.inr (Or.inr ⟨rfl, rfl, rfl⟩)))) (hb hby own_d8_72) hr)

theorem own_d9_0 : decode method_2_code 0 = .ok (.iload_n 0, 1) := by decide +kernel
theorem own_d9_1 : decode method_2_code 1 = .ok (.ifCond .ne 7, 3) := by decide +kernel
theorem own_d9_8 : decode method_2_code 8 = .ok (.iload_n 0, 1) := by decide +kernel
theorem own_d9_9 : decode method_2_code 9 = .ok (.iconst 1, 1) := by decide +kernel
theorem own_d9_10 : decode method_2_code 10 = .ok (.if_icmp .ne 7, 3) := by decide +kernel
theorem own_d9_17 : decode method_2_code 17 = .ok (.iload_n 0, 1) := by decide +kernel
theorem own_d9_18 : decode method_2_code 18 = .ok (.iconst 2, 1) := by decide +kernel
theorem own_d9_19 : decode method_2_code 19 = .ok (.if_icmp .ne 7, 3) := by decide +kernel
theorem own_d9_26 : decode method_2_code 26 = .ok (.iload_n 0, 1) := by decide +kernel
theorem own_d9_27 : decode method_2_code 27 = .ok (.iconst 3, 1) := by decide +kernel
theorem own_d9_28 : decode method_2_code 28 = .ok (.if_icmp .ne 7, 3) := by decide +kernel
theorem own_d9_35 : decode method_2_code 35 = .ok (.iload_n 0, 1) := by decide +kernel
theorem own_d9_36 : decode method_2_code 36 = .ok (.iconst 4, 1) := by decide +kernel
theorem own_d9_37 : decode method_2_code 37 = .ok (.if_icmp .ne 7, 3) := by decide +kernel
theorem own_d9_44 : decode method_2_code 44 = .ok (.iload_n 0, 1) := by decide +kernel
theorem own_d9_45 : decode method_2_code 45 = .ok (.iconst 5, 1) := by decide +kernel
theorem own_d9_46 : decode method_2_code 46 = .ok (.if_icmp .ne 7, 3) := by decide +kernel
theorem own_d9_53 : decode method_2_code 53 = .ok (.iload_n 0, 1) := by decide +kernel
theorem own_d9_54 : decode method_2_code 54 = .ok (.bipush 6, 2) := by decide +kernel
theorem own_d9_56 : decode method_2_code 56 = .ok (.if_icmp .ne 7, 3) := by decide +kernel
theorem own_d9_63 : decode method_2_code 63 = .ok (.iload_n 0, 1) := by decide +kernel
theorem own_d9_64 : decode method_2_code 64 = .ok (.bipush 7, 2) := by decide +kernel
theorem own_d9_66 : decode method_2_code 66 = .ok (.if_icmp .ne 7, 3) := by decide +kernel
theorem own_d9_73 : decode method_2_code 73 = .ok (.iload_n 0, 1) := by decide +kernel
theorem own_d9_74 : decode method_2_code 74 = .ok (.bipush 8, 2) := by decide +kernel
theorem own_d9_76 : decode method_2_code 76 = .ok (.if_icmp .ne 7, 3) := by decide +kernel
theorem own_d9_79 : decode method_2_code 79 = .ok (.getstatic 34, 3) := by decide +kernel
theorem own_d9_82 : decode method_2_code 82 = .ok (.areturn, 1) := by decide +kernel
theorem own_ef9 (m : MethodId)  : entryFrame m #[(.int (8 : Int32))] 1 = mkF m 0 #[.val (.int (8 : Int32))] [] := by first | (simp [entryFrame, mkF, argsToLocals, Value.category]; done) | rfl
def own_Q9 (Z : State) (s_POINT : Addr) (h0 : Heap) (n0 : Nat) (v : Option Value) (h : Heap) (L : List Loc) : Prop := v = some (.ref s_POINT) ∧ Fr n0 L ∧ h = h0
set_option maxRecDepth 65536 in
set_option maxHeartbeats 40000000 in
theorem own_rm9 (l : Launch) (Z : State) (a0 : Array Value) (hw : ∀ d ∈ tables_1, d.before a0 Z = true) (ws : List Jvm.Cond) (s_POINT : Addr) (h0 : Heap) (n0 : Nat) (Z0 : n0 ≤ h0.size) (S_POINT : Sta Z h0 "com/example/taproom/taproom/model/ColumnType" "POINT" "Lcom/example/taproom/taproom/model/ColumnType;" (.ref s_POINT)) :
    MetFree l (⟨"com/example/taproom/taproom/model/ColumnTypeIsWholePinLaw", "pick", "(I)Lcom/example/taproom/taproom/model/ColumnType;"⟩ : MethodName) (head1 (Jvm.Cond.code (⟨"com/example/taproom/taproom/model/ColumnTypeIsWholePinLaw", "pick", "(I)Lcom/example/taproom/taproom/model/ColumnType;"⟩ : MethodName) method_2_code 1 (some (.object "com/example/taproom/taproom/model/ColumnType")) :: ws) ({ frames := 0, cells := 0, slots := 0, locals := 0 } : Room)) (fun a U => a = #[(.int (8 : Int32))] ∧ Z.Warmed39 U.vm ∧ U.heap = h0) (fun _ _ _ _ _ => True) (fun _ U o U' => ∃ v L, o = .returned v ∧ own_Q9 Z s_POINT h0 n0 v U'.heap L ∧ FrameEnd U o U' L ({ frames := 0, cells := 0, slots := 0, locals := 0 } : Room).cells ({ frames := 0, cells := 0, slots := 0, locals := 0 } : Room).slots) := by
  refine MetFree.of_bodySF (plainFor_of_name own_pn0) hisR ?_
  intro p e s m args below meth c s₁ Bd hml0 hP hK
  obtain ⟨rfl, hZ, hh⟩ := hP
  have hx := Bd.exec
  have hby := Bd.bytes
  have hlk := Bd.notSynchronized
  have hml : c.maxLocals = 1 := hml0
  have hown : s.vm.findClass "com/example/taproom/taproom/model/ColumnTypeIsWholePinLaw" = some m.cls := findClass_of_methodNamed Bd.named
  have hnm := (name_of_methodNamed Bd.named Bd.method).1
  have X0 : Stand p l e ({ frames := 0, cells := 0, slots := 0, locals := 0 } : Room) s m #[(.int (8 : Int32))] below meth c s₁ [] 0 0 := Stand.of_body Bd
  have e0 : s₁.heap = h0 := by rw [← hh, Bd.state]; rfl
  have N0 := Fr.nil n0
  have KR : Keep h0 h0 [] := Keep.refl _ _
  show own_Fin p e below s ({ frames := 0, cells := 0, slots := 0, locals := 0 } : Room).cells ({ frames := 0, cells := 0, slots := 0, locals := 0 } : Room).slots (own_Q9 Z s_POINT h0 n0) (s₁.setTop (entryFrame m #[(.int (8 : Int32))] 1))
  refine own_cast (own_ef9 m ) ?_
  refine own_step (fun _ k => XS.iloadN X0.here hx rfl (hb hby own_d9_0) rfl k) ?_
  show own_Fin p e below s _ _ _ (s₁.setTop (mkF m 1 #[.val (.int (8 : Int32))] [(.int (8 : Int32))]))
  refine own_step (fun _ k => XS.ifYes X0.here hx rfl (pc0 := 1) (pc' := 8) rfl (hb hby own_d9_1) rfl ((if0 _ _).trans (feq (by decide : ¬ ((8 : Int32) = (0 : Int32)))).2) (by decide) (by decide) k) ?_
  show own_Fin p e below s _ _ _ (s₁.setTop (mkF m 8 #[.val (.int (8 : Int32))] []))
  refine own_step (fun _ k => XS.iloadN X0.here hx rfl (hb hby own_d9_8) rfl k) ?_
  show own_Fin p e below s _ _ _ (s₁.setTop (mkF m 9 #[.val (.int (8 : Int32))] [(.int (8 : Int32))]))
  refine own_step (fun _ k => XS.iconst X0.here hx rfl (hb hby own_d9_9) k) ?_
  show own_Fin p e below s _ _ _ (s₁.setTop (mkF m 10 #[.val (.int (8 : Int32))] [(.int (1 : Int32)), (.int (8 : Int32))]))
  refine own_step (fun _ k => XS.icmpYes X0.here hx rfl (pc0 := 10) (pc' := 17) rfl (hb hby own_d9_10) rfl (feq (by decide : ¬ ((8 : Int32) = (1 : Int32)))).2 (by decide) (by decide) k) ?_
  show own_Fin p e below s _ _ _ (s₁.setTop (mkF m 17 #[.val (.int (8 : Int32))] []))
  refine own_step (fun _ k => XS.iloadN X0.here hx rfl (hb hby own_d9_17) rfl k) ?_
  show own_Fin p e below s _ _ _ (s₁.setTop (mkF m 18 #[.val (.int (8 : Int32))] [(.int (8 : Int32))]))
  refine own_step (fun _ k => XS.iconst X0.here hx rfl (hb hby own_d9_18) k) ?_
  show own_Fin p e below s _ _ _ (s₁.setTop (mkF m 19 #[.val (.int (8 : Int32))] [(.int (2 : Int32)), (.int (8 : Int32))]))
  refine own_step (fun _ k => XS.icmpYes X0.here hx rfl (pc0 := 19) (pc' := 26) rfl (hb hby own_d9_19) rfl (feq (by decide : ¬ ((8 : Int32) = (2 : Int32)))).2 (by decide) (by decide) k) ?_
  show own_Fin p e below s _ _ _ (s₁.setTop (mkF m 26 #[.val (.int (8 : Int32))] []))
  refine own_step (fun _ k => XS.iloadN X0.here hx rfl (hb hby own_d9_26) rfl k) ?_
  show own_Fin p e below s _ _ _ (s₁.setTop (mkF m 27 #[.val (.int (8 : Int32))] [(.int (8 : Int32))]))
  refine own_step (fun _ k => XS.iconst X0.here hx rfl (hb hby own_d9_27) k) ?_
  show own_Fin p e below s _ _ _ (s₁.setTop (mkF m 28 #[.val (.int (8 : Int32))] [(.int (3 : Int32)), (.int (8 : Int32))]))
  refine own_step (fun _ k => XS.icmpYes X0.here hx rfl (pc0 := 28) (pc' := 35) rfl (hb hby own_d9_28) rfl (feq (by decide : ¬ ((8 : Int32) = (3 : Int32)))).2 (by decide) (by decide) k) ?_
  show own_Fin p e below s _ _ _ (s₁.setTop (mkF m 35 #[.val (.int (8 : Int32))] []))
  refine own_step (fun _ k => XS.iloadN X0.here hx rfl (hb hby own_d9_35) rfl k) ?_
  show own_Fin p e below s _ _ _ (s₁.setTop (mkF m 36 #[.val (.int (8 : Int32))] [(.int (8 : Int32))]))
  refine own_step (fun _ k => XS.iconst X0.here hx rfl (hb hby own_d9_36) k) ?_
  show own_Fin p e below s _ _ _ (s₁.setTop (mkF m 37 #[.val (.int (8 : Int32))] [(.int (4 : Int32)), (.int (8 : Int32))]))
  refine own_step (fun _ k => XS.icmpYes X0.here hx rfl (pc0 := 37) (pc' := 44) rfl (hb hby own_d9_37) rfl (feq (by decide : ¬ ((8 : Int32) = (4 : Int32)))).2 (by decide) (by decide) k) ?_
  show own_Fin p e below s _ _ _ (s₁.setTop (mkF m 44 #[.val (.int (8 : Int32))] []))
  refine own_step (fun _ k => XS.iloadN X0.here hx rfl (hb hby own_d9_44) rfl k) ?_
  show own_Fin p e below s _ _ _ (s₁.setTop (mkF m 45 #[.val (.int (8 : Int32))] [(.int (8 : Int32))]))
  refine own_step (fun _ k => XS.iconst X0.here hx rfl (hb hby own_d9_45) k) ?_
  show own_Fin p e below s _ _ _ (s₁.setTop (mkF m 46 #[.val (.int (8 : Int32))] [(.int (5 : Int32)), (.int (8 : Int32))]))
  refine own_step (fun _ k => XS.icmpYes X0.here hx rfl (pc0 := 46) (pc' := 53) rfl (hb hby own_d9_46) rfl (feq (by decide : ¬ ((8 : Int32) = (5 : Int32)))).2 (by decide) (by decide) k) ?_
  show own_Fin p e below s _ _ _ (s₁.setTop (mkF m 53 #[.val (.int (8 : Int32))] []))
  refine own_step (fun _ k => XS.iloadN X0.here hx rfl (hb hby own_d9_53) rfl k) ?_
  show own_Fin p e below s _ _ _ (s₁.setTop (mkF m 54 #[.val (.int (8 : Int32))] [(.int (8 : Int32))]))
  refine own_step (fun _ k => XS.bipush X0.here hx rfl (hb hby own_d9_54) k) ?_
  show own_Fin p e below s _ _ _ (s₁.setTop (mkF m 56 #[.val (.int (8 : Int32))] [(.int (6 : Int32)), (.int (8 : Int32))]))
  refine own_step (fun _ k => XS.icmpYes X0.here hx rfl (pc0 := 56) (pc' := 63) rfl (hb hby own_d9_56) rfl (feq (by decide : ¬ ((8 : Int32) = (6 : Int32)))).2 (by decide) (by decide) k) ?_
  show own_Fin p e below s _ _ _ (s₁.setTop (mkF m 63 #[.val (.int (8 : Int32))] []))
  refine own_step (fun _ k => XS.iloadN X0.here hx rfl (hb hby own_d9_63) rfl k) ?_
  show own_Fin p e below s _ _ _ (s₁.setTop (mkF m 64 #[.val (.int (8 : Int32))] [(.int (8 : Int32))]))
  refine own_step (fun _ k => XS.bipush X0.here hx rfl (hb hby own_d9_64) k) ?_
  show own_Fin p e below s _ _ _ (s₁.setTop (mkF m 66 #[.val (.int (8 : Int32))] [(.int (7 : Int32)), (.int (8 : Int32))]))
  refine own_step (fun _ k => XS.icmpYes X0.here hx rfl (pc0 := 66) (pc' := 73) rfl (hb hby own_d9_66) rfl (feq (by decide : ¬ ((8 : Int32) = (7 : Int32)))).2 (by decide) (by decide) k) ?_
  show own_Fin p e below s _ _ _ (s₁.setTop (mkF m 73 #[.val (.int (8 : Int32))] []))
  refine own_step (fun _ k => XS.iloadN X0.here hx rfl (hb hby own_d9_73) rfl k) ?_
  show own_Fin p e below s _ _ _ (s₁.setTop (mkF m 74 #[.val (.int (8 : Int32))] [(.int (8 : Int32))]))
  refine own_step (fun _ k => XS.bipush X0.here hx rfl (hb hby own_d9_74) k) ?_
  show own_Fin p e below s _ _ _ (s₁.setTop (mkF m 76 #[.val (.int (8 : Int32))] [(.int (8 : Int32)), (.int (8 : Int32))]))
  refine own_step (fun _ k => XS.icmpNo X0.here hx rfl (hb hby own_d9_76) rfl (teq (by decide : (8 : Int32) = (8 : Int32))).2 k) ?_
  show own_Fin p e below s _ _ _ (s₁.setTop (mkF m 79 #[.val (.int (8 : Int32))] []))
  obtain ⟨T1, X1, e1, st1⟩ := getS2 X0 hx hZ hown (host := "") (Or.inl (own_w hw 26 rfl)) Via.refl e0 S_POINT (g := (mkF m 79 #[.val (.int (8 : Int32))] [])) rfl (hb hby own_d9_79)
  refine own_step st1 ?_
  show own_Fin p e below s _ _ _ (T1.setTop (mkF m 82 #[.val (.int (8 : Int32))] [(.ref s_POINT)]))
  exact own_ret X1 hlk (v := some (.ref s_POINT)) (fun h => by rw [Bd.returns] at h; cases h) (by decide) (by decide) (by show own_Q9 Z s_POINT h0 n0 _ T1.heap _; rw [e1]; exact ⟨rfl, N0, rfl⟩) (fun fs hr => retOut X1 hx Bd.returns rfl (Or.inr (Or.inr (Or.inr (Or.inr ⟨rfl, rfl, rfl⟩)))) (hb hby own_d9_82) hr)

theorem own_d10_0 : decode method_2_code 0 = .ok (.iload_n 0, 1) := by decide +kernel
theorem own_d10_1 : decode method_2_code 1 = .ok (.ifCond .ne 7, 3) := by decide +kernel
theorem own_d10_8 : decode method_2_code 8 = .ok (.iload_n 0, 1) := by decide +kernel
theorem own_d10_9 : decode method_2_code 9 = .ok (.iconst 1, 1) := by decide +kernel
theorem own_d10_10 : decode method_2_code 10 = .ok (.if_icmp .ne 7, 3) := by decide +kernel
theorem own_d10_17 : decode method_2_code 17 = .ok (.iload_n 0, 1) := by decide +kernel
theorem own_d10_18 : decode method_2_code 18 = .ok (.iconst 2, 1) := by decide +kernel
theorem own_d10_19 : decode method_2_code 19 = .ok (.if_icmp .ne 7, 3) := by decide +kernel
theorem own_d10_26 : decode method_2_code 26 = .ok (.iload_n 0, 1) := by decide +kernel
theorem own_d10_27 : decode method_2_code 27 = .ok (.iconst 3, 1) := by decide +kernel
theorem own_d10_28 : decode method_2_code 28 = .ok (.if_icmp .ne 7, 3) := by decide +kernel
theorem own_d10_35 : decode method_2_code 35 = .ok (.iload_n 0, 1) := by decide +kernel
theorem own_d10_36 : decode method_2_code 36 = .ok (.iconst 4, 1) := by decide +kernel
theorem own_d10_37 : decode method_2_code 37 = .ok (.if_icmp .ne 7, 3) := by decide +kernel
theorem own_d10_44 : decode method_2_code 44 = .ok (.iload_n 0, 1) := by decide +kernel
theorem own_d10_45 : decode method_2_code 45 = .ok (.iconst 5, 1) := by decide +kernel
theorem own_d10_46 : decode method_2_code 46 = .ok (.if_icmp .ne 7, 3) := by decide +kernel
theorem own_d10_53 : decode method_2_code 53 = .ok (.iload_n 0, 1) := by decide +kernel
theorem own_d10_54 : decode method_2_code 54 = .ok (.bipush 6, 2) := by decide +kernel
theorem own_d10_56 : decode method_2_code 56 = .ok (.if_icmp .ne 7, 3) := by decide +kernel
theorem own_d10_63 : decode method_2_code 63 = .ok (.iload_n 0, 1) := by decide +kernel
theorem own_d10_64 : decode method_2_code 64 = .ok (.bipush 7, 2) := by decide +kernel
theorem own_d10_66 : decode method_2_code 66 = .ok (.if_icmp .ne 7, 3) := by decide +kernel
theorem own_d10_73 : decode method_2_code 73 = .ok (.iload_n 0, 1) := by decide +kernel
theorem own_d10_74 : decode method_2_code 74 = .ok (.bipush 8, 2) := by decide +kernel
theorem own_d10_76 : decode method_2_code 76 = .ok (.if_icmp .ne 7, 3) := by decide +kernel
theorem own_d10_83 : decode method_2_code 83 = .ok (.getstatic 37, 3) := by decide +kernel
theorem own_d10_86 : decode method_2_code 86 = .ok (.areturn, 1) := by decide +kernel
theorem own_ef10 (m : MethodId)  : entryFrame m #[(.int (9 : Int32))] 1 = mkF m 0 #[.val (.int (9 : Int32))] [] := by first | (simp [entryFrame, mkF, argsToLocals, Value.category]; done) | rfl
def own_Q10 (Z : State) (s_REGION : Addr) (h0 : Heap) (n0 : Nat) (v : Option Value) (h : Heap) (L : List Loc) : Prop := v = some (.ref s_REGION) ∧ Fr n0 L ∧ h = h0
set_option maxRecDepth 65536 in
set_option maxHeartbeats 40000000 in
theorem own_rm10 (l : Launch) (Z : State) (a0 : Array Value) (hw : ∀ d ∈ tables_1, d.before a0 Z = true) (ws : List Jvm.Cond) (s_REGION : Addr) (h0 : Heap) (n0 : Nat) (Z0 : n0 ≤ h0.size) (S_REGION : Sta Z h0 "com/example/taproom/taproom/model/ColumnType" "REGION" "Lcom/example/taproom/taproom/model/ColumnType;" (.ref s_REGION)) :
    MetFree l (⟨"com/example/taproom/taproom/model/ColumnTypeIsWholePinLaw", "pick", "(I)Lcom/example/taproom/taproom/model/ColumnType;"⟩ : MethodName) (head1 (Jvm.Cond.code (⟨"com/example/taproom/taproom/model/ColumnTypeIsWholePinLaw", "pick", "(I)Lcom/example/taproom/taproom/model/ColumnType;"⟩ : MethodName) method_2_code 1 (some (.object "com/example/taproom/taproom/model/ColumnType")) :: ws) ({ frames := 0, cells := 0, slots := 0, locals := 0 } : Room)) (fun a U => a = #[(.int (9 : Int32))] ∧ Z.Warmed39 U.vm ∧ U.heap = h0) (fun _ _ _ _ _ => True) (fun _ U o U' => ∃ v L, o = .returned v ∧ own_Q10 Z s_REGION h0 n0 v U'.heap L ∧ FrameEnd U o U' L ({ frames := 0, cells := 0, slots := 0, locals := 0 } : Room).cells ({ frames := 0, cells := 0, slots := 0, locals := 0 } : Room).slots) := by
  refine MetFree.of_bodySF (plainFor_of_name own_pn0) hisR ?_
  intro p e s m args below meth c s₁ Bd hml0 hP hK
  obtain ⟨rfl, hZ, hh⟩ := hP
  have hx := Bd.exec
  have hby := Bd.bytes
  have hlk := Bd.notSynchronized
  have hml : c.maxLocals = 1 := hml0
  have hown : s.vm.findClass "com/example/taproom/taproom/model/ColumnTypeIsWholePinLaw" = some m.cls := findClass_of_methodNamed Bd.named
  have hnm := (name_of_methodNamed Bd.named Bd.method).1
  have X0 : Stand p l e ({ frames := 0, cells := 0, slots := 0, locals := 0 } : Room) s m #[(.int (9 : Int32))] below meth c s₁ [] 0 0 := Stand.of_body Bd
  have e0 : s₁.heap = h0 := by rw [← hh, Bd.state]; rfl
  have N0 := Fr.nil n0
  have KR : Keep h0 h0 [] := Keep.refl _ _
  show own_Fin p e below s ({ frames := 0, cells := 0, slots := 0, locals := 0 } : Room).cells ({ frames := 0, cells := 0, slots := 0, locals := 0 } : Room).slots (own_Q10 Z s_REGION h0 n0) (s₁.setTop (entryFrame m #[(.int (9 : Int32))] 1))
  refine own_cast (own_ef10 m ) ?_
  refine own_step (fun _ k => XS.iloadN X0.here hx rfl (hb hby own_d10_0) rfl k) ?_
  show own_Fin p e below s _ _ _ (s₁.setTop (mkF m 1 #[.val (.int (9 : Int32))] [(.int (9 : Int32))]))
  refine own_step (fun _ k => XS.ifYes X0.here hx rfl (pc0 := 1) (pc' := 8) rfl (hb hby own_d10_1) rfl ((if0 _ _).trans (feq (by decide : ¬ ((9 : Int32) = (0 : Int32)))).2) (by decide) (by decide) k) ?_
  show own_Fin p e below s _ _ _ (s₁.setTop (mkF m 8 #[.val (.int (9 : Int32))] []))
  refine own_step (fun _ k => XS.iloadN X0.here hx rfl (hb hby own_d10_8) rfl k) ?_
  show own_Fin p e below s _ _ _ (s₁.setTop (mkF m 9 #[.val (.int (9 : Int32))] [(.int (9 : Int32))]))
  refine own_step (fun _ k => XS.iconst X0.here hx rfl (hb hby own_d10_9) k) ?_
  show own_Fin p e below s _ _ _ (s₁.setTop (mkF m 10 #[.val (.int (9 : Int32))] [(.int (1 : Int32)), (.int (9 : Int32))]))
  refine own_step (fun _ k => XS.icmpYes X0.here hx rfl (pc0 := 10) (pc' := 17) rfl (hb hby own_d10_10) rfl (feq (by decide : ¬ ((9 : Int32) = (1 : Int32)))).2 (by decide) (by decide) k) ?_
  show own_Fin p e below s _ _ _ (s₁.setTop (mkF m 17 #[.val (.int (9 : Int32))] []))
  refine own_step (fun _ k => XS.iloadN X0.here hx rfl (hb hby own_d10_17) rfl k) ?_
  show own_Fin p e below s _ _ _ (s₁.setTop (mkF m 18 #[.val (.int (9 : Int32))] [(.int (9 : Int32))]))
  refine own_step (fun _ k => XS.iconst X0.here hx rfl (hb hby own_d10_18) k) ?_
  show own_Fin p e below s _ _ _ (s₁.setTop (mkF m 19 #[.val (.int (9 : Int32))] [(.int (2 : Int32)), (.int (9 : Int32))]))
  refine own_step (fun _ k => XS.icmpYes X0.here hx rfl (pc0 := 19) (pc' := 26) rfl (hb hby own_d10_19) rfl (feq (by decide : ¬ ((9 : Int32) = (2 : Int32)))).2 (by decide) (by decide) k) ?_
  show own_Fin p e below s _ _ _ (s₁.setTop (mkF m 26 #[.val (.int (9 : Int32))] []))
  refine own_step (fun _ k => XS.iloadN X0.here hx rfl (hb hby own_d10_26) rfl k) ?_
  show own_Fin p e below s _ _ _ (s₁.setTop (mkF m 27 #[.val (.int (9 : Int32))] [(.int (9 : Int32))]))
  refine own_step (fun _ k => XS.iconst X0.here hx rfl (hb hby own_d10_27) k) ?_
  show own_Fin p e below s _ _ _ (s₁.setTop (mkF m 28 #[.val (.int (9 : Int32))] [(.int (3 : Int32)), (.int (9 : Int32))]))
  refine own_step (fun _ k => XS.icmpYes X0.here hx rfl (pc0 := 28) (pc' := 35) rfl (hb hby own_d10_28) rfl (feq (by decide : ¬ ((9 : Int32) = (3 : Int32)))).2 (by decide) (by decide) k) ?_
  show own_Fin p e below s _ _ _ (s₁.setTop (mkF m 35 #[.val (.int (9 : Int32))] []))
  refine own_step (fun _ k => XS.iloadN X0.here hx rfl (hb hby own_d10_35) rfl k) ?_
  show own_Fin p e below s _ _ _ (s₁.setTop (mkF m 36 #[.val (.int (9 : Int32))] [(.int (9 : Int32))]))
  refine own_step (fun _ k => XS.iconst X0.here hx rfl (hb hby own_d10_36) k) ?_
  show own_Fin p e below s _ _ _ (s₁.setTop (mkF m 37 #[.val (.int (9 : Int32))] [(.int (4 : Int32)), (.int (9 : Int32))]))
  refine own_step (fun _ k => XS.icmpYes X0.here hx rfl (pc0 := 37) (pc' := 44) rfl (hb hby own_d10_37) rfl (feq (by decide : ¬ ((9 : Int32) = (4 : Int32)))).2 (by decide) (by decide) k) ?_
  show own_Fin p e below s _ _ _ (s₁.setTop (mkF m 44 #[.val (.int (9 : Int32))] []))
  refine own_step (fun _ k => XS.iloadN X0.here hx rfl (hb hby own_d10_44) rfl k) ?_
  show own_Fin p e below s _ _ _ (s₁.setTop (mkF m 45 #[.val (.int (9 : Int32))] [(.int (9 : Int32))]))
  refine own_step (fun _ k => XS.iconst X0.here hx rfl (hb hby own_d10_45) k) ?_
  show own_Fin p e below s _ _ _ (s₁.setTop (mkF m 46 #[.val (.int (9 : Int32))] [(.int (5 : Int32)), (.int (9 : Int32))]))
  refine own_step (fun _ k => XS.icmpYes X0.here hx rfl (pc0 := 46) (pc' := 53) rfl (hb hby own_d10_46) rfl (feq (by decide : ¬ ((9 : Int32) = (5 : Int32)))).2 (by decide) (by decide) k) ?_
  show own_Fin p e below s _ _ _ (s₁.setTop (mkF m 53 #[.val (.int (9 : Int32))] []))
  refine own_step (fun _ k => XS.iloadN X0.here hx rfl (hb hby own_d10_53) rfl k) ?_
  show own_Fin p e below s _ _ _ (s₁.setTop (mkF m 54 #[.val (.int (9 : Int32))] [(.int (9 : Int32))]))
  refine own_step (fun _ k => XS.bipush X0.here hx rfl (hb hby own_d10_54) k) ?_
  show own_Fin p e below s _ _ _ (s₁.setTop (mkF m 56 #[.val (.int (9 : Int32))] [(.int (6 : Int32)), (.int (9 : Int32))]))
  refine own_step (fun _ k => XS.icmpYes X0.here hx rfl (pc0 := 56) (pc' := 63) rfl (hb hby own_d10_56) rfl (feq (by decide : ¬ ((9 : Int32) = (6 : Int32)))).2 (by decide) (by decide) k) ?_
  show own_Fin p e below s _ _ _ (s₁.setTop (mkF m 63 #[.val (.int (9 : Int32))] []))
  refine own_step (fun _ k => XS.iloadN X0.here hx rfl (hb hby own_d10_63) rfl k) ?_
  show own_Fin p e below s _ _ _ (s₁.setTop (mkF m 64 #[.val (.int (9 : Int32))] [(.int (9 : Int32))]))
  refine own_step (fun _ k => XS.bipush X0.here hx rfl (hb hby own_d10_64) k) ?_
  show own_Fin p e below s _ _ _ (s₁.setTop (mkF m 66 #[.val (.int (9 : Int32))] [(.int (7 : Int32)), (.int (9 : Int32))]))
  refine own_step (fun _ k => XS.icmpYes X0.here hx rfl (pc0 := 66) (pc' := 73) rfl (hb hby own_d10_66) rfl (feq (by decide : ¬ ((9 : Int32) = (7 : Int32)))).2 (by decide) (by decide) k) ?_
  show own_Fin p e below s _ _ _ (s₁.setTop (mkF m 73 #[.val (.int (9 : Int32))] []))
  refine own_step (fun _ k => XS.iloadN X0.here hx rfl (hb hby own_d10_73) rfl k) ?_
  show own_Fin p e below s _ _ _ (s₁.setTop (mkF m 74 #[.val (.int (9 : Int32))] [(.int (9 : Int32))]))
  refine own_step (fun _ k => XS.bipush X0.here hx rfl (hb hby own_d10_74) k) ?_
  show own_Fin p e below s _ _ _ (s₁.setTop (mkF m 76 #[.val (.int (9 : Int32))] [(.int (8 : Int32)), (.int (9 : Int32))]))
  refine own_step (fun _ k => XS.icmpYes X0.here hx rfl (pc0 := 76) (pc' := 83) rfl (hb hby own_d10_76) rfl (feq (by decide : ¬ ((9 : Int32) = (8 : Int32)))).2 (by decide) (by decide) k) ?_
  show own_Fin p e below s _ _ _ (s₁.setTop (mkF m 83 #[.val (.int (9 : Int32))] []))
  obtain ⟨T1, X1, e1, st1⟩ := getS2 X0 hx hZ hown (host := "") (Or.inl (own_w hw 28 rfl)) Via.refl e0 S_REGION (g := (mkF m 83 #[.val (.int (9 : Int32))] [])) rfl (hb hby own_d10_83)
  refine own_step st1 ?_
  show own_Fin p e below s _ _ _ (T1.setTop (mkF m 86 #[.val (.int (9 : Int32))] [(.ref s_REGION)]))
  exact own_ret X1 hlk (v := some (.ref s_REGION)) (fun h => by rw [Bd.returns] at h; cases h) (by decide) (by decide) (by show own_Q10 Z s_REGION h0 n0 _ T1.heap _; rw [e1]; exact ⟨rfl, N0, rfl⟩) (fun fs hr => retOut X1 hx Bd.returns rfl (Or.inr (Or.inr (Or.inr (Or.inr ⟨rfl, rfl, rfl⟩)))) (hb hby own_d10_86) hr)

theorem own_d11_0 : decode prog_61_method_5_code 0 = .ok (.aload_n 0, 1) := by decide +kernel
theorem own_d11_1 : decode prog_61_method_5_code 1 = .ok (.getstatic 3, 3) := by decide +kernel
theorem own_d11_4 : decode prog_61_method_5_code 4 = .ok (.if_acmp .eq 17, 3) := by decide +kernel
theorem own_d11_21 : decode prog_61_method_5_code 21 = .ok (.iconst 1, 1) := by decide +kernel
theorem own_d11_22 : decode prog_61_method_5_code 22 = .ok (.goto 4, 3) := by decide +kernel
theorem own_d11_26 : decode prog_61_method_5_code 26 = .ok (.ireturn, 1) := by decide +kernel
theorem own_pn1 : plainName "com/example/taproom/taproom/model/ColumnType" = true := by first | (simp [plainName, overriddenIn]; done) | decide +kernel
theorem own_ef11 (m : MethodId) (s_SMALLINT : Addr) : entryFrame m #[(.ref s_SMALLINT)] 1 = mkF m 0 #[.val (.ref s_SMALLINT)] [] := by first | (simp [entryFrame, mkF, argsToLocals, Value.category]; done) | rfl
def own_Q11 (Z : State) (s_SMALLINT : Addr) (h0 : Heap) (n0 : Nat) (v : Option Value) (h : Heap) (L : List Loc) : Prop := v = some (.int (1 : Int32)) ∧ Fr n0 L ∧ h = h0
set_option maxRecDepth 65536 in
set_option maxHeartbeats 40000000 in
theorem own_rm11 (l : Launch) (Z : State) (a0 : Array Value) (hw : ∀ d ∈ tables_1, d.before a0 Z = true) (ws : List Jvm.Cond) (s_SMALLINT : Addr) (h0 : Heap) (n0 : Nat) (Z0 : n0 ≤ h0.size) (S_SMALLINT : Sta Z h0 "com/example/taproom/taproom/model/ColumnType" "SMALLINT" "Lcom/example/taproom/taproom/model/ColumnType;" (.ref s_SMALLINT)) :
    MetFree l (⟨"com/example/taproom/taproom/model/ColumnType", "isWhole", "()Z"⟩ : MethodName) (head1 (Jvm.Cond.code (⟨"com/example/taproom/taproom/model/ColumnType", "isWhole", "()Z"⟩ : MethodName) prog_61_method_5_code 1 (some .boolean) :: ws) ({ frames := 0, cells := 0, slots := 0, locals := 0 } : Room)) (fun a U => a = #[(.ref s_SMALLINT)] ∧ Z.Warmed39 U.vm ∧ U.heap = h0) (fun _ _ _ _ _ => True) (fun _ U o U' => ∃ v L, o = .returned v ∧ own_Q11 Z s_SMALLINT h0 n0 v U'.heap L ∧ FrameEnd U o U' L ({ frames := 0, cells := 0, slots := 0, locals := 0 } : Room).cells ({ frames := 0, cells := 0, slots := 0, locals := 0 } : Room).slots) := by
  refine MetFree.of_bodySF (plainFor_of_name own_pn1) hisR ?_
  intro p e s m args below meth c s₁ Bd hml0 hP hK
  obtain ⟨rfl, hZ, hh⟩ := hP
  have hx := Bd.exec
  have hby := Bd.bytes
  have hlk := Bd.notSynchronized
  have hml : c.maxLocals = 1 := hml0
  have hown : s.vm.findClass "com/example/taproom/taproom/model/ColumnType" = some m.cls := findClass_of_methodNamed Bd.named
  have hnm := (name_of_methodNamed Bd.named Bd.method).1
  have X0 : Stand p l e ({ frames := 0, cells := 0, slots := 0, locals := 0 } : Room) s m #[(.ref s_SMALLINT)] below meth c s₁ [] 0 0 := Stand.of_body Bd
  have e0 : s₁.heap = h0 := by rw [← hh, Bd.state]; rfl
  have N0 := Fr.nil n0
  have KR : Keep h0 h0 [] := Keep.refl _ _
  show own_Fin p e below s ({ frames := 0, cells := 0, slots := 0, locals := 0 } : Room).cells ({ frames := 0, cells := 0, slots := 0, locals := 0 } : Room).slots (own_Q11 Z s_SMALLINT h0 n0) (s₁.setTop (entryFrame m #[(.ref s_SMALLINT)] 1))
  refine own_cast (own_ef11 m s_SMALLINT) ?_
  refine own_step (fun _ k => XS.aloadN X0.here hx rfl (hb hby own_d11_0) rfl rfl k) ?_
  show own_Fin p e below s _ _ _ (s₁.setTop (mkF m 1 #[.val (.ref s_SMALLINT)] [(.ref s_SMALLINT)]))
  obtain ⟨T1, X1, e1, st1⟩ := getS2 X0 hx hZ hown (host := "") (Or.inl (own_w hw 13 rfl)) Via.refl e0 S_SMALLINT (g := (mkF m 1 #[.val (.ref s_SMALLINT)] [(.ref s_SMALLINT)])) rfl (hb hby own_d11_1)
  refine own_step st1 ?_
  show own_Fin p e below s _ _ _ (T1.setTop (mkF m 4 #[.val (.ref s_SMALLINT)] [(.ref s_SMALLINT), (.ref s_SMALLINT)]))
  refine own_step (fun _ k => Jvm.RoadKit.acmp (g := (mkF m 4 #[.val (.ref s_SMALLINT)] [(.ref s_SMALLINT), (.ref s_SMALLINT)])) X1 hx rfl rfl rfl (pc0 := 4) (pc' := 21) (same := true) rfl (hb hby own_d11_4) rfl (decide_eq_true rfl) (by decide) (by decide) k) ?_
  show own_Fin p e below s _ _ _ (T1.setTop (mkF m 21 #[.val (.ref s_SMALLINT)] []))
  refine own_step (fun _ k => XS.iconst X1.here hx rfl (hb hby own_d11_21) k) ?_
  show own_Fin p e below s _ _ _ (T1.setTop (mkF m 22 #[.val (.ref s_SMALLINT)] [(.int (1 : Int32))]))
  refine own_step (fun _ k => XS.goto X1.here hx rfl (pc0 := 22) (pc' := 26) rfl (hb hby own_d11_22) (by decide) (by decide) k) ?_
  show own_Fin p e below s _ _ _ (T1.setTop (mkF m 26 #[.val (.ref s_SMALLINT)] [(.int (1 : Int32))]))
  exact own_ret X1 hlk (v := some (.int (1 : Int32))) (fun h => by rw [Bd.returns] at h; cases h) (by decide) (by decide) (by show own_Q11 Z s_SMALLINT h0 n0 _ T1.heap _; rw [e1]; exact ⟨rfl, N0, rfl⟩) (fun fs hr => retN X1 hx (t := .boolean) Bd.returns (by simp) (hb hby own_d11_26) hr)

theorem own_d12_0 : decode prog_61_method_5_code 0 = .ok (.aload_n 0, 1) := by decide +kernel
theorem own_d12_1 : decode prog_61_method_5_code 1 = .ok (.getstatic 3, 3) := by decide +kernel
theorem own_d12_4 : decode prog_61_method_5_code 4 = .ok (.if_acmp .eq 17, 3) := by decide +kernel
theorem own_d12_7 : decode prog_61_method_5_code 7 = .ok (.aload_n 0, 1) := by decide +kernel
theorem own_d12_8 : decode prog_61_method_5_code 8 = .ok (.getstatic 7, 3) := by decide +kernel
theorem own_d12_11 : decode prog_61_method_5_code 11 = .ok (.if_acmp .eq 10, 3) := by decide +kernel
theorem own_d12_21 : decode prog_61_method_5_code 21 = .ok (.iconst 1, 1) := by decide +kernel
theorem own_d12_22 : decode prog_61_method_5_code 22 = .ok (.goto 4, 3) := by decide +kernel
theorem own_d12_26 : decode prog_61_method_5_code 26 = .ok (.ireturn, 1) := by decide +kernel
theorem own_ef12 (m : MethodId) (s_INTEGER : Addr) : entryFrame m #[(.ref s_INTEGER)] 1 = mkF m 0 #[.val (.ref s_INTEGER)] [] := by first | (simp [entryFrame, mkF, argsToLocals, Value.category]; done) | rfl
def own_Q12 (Z : State) (s_INTEGER : Addr) (s_SMALLINT : Addr) (h0 : Heap) (n0 : Nat) (v : Option Value) (h : Heap) (L : List Loc) : Prop := v = some (.int (1 : Int32)) ∧ Fr n0 L ∧ h = h0
set_option maxRecDepth 65536 in
set_option maxHeartbeats 40000000 in
theorem own_rm12 (l : Launch) (Z : State) (a0 : Array Value) (hw : ∀ d ∈ tables_1, d.before a0 Z = true) (ws : List Jvm.Cond) (s_INTEGER : Addr) (s_SMALLINT : Addr) (h0 : Heap) (n0 : Nat) (Z0 : n0 ≤ h0.size) (S_SMALLINT : Sta Z h0 "com/example/taproom/taproom/model/ColumnType" "SMALLINT" "Lcom/example/taproom/taproom/model/ColumnType;" (.ref s_SMALLINT)) (ne_s_INTEGER_s_SMALLINT : s_INTEGER ≠ s_SMALLINT) (S_INTEGER : Sta Z h0 "com/example/taproom/taproom/model/ColumnType" "INTEGER" "Lcom/example/taproom/taproom/model/ColumnType;" (.ref s_INTEGER)) :
    MetFree l (⟨"com/example/taproom/taproom/model/ColumnType", "isWhole", "()Z"⟩ : MethodName) (head1 (Jvm.Cond.code (⟨"com/example/taproom/taproom/model/ColumnType", "isWhole", "()Z"⟩ : MethodName) prog_61_method_5_code 1 (some .boolean) :: ws) ({ frames := 0, cells := 0, slots := 0, locals := 0 } : Room)) (fun a U => a = #[(.ref s_INTEGER)] ∧ Z.Warmed39 U.vm ∧ U.heap = h0) (fun _ _ _ _ _ => True) (fun _ U o U' => ∃ v L, o = .returned v ∧ own_Q12 Z s_INTEGER s_SMALLINT h0 n0 v U'.heap L ∧ FrameEnd U o U' L ({ frames := 0, cells := 0, slots := 0, locals := 0 } : Room).cells ({ frames := 0, cells := 0, slots := 0, locals := 0 } : Room).slots) := by
  refine MetFree.of_bodySF (plainFor_of_name own_pn1) hisR ?_
  intro p e s m args below meth c s₁ Bd hml0 hP hK
  obtain ⟨rfl, hZ, hh⟩ := hP
  have hx := Bd.exec
  have hby := Bd.bytes
  have hlk := Bd.notSynchronized
  have hml : c.maxLocals = 1 := hml0
  have hown : s.vm.findClass "com/example/taproom/taproom/model/ColumnType" = some m.cls := findClass_of_methodNamed Bd.named
  have hnm := (name_of_methodNamed Bd.named Bd.method).1
  have X0 : Stand p l e ({ frames := 0, cells := 0, slots := 0, locals := 0 } : Room) s m #[(.ref s_INTEGER)] below meth c s₁ [] 0 0 := Stand.of_body Bd
  have e0 : s₁.heap = h0 := by rw [← hh, Bd.state]; rfl
  have N0 := Fr.nil n0
  have KR : Keep h0 h0 [] := Keep.refl _ _
  show own_Fin p e below s ({ frames := 0, cells := 0, slots := 0, locals := 0 } : Room).cells ({ frames := 0, cells := 0, slots := 0, locals := 0 } : Room).slots (own_Q12 Z s_INTEGER s_SMALLINT h0 n0) (s₁.setTop (entryFrame m #[(.ref s_INTEGER)] 1))
  refine own_cast (own_ef12 m s_INTEGER) ?_
  refine own_step (fun _ k => XS.aloadN X0.here hx rfl (hb hby own_d12_0) rfl rfl k) ?_
  show own_Fin p e below s _ _ _ (s₁.setTop (mkF m 1 #[.val (.ref s_INTEGER)] [(.ref s_INTEGER)]))
  obtain ⟨T1, X1, e1, st1⟩ := getS2 X0 hx hZ hown (host := "") (Or.inl (own_w hw 13 rfl)) Via.refl e0 S_SMALLINT (g := (mkF m 1 #[.val (.ref s_INTEGER)] [(.ref s_INTEGER)])) rfl (hb hby own_d12_1)
  refine own_step st1 ?_
  show own_Fin p e below s _ _ _ (T1.setTop (mkF m 4 #[.val (.ref s_INTEGER)] [(.ref s_SMALLINT), (.ref s_INTEGER)]))
  refine own_step (fun _ k => Jvm.RoadKit.acmp (g := (mkF m 4 #[.val (.ref s_INTEGER)] [(.ref s_SMALLINT), (.ref s_INTEGER)])) X1 hx rfl rfl rfl (pc0 := 4) (pc' := 7) (same := false) rfl (hb hby own_d12_4) rfl (decide_eq_false fun q => ne_s_INTEGER_s_SMALLINT (Value.ref.inj q)) (by decide) (by decide) k) ?_
  show own_Fin p e below s _ _ _ (T1.setTop (mkF m 7 #[.val (.ref s_INTEGER)] []))
  refine own_step (fun _ k => XS.aloadN X1.here hx rfl (hb hby own_d12_7) rfl rfl k) ?_
  show own_Fin p e below s _ _ _ (T1.setTop (mkF m 8 #[.val (.ref s_INTEGER)] [(.ref s_INTEGER)]))
  obtain ⟨T2, X2, e2, st2⟩ := getS2 X1 hx hZ hown (host := "") (Or.inl (own_w hw 16 rfl)) Via.refl e1 S_INTEGER (g := (mkF m 8 #[.val (.ref s_INTEGER)] [(.ref s_INTEGER)])) rfl (hb hby own_d12_8)
  refine own_step st2 ?_
  show own_Fin p e below s _ _ _ (T2.setTop (mkF m 11 #[.val (.ref s_INTEGER)] [(.ref s_INTEGER), (.ref s_INTEGER)]))
  refine own_step (fun _ k => Jvm.RoadKit.acmp (g := (mkF m 11 #[.val (.ref s_INTEGER)] [(.ref s_INTEGER), (.ref s_INTEGER)])) X2 hx rfl rfl rfl (pc0 := 11) (pc' := 21) (same := true) rfl (hb hby own_d12_11) rfl (decide_eq_true rfl) (by decide) (by decide) k) ?_
  show own_Fin p e below s _ _ _ (T2.setTop (mkF m 21 #[.val (.ref s_INTEGER)] []))
  refine own_step (fun _ k => XS.iconst X2.here hx rfl (hb hby own_d12_21) k) ?_
  show own_Fin p e below s _ _ _ (T2.setTop (mkF m 22 #[.val (.ref s_INTEGER)] [(.int (1 : Int32))]))
  refine own_step (fun _ k => XS.goto X2.here hx rfl (pc0 := 22) (pc' := 26) rfl (hb hby own_d12_22) (by decide) (by decide) k) ?_
  show own_Fin p e below s _ _ _ (T2.setTop (mkF m 26 #[.val (.ref s_INTEGER)] [(.int (1 : Int32))]))
  exact own_ret X2 hlk (v := some (.int (1 : Int32))) (fun h => by rw [Bd.returns] at h; cases h) (by decide) (by decide) (by show own_Q12 Z s_INTEGER s_SMALLINT h0 n0 _ T2.heap _; rw [e2]; exact ⟨rfl, N0, rfl⟩) (fun fs hr => retN X2 hx (t := .boolean) Bd.returns (by simp) (hb hby own_d12_26) hr)

theorem own_d13_0 : decode prog_61_method_5_code 0 = .ok (.aload_n 0, 1) := by decide +kernel
theorem own_d13_1 : decode prog_61_method_5_code 1 = .ok (.getstatic 3, 3) := by decide +kernel
theorem own_d13_4 : decode prog_61_method_5_code 4 = .ok (.if_acmp .eq 17, 3) := by decide +kernel
theorem own_d13_7 : decode prog_61_method_5_code 7 = .ok (.aload_n 0, 1) := by decide +kernel
theorem own_d13_8 : decode prog_61_method_5_code 8 = .ok (.getstatic 7, 3) := by decide +kernel
theorem own_d13_11 : decode prog_61_method_5_code 11 = .ok (.if_acmp .eq 10, 3) := by decide +kernel
theorem own_d13_14 : decode prog_61_method_5_code 14 = .ok (.aload_n 0, 1) := by decide +kernel
theorem own_d13_15 : decode prog_61_method_5_code 15 = .ok (.getstatic 10, 3) := by decide +kernel
theorem own_d13_18 : decode prog_61_method_5_code 18 = .ok (.if_acmp .ne 7, 3) := by decide +kernel
theorem own_d13_21 : decode prog_61_method_5_code 21 = .ok (.iconst 1, 1) := by decide +kernel
theorem own_d13_22 : decode prog_61_method_5_code 22 = .ok (.goto 4, 3) := by decide +kernel
theorem own_d13_26 : decode prog_61_method_5_code 26 = .ok (.ireturn, 1) := by decide +kernel
theorem own_ef13 (m : MethodId) (s_BIGINT : Addr) : entryFrame m #[(.ref s_BIGINT)] 1 = mkF m 0 #[.val (.ref s_BIGINT)] [] := by first | (simp [entryFrame, mkF, argsToLocals, Value.category]; done) | rfl
def own_Q13 (Z : State) (s_BIGINT : Addr) (s_SMALLINT : Addr) (s_INTEGER : Addr) (h0 : Heap) (n0 : Nat) (v : Option Value) (h : Heap) (L : List Loc) : Prop := v = some (.int (1 : Int32)) ∧ Fr n0 L ∧ h = h0
set_option maxRecDepth 65536 in
set_option maxHeartbeats 40000000 in
theorem own_rm13 (l : Launch) (Z : State) (a0 : Array Value) (hw : ∀ d ∈ tables_1, d.before a0 Z = true) (ws : List Jvm.Cond) (s_BIGINT : Addr) (s_SMALLINT : Addr) (s_INTEGER : Addr) (h0 : Heap) (n0 : Nat) (Z0 : n0 ≤ h0.size) (S_SMALLINT : Sta Z h0 "com/example/taproom/taproom/model/ColumnType" "SMALLINT" "Lcom/example/taproom/taproom/model/ColumnType;" (.ref s_SMALLINT)) (ne_s_BIGINT_s_SMALLINT : s_BIGINT ≠ s_SMALLINT) (S_INTEGER : Sta Z h0 "com/example/taproom/taproom/model/ColumnType" "INTEGER" "Lcom/example/taproom/taproom/model/ColumnType;" (.ref s_INTEGER)) (ne_s_BIGINT_s_INTEGER : s_BIGINT ≠ s_INTEGER) (S_BIGINT : Sta Z h0 "com/example/taproom/taproom/model/ColumnType" "BIGINT" "Lcom/example/taproom/taproom/model/ColumnType;" (.ref s_BIGINT)) :
    MetFree l (⟨"com/example/taproom/taproom/model/ColumnType", "isWhole", "()Z"⟩ : MethodName) (head1 (Jvm.Cond.code (⟨"com/example/taproom/taproom/model/ColumnType", "isWhole", "()Z"⟩ : MethodName) prog_61_method_5_code 1 (some .boolean) :: ws) ({ frames := 0, cells := 0, slots := 0, locals := 0 } : Room)) (fun a U => a = #[(.ref s_BIGINT)] ∧ Z.Warmed39 U.vm ∧ U.heap = h0) (fun _ _ _ _ _ => True) (fun _ U o U' => ∃ v L, o = .returned v ∧ own_Q13 Z s_BIGINT s_SMALLINT s_INTEGER h0 n0 v U'.heap L ∧ FrameEnd U o U' L ({ frames := 0, cells := 0, slots := 0, locals := 0 } : Room).cells ({ frames := 0, cells := 0, slots := 0, locals := 0 } : Room).slots) := by
  refine MetFree.of_bodySF (plainFor_of_name own_pn1) hisR ?_
  intro p e s m args below meth c s₁ Bd hml0 hP hK
  obtain ⟨rfl, hZ, hh⟩ := hP
  have hx := Bd.exec
  have hby := Bd.bytes
  have hlk := Bd.notSynchronized
  have hml : c.maxLocals = 1 := hml0
  have hown : s.vm.findClass "com/example/taproom/taproom/model/ColumnType" = some m.cls := findClass_of_methodNamed Bd.named
  have hnm := (name_of_methodNamed Bd.named Bd.method).1
  have X0 : Stand p l e ({ frames := 0, cells := 0, slots := 0, locals := 0 } : Room) s m #[(.ref s_BIGINT)] below meth c s₁ [] 0 0 := Stand.of_body Bd
  have e0 : s₁.heap = h0 := by rw [← hh, Bd.state]; rfl
  have N0 := Fr.nil n0
  have KR : Keep h0 h0 [] := Keep.refl _ _
  show own_Fin p e below s ({ frames := 0, cells := 0, slots := 0, locals := 0 } : Room).cells ({ frames := 0, cells := 0, slots := 0, locals := 0 } : Room).slots (own_Q13 Z s_BIGINT s_SMALLINT s_INTEGER h0 n0) (s₁.setTop (entryFrame m #[(.ref s_BIGINT)] 1))
  refine own_cast (own_ef13 m s_BIGINT) ?_
  refine own_step (fun _ k => XS.aloadN X0.here hx rfl (hb hby own_d13_0) rfl rfl k) ?_
  show own_Fin p e below s _ _ _ (s₁.setTop (mkF m 1 #[.val (.ref s_BIGINT)] [(.ref s_BIGINT)]))
  obtain ⟨T1, X1, e1, st1⟩ := getS2 X0 hx hZ hown (host := "") (Or.inl (own_w hw 13 rfl)) Via.refl e0 S_SMALLINT (g := (mkF m 1 #[.val (.ref s_BIGINT)] [(.ref s_BIGINT)])) rfl (hb hby own_d13_1)
  refine own_step st1 ?_
  show own_Fin p e below s _ _ _ (T1.setTop (mkF m 4 #[.val (.ref s_BIGINT)] [(.ref s_SMALLINT), (.ref s_BIGINT)]))
  refine own_step (fun _ k => Jvm.RoadKit.acmp (g := (mkF m 4 #[.val (.ref s_BIGINT)] [(.ref s_SMALLINT), (.ref s_BIGINT)])) X1 hx rfl rfl rfl (pc0 := 4) (pc' := 7) (same := false) rfl (hb hby own_d13_4) rfl (decide_eq_false fun q => ne_s_BIGINT_s_SMALLINT (Value.ref.inj q)) (by decide) (by decide) k) ?_
  show own_Fin p e below s _ _ _ (T1.setTop (mkF m 7 #[.val (.ref s_BIGINT)] []))
  refine own_step (fun _ k => XS.aloadN X1.here hx rfl (hb hby own_d13_7) rfl rfl k) ?_
  show own_Fin p e below s _ _ _ (T1.setTop (mkF m 8 #[.val (.ref s_BIGINT)] [(.ref s_BIGINT)]))
  obtain ⟨T2, X2, e2, st2⟩ := getS2 X1 hx hZ hown (host := "") (Or.inl (own_w hw 16 rfl)) Via.refl e1 S_INTEGER (g := (mkF m 8 #[.val (.ref s_BIGINT)] [(.ref s_BIGINT)])) rfl (hb hby own_d13_8)
  refine own_step st2 ?_
  show own_Fin p e below s _ _ _ (T2.setTop (mkF m 11 #[.val (.ref s_BIGINT)] [(.ref s_INTEGER), (.ref s_BIGINT)]))
  refine own_step (fun _ k => Jvm.RoadKit.acmp (g := (mkF m 11 #[.val (.ref s_BIGINT)] [(.ref s_INTEGER), (.ref s_BIGINT)])) X2 hx rfl rfl rfl (pc0 := 11) (pc' := 14) (same := false) rfl (hb hby own_d13_11) rfl (decide_eq_false fun q => ne_s_BIGINT_s_INTEGER (Value.ref.inj q)) (by decide) (by decide) k) ?_
  show own_Fin p e below s _ _ _ (T2.setTop (mkF m 14 #[.val (.ref s_BIGINT)] []))
  refine own_step (fun _ k => XS.aloadN X2.here hx rfl (hb hby own_d13_14) rfl rfl k) ?_
  show own_Fin p e below s _ _ _ (T2.setTop (mkF m 15 #[.val (.ref s_BIGINT)] [(.ref s_BIGINT)]))
  obtain ⟨T3, X3, e3, st3⟩ := getS2 X2 hx hZ hown (host := "") (Or.inl (own_w hw 18 rfl)) Via.refl e2 S_BIGINT (g := (mkF m 15 #[.val (.ref s_BIGINT)] [(.ref s_BIGINT)])) rfl (hb hby own_d13_15)
  refine own_step st3 ?_
  show own_Fin p e below s _ _ _ (T3.setTop (mkF m 18 #[.val (.ref s_BIGINT)] [(.ref s_BIGINT), (.ref s_BIGINT)]))
  refine own_step (fun _ k => Jvm.RoadKit.acmp (g := (mkF m 18 #[.val (.ref s_BIGINT)] [(.ref s_BIGINT), (.ref s_BIGINT)])) X3 hx rfl rfl rfl (pc0 := 18) (pc' := 21) (same := true) rfl (hb hby own_d13_18) rfl (decide_eq_true rfl) (by decide) (by decide) k) ?_
  show own_Fin p e below s _ _ _ (T3.setTop (mkF m 21 #[.val (.ref s_BIGINT)] []))
  refine own_step (fun _ k => XS.iconst X3.here hx rfl (hb hby own_d13_21) k) ?_
  show own_Fin p e below s _ _ _ (T3.setTop (mkF m 22 #[.val (.ref s_BIGINT)] [(.int (1 : Int32))]))
  refine own_step (fun _ k => XS.goto X3.here hx rfl (pc0 := 22) (pc' := 26) rfl (hb hby own_d13_22) (by decide) (by decide) k) ?_
  show own_Fin p e below s _ _ _ (T3.setTop (mkF m 26 #[.val (.ref s_BIGINT)] [(.int (1 : Int32))]))
  exact own_ret X3 hlk (v := some (.int (1 : Int32))) (fun h => by rw [Bd.returns] at h; cases h) (by decide) (by decide) (by show own_Q13 Z s_BIGINT s_SMALLINT s_INTEGER h0 n0 _ T3.heap _; rw [e3]; exact ⟨rfl, N0, rfl⟩) (fun fs hr => retN X3 hx (t := .boolean) Bd.returns (by simp) (hb hby own_d13_26) hr)

theorem own_d14_0 : decode prog_61_method_5_code 0 = .ok (.aload_n 0, 1) := by decide +kernel
theorem own_d14_1 : decode prog_61_method_5_code 1 = .ok (.getstatic 3, 3) := by decide +kernel
theorem own_d14_4 : decode prog_61_method_5_code 4 = .ok (.if_acmp .eq 17, 3) := by decide +kernel
theorem own_d14_7 : decode prog_61_method_5_code 7 = .ok (.aload_n 0, 1) := by decide +kernel
theorem own_d14_8 : decode prog_61_method_5_code 8 = .ok (.getstatic 7, 3) := by decide +kernel
theorem own_d14_11 : decode prog_61_method_5_code 11 = .ok (.if_acmp .eq 10, 3) := by decide +kernel
theorem own_d14_14 : decode prog_61_method_5_code 14 = .ok (.aload_n 0, 1) := by decide +kernel
theorem own_d14_15 : decode prog_61_method_5_code 15 = .ok (.getstatic 10, 3) := by decide +kernel
theorem own_d14_18 : decode prog_61_method_5_code 18 = .ok (.if_acmp .ne 7, 3) := by decide +kernel
theorem own_d14_25 : decode prog_61_method_5_code 25 = .ok (.iconst 0, 1) := by decide +kernel
theorem own_d14_26 : decode prog_61_method_5_code 26 = .ok (.ireturn, 1) := by decide +kernel
theorem own_ef14 (m : MethodId) (s_REAL : Addr) : entryFrame m #[(.ref s_REAL)] 1 = mkF m 0 #[.val (.ref s_REAL)] [] := by first | (simp [entryFrame, mkF, argsToLocals, Value.category]; done) | rfl
def own_Q14 (Z : State) (s_REAL : Addr) (s_SMALLINT : Addr) (s_INTEGER : Addr) (s_BIGINT : Addr) (h0 : Heap) (n0 : Nat) (v : Option Value) (h : Heap) (L : List Loc) : Prop := v = some (.int (0 : Int32)) ∧ Fr n0 L ∧ h = h0
set_option maxRecDepth 65536 in
set_option maxHeartbeats 40000000 in
theorem own_rm14 (l : Launch) (Z : State) (a0 : Array Value) (hw : ∀ d ∈ tables_1, d.before a0 Z = true) (ws : List Jvm.Cond) (s_REAL : Addr) (s_SMALLINT : Addr) (s_INTEGER : Addr) (s_BIGINT : Addr) (h0 : Heap) (n0 : Nat) (Z0 : n0 ≤ h0.size) (S_SMALLINT : Sta Z h0 "com/example/taproom/taproom/model/ColumnType" "SMALLINT" "Lcom/example/taproom/taproom/model/ColumnType;" (.ref s_SMALLINT)) (ne_s_REAL_s_SMALLINT : s_REAL ≠ s_SMALLINT) (S_INTEGER : Sta Z h0 "com/example/taproom/taproom/model/ColumnType" "INTEGER" "Lcom/example/taproom/taproom/model/ColumnType;" (.ref s_INTEGER)) (ne_s_REAL_s_INTEGER : s_REAL ≠ s_INTEGER) (S_BIGINT : Sta Z h0 "com/example/taproom/taproom/model/ColumnType" "BIGINT" "Lcom/example/taproom/taproom/model/ColumnType;" (.ref s_BIGINT)) (ne_s_REAL_s_BIGINT : s_REAL ≠ s_BIGINT) :
    MetFree l (⟨"com/example/taproom/taproom/model/ColumnType", "isWhole", "()Z"⟩ : MethodName) (head1 (Jvm.Cond.code (⟨"com/example/taproom/taproom/model/ColumnType", "isWhole", "()Z"⟩ : MethodName) prog_61_method_5_code 1 (some .boolean) :: ws) ({ frames := 0, cells := 0, slots := 0, locals := 0 } : Room)) (fun a U => a = #[(.ref s_REAL)] ∧ Z.Warmed39 U.vm ∧ U.heap = h0) (fun _ _ _ _ _ => True) (fun _ U o U' => ∃ v L, o = .returned v ∧ own_Q14 Z s_REAL s_SMALLINT s_INTEGER s_BIGINT h0 n0 v U'.heap L ∧ FrameEnd U o U' L ({ frames := 0, cells := 0, slots := 0, locals := 0 } : Room).cells ({ frames := 0, cells := 0, slots := 0, locals := 0 } : Room).slots) := by
  refine MetFree.of_bodySF (plainFor_of_name own_pn1) hisR ?_
  intro p e s m args below meth c s₁ Bd hml0 hP hK
  obtain ⟨rfl, hZ, hh⟩ := hP
  have hx := Bd.exec
  have hby := Bd.bytes
  have hlk := Bd.notSynchronized
  have hml : c.maxLocals = 1 := hml0
  have hown : s.vm.findClass "com/example/taproom/taproom/model/ColumnType" = some m.cls := findClass_of_methodNamed Bd.named
  have hnm := (name_of_methodNamed Bd.named Bd.method).1
  have X0 : Stand p l e ({ frames := 0, cells := 0, slots := 0, locals := 0 } : Room) s m #[(.ref s_REAL)] below meth c s₁ [] 0 0 := Stand.of_body Bd
  have e0 : s₁.heap = h0 := by rw [← hh, Bd.state]; rfl
  have N0 := Fr.nil n0
  have KR : Keep h0 h0 [] := Keep.refl _ _
  show own_Fin p e below s ({ frames := 0, cells := 0, slots := 0, locals := 0 } : Room).cells ({ frames := 0, cells := 0, slots := 0, locals := 0 } : Room).slots (own_Q14 Z s_REAL s_SMALLINT s_INTEGER s_BIGINT h0 n0) (s₁.setTop (entryFrame m #[(.ref s_REAL)] 1))
  refine own_cast (own_ef14 m s_REAL) ?_
  refine own_step (fun _ k => XS.aloadN X0.here hx rfl (hb hby own_d14_0) rfl rfl k) ?_
  show own_Fin p e below s _ _ _ (s₁.setTop (mkF m 1 #[.val (.ref s_REAL)] [(.ref s_REAL)]))
  obtain ⟨T1, X1, e1, st1⟩ := getS2 X0 hx hZ hown (host := "") (Or.inl (own_w hw 13 rfl)) Via.refl e0 S_SMALLINT (g := (mkF m 1 #[.val (.ref s_REAL)] [(.ref s_REAL)])) rfl (hb hby own_d14_1)
  refine own_step st1 ?_
  show own_Fin p e below s _ _ _ (T1.setTop (mkF m 4 #[.val (.ref s_REAL)] [(.ref s_SMALLINT), (.ref s_REAL)]))
  refine own_step (fun _ k => Jvm.RoadKit.acmp (g := (mkF m 4 #[.val (.ref s_REAL)] [(.ref s_SMALLINT), (.ref s_REAL)])) X1 hx rfl rfl rfl (pc0 := 4) (pc' := 7) (same := false) rfl (hb hby own_d14_4) rfl (decide_eq_false fun q => ne_s_REAL_s_SMALLINT (Value.ref.inj q)) (by decide) (by decide) k) ?_
  show own_Fin p e below s _ _ _ (T1.setTop (mkF m 7 #[.val (.ref s_REAL)] []))
  refine own_step (fun _ k => XS.aloadN X1.here hx rfl (hb hby own_d14_7) rfl rfl k) ?_
  show own_Fin p e below s _ _ _ (T1.setTop (mkF m 8 #[.val (.ref s_REAL)] [(.ref s_REAL)]))
  obtain ⟨T2, X2, e2, st2⟩ := getS2 X1 hx hZ hown (host := "") (Or.inl (own_w hw 16 rfl)) Via.refl e1 S_INTEGER (g := (mkF m 8 #[.val (.ref s_REAL)] [(.ref s_REAL)])) rfl (hb hby own_d14_8)
  refine own_step st2 ?_
  show own_Fin p e below s _ _ _ (T2.setTop (mkF m 11 #[.val (.ref s_REAL)] [(.ref s_INTEGER), (.ref s_REAL)]))
  refine own_step (fun _ k => Jvm.RoadKit.acmp (g := (mkF m 11 #[.val (.ref s_REAL)] [(.ref s_INTEGER), (.ref s_REAL)])) X2 hx rfl rfl rfl (pc0 := 11) (pc' := 14) (same := false) rfl (hb hby own_d14_11) rfl (decide_eq_false fun q => ne_s_REAL_s_INTEGER (Value.ref.inj q)) (by decide) (by decide) k) ?_
  show own_Fin p e below s _ _ _ (T2.setTop (mkF m 14 #[.val (.ref s_REAL)] []))
  refine own_step (fun _ k => XS.aloadN X2.here hx rfl (hb hby own_d14_14) rfl rfl k) ?_
  show own_Fin p e below s _ _ _ (T2.setTop (mkF m 15 #[.val (.ref s_REAL)] [(.ref s_REAL)]))
  obtain ⟨T3, X3, e3, st3⟩ := getS2 X2 hx hZ hown (host := "") (Or.inl (own_w hw 18 rfl)) Via.refl e2 S_BIGINT (g := (mkF m 15 #[.val (.ref s_REAL)] [(.ref s_REAL)])) rfl (hb hby own_d14_15)
  refine own_step st3 ?_
  show own_Fin p e below s _ _ _ (T3.setTop (mkF m 18 #[.val (.ref s_REAL)] [(.ref s_BIGINT), (.ref s_REAL)]))
  refine own_step (fun _ k => Jvm.RoadKit.acmp (g := (mkF m 18 #[.val (.ref s_REAL)] [(.ref s_BIGINT), (.ref s_REAL)])) X3 hx rfl rfl rfl (pc0 := 18) (pc' := 25) (same := false) rfl (hb hby own_d14_18) rfl (decide_eq_false fun q => ne_s_REAL_s_BIGINT (Value.ref.inj q)) (by decide) (by decide) k) ?_
  show own_Fin p e below s _ _ _ (T3.setTop (mkF m 25 #[.val (.ref s_REAL)] []))
  refine own_step (fun _ k => XS.iconst X3.here hx rfl (hb hby own_d14_25) k) ?_
  show own_Fin p e below s _ _ _ (T3.setTop (mkF m 26 #[.val (.ref s_REAL)] [(.int (0 : Int32))]))
  exact own_ret X3 hlk (v := some (.int (0 : Int32))) (fun h => by rw [Bd.returns] at h; cases h) (by decide) (by decide) (by show own_Q14 Z s_REAL s_SMALLINT s_INTEGER s_BIGINT h0 n0 _ T3.heap _; rw [e3]; exact ⟨rfl, N0, rfl⟩) (fun fs hr => retN X3 hx (t := .boolean) Bd.returns (by simp) (hb hby own_d14_26) hr)

theorem own_d15_0 : decode prog_61_method_5_code 0 = .ok (.aload_n 0, 1) := by decide +kernel
theorem own_d15_1 : decode prog_61_method_5_code 1 = .ok (.getstatic 3, 3) := by decide +kernel
theorem own_d15_4 : decode prog_61_method_5_code 4 = .ok (.if_acmp .eq 17, 3) := by decide +kernel
theorem own_d15_7 : decode prog_61_method_5_code 7 = .ok (.aload_n 0, 1) := by decide +kernel
theorem own_d15_8 : decode prog_61_method_5_code 8 = .ok (.getstatic 7, 3) := by decide +kernel
theorem own_d15_11 : decode prog_61_method_5_code 11 = .ok (.if_acmp .eq 10, 3) := by decide +kernel
theorem own_d15_14 : decode prog_61_method_5_code 14 = .ok (.aload_n 0, 1) := by decide +kernel
theorem own_d15_15 : decode prog_61_method_5_code 15 = .ok (.getstatic 10, 3) := by decide +kernel
theorem own_d15_18 : decode prog_61_method_5_code 18 = .ok (.if_acmp .ne 7, 3) := by decide +kernel
theorem own_d15_25 : decode prog_61_method_5_code 25 = .ok (.iconst 0, 1) := by decide +kernel
theorem own_d15_26 : decode prog_61_method_5_code 26 = .ok (.ireturn, 1) := by decide +kernel
theorem own_ef15 (m : MethodId) (s_DOUBLE : Addr) : entryFrame m #[(.ref s_DOUBLE)] 1 = mkF m 0 #[.val (.ref s_DOUBLE)] [] := by first | (simp [entryFrame, mkF, argsToLocals, Value.category]; done) | rfl
def own_Q15 (Z : State) (s_DOUBLE : Addr) (s_SMALLINT : Addr) (s_INTEGER : Addr) (s_BIGINT : Addr) (h0 : Heap) (n0 : Nat) (v : Option Value) (h : Heap) (L : List Loc) : Prop := v = some (.int (0 : Int32)) ∧ Fr n0 L ∧ h = h0
set_option maxRecDepth 65536 in
set_option maxHeartbeats 40000000 in
theorem own_rm15 (l : Launch) (Z : State) (a0 : Array Value) (hw : ∀ d ∈ tables_1, d.before a0 Z = true) (ws : List Jvm.Cond) (s_DOUBLE : Addr) (s_SMALLINT : Addr) (s_INTEGER : Addr) (s_BIGINT : Addr) (h0 : Heap) (n0 : Nat) (Z0 : n0 ≤ h0.size) (S_SMALLINT : Sta Z h0 "com/example/taproom/taproom/model/ColumnType" "SMALLINT" "Lcom/example/taproom/taproom/model/ColumnType;" (.ref s_SMALLINT)) (ne_s_DOUBLE_s_SMALLINT : s_DOUBLE ≠ s_SMALLINT) (S_INTEGER : Sta Z h0 "com/example/taproom/taproom/model/ColumnType" "INTEGER" "Lcom/example/taproom/taproom/model/ColumnType;" (.ref s_INTEGER)) (ne_s_DOUBLE_s_INTEGER : s_DOUBLE ≠ s_INTEGER) (S_BIGINT : Sta Z h0 "com/example/taproom/taproom/model/ColumnType" "BIGINT" "Lcom/example/taproom/taproom/model/ColumnType;" (.ref s_BIGINT)) (ne_s_DOUBLE_s_BIGINT : s_DOUBLE ≠ s_BIGINT) :
    MetFree l (⟨"com/example/taproom/taproom/model/ColumnType", "isWhole", "()Z"⟩ : MethodName) (head1 (Jvm.Cond.code (⟨"com/example/taproom/taproom/model/ColumnType", "isWhole", "()Z"⟩ : MethodName) prog_61_method_5_code 1 (some .boolean) :: ws) ({ frames := 0, cells := 0, slots := 0, locals := 0 } : Room)) (fun a U => a = #[(.ref s_DOUBLE)] ∧ Z.Warmed39 U.vm ∧ U.heap = h0) (fun _ _ _ _ _ => True) (fun _ U o U' => ∃ v L, o = .returned v ∧ own_Q15 Z s_DOUBLE s_SMALLINT s_INTEGER s_BIGINT h0 n0 v U'.heap L ∧ FrameEnd U o U' L ({ frames := 0, cells := 0, slots := 0, locals := 0 } : Room).cells ({ frames := 0, cells := 0, slots := 0, locals := 0 } : Room).slots) := by
  refine MetFree.of_bodySF (plainFor_of_name own_pn1) hisR ?_
  intro p e s m args below meth c s₁ Bd hml0 hP hK
  obtain ⟨rfl, hZ, hh⟩ := hP
  have hx := Bd.exec
  have hby := Bd.bytes
  have hlk := Bd.notSynchronized
  have hml : c.maxLocals = 1 := hml0
  have hown : s.vm.findClass "com/example/taproom/taproom/model/ColumnType" = some m.cls := findClass_of_methodNamed Bd.named
  have hnm := (name_of_methodNamed Bd.named Bd.method).1
  have X0 : Stand p l e ({ frames := 0, cells := 0, slots := 0, locals := 0 } : Room) s m #[(.ref s_DOUBLE)] below meth c s₁ [] 0 0 := Stand.of_body Bd
  have e0 : s₁.heap = h0 := by rw [← hh, Bd.state]; rfl
  have N0 := Fr.nil n0
  have KR : Keep h0 h0 [] := Keep.refl _ _
  show own_Fin p e below s ({ frames := 0, cells := 0, slots := 0, locals := 0 } : Room).cells ({ frames := 0, cells := 0, slots := 0, locals := 0 } : Room).slots (own_Q15 Z s_DOUBLE s_SMALLINT s_INTEGER s_BIGINT h0 n0) (s₁.setTop (entryFrame m #[(.ref s_DOUBLE)] 1))
  refine own_cast (own_ef15 m s_DOUBLE) ?_
  refine own_step (fun _ k => XS.aloadN X0.here hx rfl (hb hby own_d15_0) rfl rfl k) ?_
  show own_Fin p e below s _ _ _ (s₁.setTop (mkF m 1 #[.val (.ref s_DOUBLE)] [(.ref s_DOUBLE)]))
  obtain ⟨T1, X1, e1, st1⟩ := getS2 X0 hx hZ hown (host := "") (Or.inl (own_w hw 13 rfl)) Via.refl e0 S_SMALLINT (g := (mkF m 1 #[.val (.ref s_DOUBLE)] [(.ref s_DOUBLE)])) rfl (hb hby own_d15_1)
  refine own_step st1 ?_
  show own_Fin p e below s _ _ _ (T1.setTop (mkF m 4 #[.val (.ref s_DOUBLE)] [(.ref s_SMALLINT), (.ref s_DOUBLE)]))
  refine own_step (fun _ k => Jvm.RoadKit.acmp (g := (mkF m 4 #[.val (.ref s_DOUBLE)] [(.ref s_SMALLINT), (.ref s_DOUBLE)])) X1 hx rfl rfl rfl (pc0 := 4) (pc' := 7) (same := false) rfl (hb hby own_d15_4) rfl (decide_eq_false fun q => ne_s_DOUBLE_s_SMALLINT (Value.ref.inj q)) (by decide) (by decide) k) ?_
  show own_Fin p e below s _ _ _ (T1.setTop (mkF m 7 #[.val (.ref s_DOUBLE)] []))
  refine own_step (fun _ k => XS.aloadN X1.here hx rfl (hb hby own_d15_7) rfl rfl k) ?_
  show own_Fin p e below s _ _ _ (T1.setTop (mkF m 8 #[.val (.ref s_DOUBLE)] [(.ref s_DOUBLE)]))
  obtain ⟨T2, X2, e2, st2⟩ := getS2 X1 hx hZ hown (host := "") (Or.inl (own_w hw 16 rfl)) Via.refl e1 S_INTEGER (g := (mkF m 8 #[.val (.ref s_DOUBLE)] [(.ref s_DOUBLE)])) rfl (hb hby own_d15_8)
  refine own_step st2 ?_
  show own_Fin p e below s _ _ _ (T2.setTop (mkF m 11 #[.val (.ref s_DOUBLE)] [(.ref s_INTEGER), (.ref s_DOUBLE)]))
  refine own_step (fun _ k => Jvm.RoadKit.acmp (g := (mkF m 11 #[.val (.ref s_DOUBLE)] [(.ref s_INTEGER), (.ref s_DOUBLE)])) X2 hx rfl rfl rfl (pc0 := 11) (pc' := 14) (same := false) rfl (hb hby own_d15_11) rfl (decide_eq_false fun q => ne_s_DOUBLE_s_INTEGER (Value.ref.inj q)) (by decide) (by decide) k) ?_
  show own_Fin p e below s _ _ _ (T2.setTop (mkF m 14 #[.val (.ref s_DOUBLE)] []))
  refine own_step (fun _ k => XS.aloadN X2.here hx rfl (hb hby own_d15_14) rfl rfl k) ?_
  show own_Fin p e below s _ _ _ (T2.setTop (mkF m 15 #[.val (.ref s_DOUBLE)] [(.ref s_DOUBLE)]))
  obtain ⟨T3, X3, e3, st3⟩ := getS2 X2 hx hZ hown (host := "") (Or.inl (own_w hw 18 rfl)) Via.refl e2 S_BIGINT (g := (mkF m 15 #[.val (.ref s_DOUBLE)] [(.ref s_DOUBLE)])) rfl (hb hby own_d15_15)
  refine own_step st3 ?_
  show own_Fin p e below s _ _ _ (T3.setTop (mkF m 18 #[.val (.ref s_DOUBLE)] [(.ref s_BIGINT), (.ref s_DOUBLE)]))
  refine own_step (fun _ k => Jvm.RoadKit.acmp (g := (mkF m 18 #[.val (.ref s_DOUBLE)] [(.ref s_BIGINT), (.ref s_DOUBLE)])) X3 hx rfl rfl rfl (pc0 := 18) (pc' := 25) (same := false) rfl (hb hby own_d15_18) rfl (decide_eq_false fun q => ne_s_DOUBLE_s_BIGINT (Value.ref.inj q)) (by decide) (by decide) k) ?_
  show own_Fin p e below s _ _ _ (T3.setTop (mkF m 25 #[.val (.ref s_DOUBLE)] []))
  refine own_step (fun _ k => XS.iconst X3.here hx rfl (hb hby own_d15_25) k) ?_
  show own_Fin p e below s _ _ _ (T3.setTop (mkF m 26 #[.val (.ref s_DOUBLE)] [(.int (0 : Int32))]))
  exact own_ret X3 hlk (v := some (.int (0 : Int32))) (fun h => by rw [Bd.returns] at h; cases h) (by decide) (by decide) (by show own_Q15 Z s_DOUBLE s_SMALLINT s_INTEGER s_BIGINT h0 n0 _ T3.heap _; rw [e3]; exact ⟨rfl, N0, rfl⟩) (fun fs hr => retN X3 hx (t := .boolean) Bd.returns (by simp) (hb hby own_d15_26) hr)

theorem own_d16_0 : decode prog_61_method_5_code 0 = .ok (.aload_n 0, 1) := by decide +kernel
theorem own_d16_1 : decode prog_61_method_5_code 1 = .ok (.getstatic 3, 3) := by decide +kernel
theorem own_d16_4 : decode prog_61_method_5_code 4 = .ok (.if_acmp .eq 17, 3) := by decide +kernel
theorem own_d16_7 : decode prog_61_method_5_code 7 = .ok (.aload_n 0, 1) := by decide +kernel
theorem own_d16_8 : decode prog_61_method_5_code 8 = .ok (.getstatic 7, 3) := by decide +kernel
theorem own_d16_11 : decode prog_61_method_5_code 11 = .ok (.if_acmp .eq 10, 3) := by decide +kernel
theorem own_d16_14 : decode prog_61_method_5_code 14 = .ok (.aload_n 0, 1) := by decide +kernel
theorem own_d16_15 : decode prog_61_method_5_code 15 = .ok (.getstatic 10, 3) := by decide +kernel
theorem own_d16_18 : decode prog_61_method_5_code 18 = .ok (.if_acmp .ne 7, 3) := by decide +kernel
theorem own_d16_25 : decode prog_61_method_5_code 25 = .ok (.iconst 0, 1) := by decide +kernel
theorem own_d16_26 : decode prog_61_method_5_code 26 = .ok (.ireturn, 1) := by decide +kernel
theorem own_ef16 (m : MethodId) (s_CHAR : Addr) : entryFrame m #[(.ref s_CHAR)] 1 = mkF m 0 #[.val (.ref s_CHAR)] [] := by first | (simp [entryFrame, mkF, argsToLocals, Value.category]; done) | rfl
def own_Q16 (Z : State) (s_CHAR : Addr) (s_SMALLINT : Addr) (s_INTEGER : Addr) (s_BIGINT : Addr) (h0 : Heap) (n0 : Nat) (v : Option Value) (h : Heap) (L : List Loc) : Prop := v = some (.int (0 : Int32)) ∧ Fr n0 L ∧ h = h0
set_option maxRecDepth 65536 in
set_option maxHeartbeats 40000000 in
theorem own_rm16 (l : Launch) (Z : State) (a0 : Array Value) (hw : ∀ d ∈ tables_1, d.before a0 Z = true) (ws : List Jvm.Cond) (s_CHAR : Addr) (s_SMALLINT : Addr) (s_INTEGER : Addr) (s_BIGINT : Addr) (h0 : Heap) (n0 : Nat) (Z0 : n0 ≤ h0.size) (S_SMALLINT : Sta Z h0 "com/example/taproom/taproom/model/ColumnType" "SMALLINT" "Lcom/example/taproom/taproom/model/ColumnType;" (.ref s_SMALLINT)) (ne_s_CHAR_s_SMALLINT : s_CHAR ≠ s_SMALLINT) (S_INTEGER : Sta Z h0 "com/example/taproom/taproom/model/ColumnType" "INTEGER" "Lcom/example/taproom/taproom/model/ColumnType;" (.ref s_INTEGER)) (ne_s_CHAR_s_INTEGER : s_CHAR ≠ s_INTEGER) (S_BIGINT : Sta Z h0 "com/example/taproom/taproom/model/ColumnType" "BIGINT" "Lcom/example/taproom/taproom/model/ColumnType;" (.ref s_BIGINT)) (ne_s_CHAR_s_BIGINT : s_CHAR ≠ s_BIGINT) :
    MetFree l (⟨"com/example/taproom/taproom/model/ColumnType", "isWhole", "()Z"⟩ : MethodName) (head1 (Jvm.Cond.code (⟨"com/example/taproom/taproom/model/ColumnType", "isWhole", "()Z"⟩ : MethodName) prog_61_method_5_code 1 (some .boolean) :: ws) ({ frames := 0, cells := 0, slots := 0, locals := 0 } : Room)) (fun a U => a = #[(.ref s_CHAR)] ∧ Z.Warmed39 U.vm ∧ U.heap = h0) (fun _ _ _ _ _ => True) (fun _ U o U' => ∃ v L, o = .returned v ∧ own_Q16 Z s_CHAR s_SMALLINT s_INTEGER s_BIGINT h0 n0 v U'.heap L ∧ FrameEnd U o U' L ({ frames := 0, cells := 0, slots := 0, locals := 0 } : Room).cells ({ frames := 0, cells := 0, slots := 0, locals := 0 } : Room).slots) := by
  refine MetFree.of_bodySF (plainFor_of_name own_pn1) hisR ?_
  intro p e s m args below meth c s₁ Bd hml0 hP hK
  obtain ⟨rfl, hZ, hh⟩ := hP
  have hx := Bd.exec
  have hby := Bd.bytes
  have hlk := Bd.notSynchronized
  have hml : c.maxLocals = 1 := hml0
  have hown : s.vm.findClass "com/example/taproom/taproom/model/ColumnType" = some m.cls := findClass_of_methodNamed Bd.named
  have hnm := (name_of_methodNamed Bd.named Bd.method).1
  have X0 : Stand p l e ({ frames := 0, cells := 0, slots := 0, locals := 0 } : Room) s m #[(.ref s_CHAR)] below meth c s₁ [] 0 0 := Stand.of_body Bd
  have e0 : s₁.heap = h0 := by rw [← hh, Bd.state]; rfl
  have N0 := Fr.nil n0
  have KR : Keep h0 h0 [] := Keep.refl _ _
  show own_Fin p e below s ({ frames := 0, cells := 0, slots := 0, locals := 0 } : Room).cells ({ frames := 0, cells := 0, slots := 0, locals := 0 } : Room).slots (own_Q16 Z s_CHAR s_SMALLINT s_INTEGER s_BIGINT h0 n0) (s₁.setTop (entryFrame m #[(.ref s_CHAR)] 1))
  refine own_cast (own_ef16 m s_CHAR) ?_
  refine own_step (fun _ k => XS.aloadN X0.here hx rfl (hb hby own_d16_0) rfl rfl k) ?_
  show own_Fin p e below s _ _ _ (s₁.setTop (mkF m 1 #[.val (.ref s_CHAR)] [(.ref s_CHAR)]))
  obtain ⟨T1, X1, e1, st1⟩ := getS2 X0 hx hZ hown (host := "") (Or.inl (own_w hw 13 rfl)) Via.refl e0 S_SMALLINT (g := (mkF m 1 #[.val (.ref s_CHAR)] [(.ref s_CHAR)])) rfl (hb hby own_d16_1)
  refine own_step st1 ?_
  show own_Fin p e below s _ _ _ (T1.setTop (mkF m 4 #[.val (.ref s_CHAR)] [(.ref s_SMALLINT), (.ref s_CHAR)]))
  refine own_step (fun _ k => Jvm.RoadKit.acmp (g := (mkF m 4 #[.val (.ref s_CHAR)] [(.ref s_SMALLINT), (.ref s_CHAR)])) X1 hx rfl rfl rfl (pc0 := 4) (pc' := 7) (same := false) rfl (hb hby own_d16_4) rfl (decide_eq_false fun q => ne_s_CHAR_s_SMALLINT (Value.ref.inj q)) (by decide) (by decide) k) ?_
  show own_Fin p e below s _ _ _ (T1.setTop (mkF m 7 #[.val (.ref s_CHAR)] []))
  refine own_step (fun _ k => XS.aloadN X1.here hx rfl (hb hby own_d16_7) rfl rfl k) ?_
  show own_Fin p e below s _ _ _ (T1.setTop (mkF m 8 #[.val (.ref s_CHAR)] [(.ref s_CHAR)]))
  obtain ⟨T2, X2, e2, st2⟩ := getS2 X1 hx hZ hown (host := "") (Or.inl (own_w hw 16 rfl)) Via.refl e1 S_INTEGER (g := (mkF m 8 #[.val (.ref s_CHAR)] [(.ref s_CHAR)])) rfl (hb hby own_d16_8)
  refine own_step st2 ?_
  show own_Fin p e below s _ _ _ (T2.setTop (mkF m 11 #[.val (.ref s_CHAR)] [(.ref s_INTEGER), (.ref s_CHAR)]))
  refine own_step (fun _ k => Jvm.RoadKit.acmp (g := (mkF m 11 #[.val (.ref s_CHAR)] [(.ref s_INTEGER), (.ref s_CHAR)])) X2 hx rfl rfl rfl (pc0 := 11) (pc' := 14) (same := false) rfl (hb hby own_d16_11) rfl (decide_eq_false fun q => ne_s_CHAR_s_INTEGER (Value.ref.inj q)) (by decide) (by decide) k) ?_
  show own_Fin p e below s _ _ _ (T2.setTop (mkF m 14 #[.val (.ref s_CHAR)] []))
  refine own_step (fun _ k => XS.aloadN X2.here hx rfl (hb hby own_d16_14) rfl rfl k) ?_
  show own_Fin p e below s _ _ _ (T2.setTop (mkF m 15 #[.val (.ref s_CHAR)] [(.ref s_CHAR)]))
  obtain ⟨T3, X3, e3, st3⟩ := getS2 X2 hx hZ hown (host := "") (Or.inl (own_w hw 18 rfl)) Via.refl e2 S_BIGINT (g := (mkF m 15 #[.val (.ref s_CHAR)] [(.ref s_CHAR)])) rfl (hb hby own_d16_15)
  refine own_step st3 ?_
  show own_Fin p e below s _ _ _ (T3.setTop (mkF m 18 #[.val (.ref s_CHAR)] [(.ref s_BIGINT), (.ref s_CHAR)]))
  refine own_step (fun _ k => Jvm.RoadKit.acmp (g := (mkF m 18 #[.val (.ref s_CHAR)] [(.ref s_BIGINT), (.ref s_CHAR)])) X3 hx rfl rfl rfl (pc0 := 18) (pc' := 25) (same := false) rfl (hb hby own_d16_18) rfl (decide_eq_false fun q => ne_s_CHAR_s_BIGINT (Value.ref.inj q)) (by decide) (by decide) k) ?_
  show own_Fin p e below s _ _ _ (T3.setTop (mkF m 25 #[.val (.ref s_CHAR)] []))
  refine own_step (fun _ k => XS.iconst X3.here hx rfl (hb hby own_d16_25) k) ?_
  show own_Fin p e below s _ _ _ (T3.setTop (mkF m 26 #[.val (.ref s_CHAR)] [(.int (0 : Int32))]))
  exact own_ret X3 hlk (v := some (.int (0 : Int32))) (fun h => by rw [Bd.returns] at h; cases h) (by decide) (by decide) (by show own_Q16 Z s_CHAR s_SMALLINT s_INTEGER s_BIGINT h0 n0 _ T3.heap _; rw [e3]; exact ⟨rfl, N0, rfl⟩) (fun fs hr => retN X3 hx (t := .boolean) Bd.returns (by simp) (hb hby own_d16_26) hr)

theorem own_d17_0 : decode prog_61_method_5_code 0 = .ok (.aload_n 0, 1) := by decide +kernel
theorem own_d17_1 : decode prog_61_method_5_code 1 = .ok (.getstatic 3, 3) := by decide +kernel
theorem own_d17_4 : decode prog_61_method_5_code 4 = .ok (.if_acmp .eq 17, 3) := by decide +kernel
theorem own_d17_7 : decode prog_61_method_5_code 7 = .ok (.aload_n 0, 1) := by decide +kernel
theorem own_d17_8 : decode prog_61_method_5_code 8 = .ok (.getstatic 7, 3) := by decide +kernel
theorem own_d17_11 : decode prog_61_method_5_code 11 = .ok (.if_acmp .eq 10, 3) := by decide +kernel
theorem own_d17_14 : decode prog_61_method_5_code 14 = .ok (.aload_n 0, 1) := by decide +kernel
theorem own_d17_15 : decode prog_61_method_5_code 15 = .ok (.getstatic 10, 3) := by decide +kernel
theorem own_d17_18 : decode prog_61_method_5_code 18 = .ok (.if_acmp .ne 7, 3) := by decide +kernel
theorem own_d17_25 : decode prog_61_method_5_code 25 = .ok (.iconst 0, 1) := by decide +kernel
theorem own_d17_26 : decode prog_61_method_5_code 26 = .ok (.ireturn, 1) := by decide +kernel
theorem own_ef17 (m : MethodId) (s_VARCHAR : Addr) : entryFrame m #[(.ref s_VARCHAR)] 1 = mkF m 0 #[.val (.ref s_VARCHAR)] [] := by first | (simp [entryFrame, mkF, argsToLocals, Value.category]; done) | rfl
def own_Q17 (Z : State) (s_VARCHAR : Addr) (s_SMALLINT : Addr) (s_INTEGER : Addr) (s_BIGINT : Addr) (h0 : Heap) (n0 : Nat) (v : Option Value) (h : Heap) (L : List Loc) : Prop := v = some (.int (0 : Int32)) ∧ Fr n0 L ∧ h = h0
set_option maxRecDepth 65536 in
set_option maxHeartbeats 40000000 in
theorem own_rm17 (l : Launch) (Z : State) (a0 : Array Value) (hw : ∀ d ∈ tables_1, d.before a0 Z = true) (ws : List Jvm.Cond) (s_VARCHAR : Addr) (s_SMALLINT : Addr) (s_INTEGER : Addr) (s_BIGINT : Addr) (h0 : Heap) (n0 : Nat) (Z0 : n0 ≤ h0.size) (S_SMALLINT : Sta Z h0 "com/example/taproom/taproom/model/ColumnType" "SMALLINT" "Lcom/example/taproom/taproom/model/ColumnType;" (.ref s_SMALLINT)) (ne_s_VARCHAR_s_SMALLINT : s_VARCHAR ≠ s_SMALLINT) (S_INTEGER : Sta Z h0 "com/example/taproom/taproom/model/ColumnType" "INTEGER" "Lcom/example/taproom/taproom/model/ColumnType;" (.ref s_INTEGER)) (ne_s_VARCHAR_s_INTEGER : s_VARCHAR ≠ s_INTEGER) (S_BIGINT : Sta Z h0 "com/example/taproom/taproom/model/ColumnType" "BIGINT" "Lcom/example/taproom/taproom/model/ColumnType;" (.ref s_BIGINT)) (ne_s_VARCHAR_s_BIGINT : s_VARCHAR ≠ s_BIGINT) :
    MetFree l (⟨"com/example/taproom/taproom/model/ColumnType", "isWhole", "()Z"⟩ : MethodName) (head1 (Jvm.Cond.code (⟨"com/example/taproom/taproom/model/ColumnType", "isWhole", "()Z"⟩ : MethodName) prog_61_method_5_code 1 (some .boolean) :: ws) ({ frames := 0, cells := 0, slots := 0, locals := 0 } : Room)) (fun a U => a = #[(.ref s_VARCHAR)] ∧ Z.Warmed39 U.vm ∧ U.heap = h0) (fun _ _ _ _ _ => True) (fun _ U o U' => ∃ v L, o = .returned v ∧ own_Q17 Z s_VARCHAR s_SMALLINT s_INTEGER s_BIGINT h0 n0 v U'.heap L ∧ FrameEnd U o U' L ({ frames := 0, cells := 0, slots := 0, locals := 0 } : Room).cells ({ frames := 0, cells := 0, slots := 0, locals := 0 } : Room).slots) := by
  refine MetFree.of_bodySF (plainFor_of_name own_pn1) hisR ?_
  intro p e s m args below meth c s₁ Bd hml0 hP hK
  obtain ⟨rfl, hZ, hh⟩ := hP
  have hx := Bd.exec
  have hby := Bd.bytes
  have hlk := Bd.notSynchronized
  have hml : c.maxLocals = 1 := hml0
  have hown : s.vm.findClass "com/example/taproom/taproom/model/ColumnType" = some m.cls := findClass_of_methodNamed Bd.named
  have hnm := (name_of_methodNamed Bd.named Bd.method).1
  have X0 : Stand p l e ({ frames := 0, cells := 0, slots := 0, locals := 0 } : Room) s m #[(.ref s_VARCHAR)] below meth c s₁ [] 0 0 := Stand.of_body Bd
  have e0 : s₁.heap = h0 := by rw [← hh, Bd.state]; rfl
  have N0 := Fr.nil n0
  have KR : Keep h0 h0 [] := Keep.refl _ _
  show own_Fin p e below s ({ frames := 0, cells := 0, slots := 0, locals := 0 } : Room).cells ({ frames := 0, cells := 0, slots := 0, locals := 0 } : Room).slots (own_Q17 Z s_VARCHAR s_SMALLINT s_INTEGER s_BIGINT h0 n0) (s₁.setTop (entryFrame m #[(.ref s_VARCHAR)] 1))
  refine own_cast (own_ef17 m s_VARCHAR) ?_
  refine own_step (fun _ k => XS.aloadN X0.here hx rfl (hb hby own_d17_0) rfl rfl k) ?_
  show own_Fin p e below s _ _ _ (s₁.setTop (mkF m 1 #[.val (.ref s_VARCHAR)] [(.ref s_VARCHAR)]))
  obtain ⟨T1, X1, e1, st1⟩ := getS2 X0 hx hZ hown (host := "") (Or.inl (own_w hw 13 rfl)) Via.refl e0 S_SMALLINT (g := (mkF m 1 #[.val (.ref s_VARCHAR)] [(.ref s_VARCHAR)])) rfl (hb hby own_d17_1)
  refine own_step st1 ?_
  show own_Fin p e below s _ _ _ (T1.setTop (mkF m 4 #[.val (.ref s_VARCHAR)] [(.ref s_SMALLINT), (.ref s_VARCHAR)]))
  refine own_step (fun _ k => Jvm.RoadKit.acmp (g := (mkF m 4 #[.val (.ref s_VARCHAR)] [(.ref s_SMALLINT), (.ref s_VARCHAR)])) X1 hx rfl rfl rfl (pc0 := 4) (pc' := 7) (same := false) rfl (hb hby own_d17_4) rfl (decide_eq_false fun q => ne_s_VARCHAR_s_SMALLINT (Value.ref.inj q)) (by decide) (by decide) k) ?_
  show own_Fin p e below s _ _ _ (T1.setTop (mkF m 7 #[.val (.ref s_VARCHAR)] []))
  refine own_step (fun _ k => XS.aloadN X1.here hx rfl (hb hby own_d17_7) rfl rfl k) ?_
  show own_Fin p e below s _ _ _ (T1.setTop (mkF m 8 #[.val (.ref s_VARCHAR)] [(.ref s_VARCHAR)]))
  obtain ⟨T2, X2, e2, st2⟩ := getS2 X1 hx hZ hown (host := "") (Or.inl (own_w hw 16 rfl)) Via.refl e1 S_INTEGER (g := (mkF m 8 #[.val (.ref s_VARCHAR)] [(.ref s_VARCHAR)])) rfl (hb hby own_d17_8)
  refine own_step st2 ?_
  show own_Fin p e below s _ _ _ (T2.setTop (mkF m 11 #[.val (.ref s_VARCHAR)] [(.ref s_INTEGER), (.ref s_VARCHAR)]))
  refine own_step (fun _ k => Jvm.RoadKit.acmp (g := (mkF m 11 #[.val (.ref s_VARCHAR)] [(.ref s_INTEGER), (.ref s_VARCHAR)])) X2 hx rfl rfl rfl (pc0 := 11) (pc' := 14) (same := false) rfl (hb hby own_d17_11) rfl (decide_eq_false fun q => ne_s_VARCHAR_s_INTEGER (Value.ref.inj q)) (by decide) (by decide) k) ?_
  show own_Fin p e below s _ _ _ (T2.setTop (mkF m 14 #[.val (.ref s_VARCHAR)] []))
  refine own_step (fun _ k => XS.aloadN X2.here hx rfl (hb hby own_d17_14) rfl rfl k) ?_
  show own_Fin p e below s _ _ _ (T2.setTop (mkF m 15 #[.val (.ref s_VARCHAR)] [(.ref s_VARCHAR)]))
  obtain ⟨T3, X3, e3, st3⟩ := getS2 X2 hx hZ hown (host := "") (Or.inl (own_w hw 18 rfl)) Via.refl e2 S_BIGINT (g := (mkF m 15 #[.val (.ref s_VARCHAR)] [(.ref s_VARCHAR)])) rfl (hb hby own_d17_15)
  refine own_step st3 ?_
  show own_Fin p e below s _ _ _ (T3.setTop (mkF m 18 #[.val (.ref s_VARCHAR)] [(.ref s_BIGINT), (.ref s_VARCHAR)]))
  refine own_step (fun _ k => Jvm.RoadKit.acmp (g := (mkF m 18 #[.val (.ref s_VARCHAR)] [(.ref s_BIGINT), (.ref s_VARCHAR)])) X3 hx rfl rfl rfl (pc0 := 18) (pc' := 25) (same := false) rfl (hb hby own_d17_18) rfl (decide_eq_false fun q => ne_s_VARCHAR_s_BIGINT (Value.ref.inj q)) (by decide) (by decide) k) ?_
  show own_Fin p e below s _ _ _ (T3.setTop (mkF m 25 #[.val (.ref s_VARCHAR)] []))
  refine own_step (fun _ k => XS.iconst X3.here hx rfl (hb hby own_d17_25) k) ?_
  show own_Fin p e below s _ _ _ (T3.setTop (mkF m 26 #[.val (.ref s_VARCHAR)] [(.int (0 : Int32))]))
  exact own_ret X3 hlk (v := some (.int (0 : Int32))) (fun h => by rw [Bd.returns] at h; cases h) (by decide) (by decide) (by show own_Q17 Z s_VARCHAR s_SMALLINT s_INTEGER s_BIGINT h0 n0 _ T3.heap _; rw [e3]; exact ⟨rfl, N0, rfl⟩) (fun fs hr => retN X3 hx (t := .boolean) Bd.returns (by simp) (hb hby own_d17_26) hr)

theorem own_d18_0 : decode prog_61_method_5_code 0 = .ok (.aload_n 0, 1) := by decide +kernel
theorem own_d18_1 : decode prog_61_method_5_code 1 = .ok (.getstatic 3, 3) := by decide +kernel
theorem own_d18_4 : decode prog_61_method_5_code 4 = .ok (.if_acmp .eq 17, 3) := by decide +kernel
theorem own_d18_7 : decode prog_61_method_5_code 7 = .ok (.aload_n 0, 1) := by decide +kernel
theorem own_d18_8 : decode prog_61_method_5_code 8 = .ok (.getstatic 7, 3) := by decide +kernel
theorem own_d18_11 : decode prog_61_method_5_code 11 = .ok (.if_acmp .eq 10, 3) := by decide +kernel
theorem own_d18_14 : decode prog_61_method_5_code 14 = .ok (.aload_n 0, 1) := by decide +kernel
theorem own_d18_15 : decode prog_61_method_5_code 15 = .ok (.getstatic 10, 3) := by decide +kernel
theorem own_d18_18 : decode prog_61_method_5_code 18 = .ok (.if_acmp .ne 7, 3) := by decide +kernel
theorem own_d18_25 : decode prog_61_method_5_code 25 = .ok (.iconst 0, 1) := by decide +kernel
theorem own_d18_26 : decode prog_61_method_5_code 26 = .ok (.ireturn, 1) := by decide +kernel
theorem own_ef18 (m : MethodId) (s_TIMESTAMP : Addr) : entryFrame m #[(.ref s_TIMESTAMP)] 1 = mkF m 0 #[.val (.ref s_TIMESTAMP)] [] := by first | (simp [entryFrame, mkF, argsToLocals, Value.category]; done) | rfl
def own_Q18 (Z : State) (s_TIMESTAMP : Addr) (s_SMALLINT : Addr) (s_INTEGER : Addr) (s_BIGINT : Addr) (h0 : Heap) (n0 : Nat) (v : Option Value) (h : Heap) (L : List Loc) : Prop := v = some (.int (0 : Int32)) ∧ Fr n0 L ∧ h = h0
set_option maxRecDepth 65536 in
set_option maxHeartbeats 40000000 in
theorem own_rm18 (l : Launch) (Z : State) (a0 : Array Value) (hw : ∀ d ∈ tables_1, d.before a0 Z = true) (ws : List Jvm.Cond) (s_TIMESTAMP : Addr) (s_SMALLINT : Addr) (s_INTEGER : Addr) (s_BIGINT : Addr) (h0 : Heap) (n0 : Nat) (Z0 : n0 ≤ h0.size) (S_SMALLINT : Sta Z h0 "com/example/taproom/taproom/model/ColumnType" "SMALLINT" "Lcom/example/taproom/taproom/model/ColumnType;" (.ref s_SMALLINT)) (ne_s_TIMESTAMP_s_SMALLINT : s_TIMESTAMP ≠ s_SMALLINT) (S_INTEGER : Sta Z h0 "com/example/taproom/taproom/model/ColumnType" "INTEGER" "Lcom/example/taproom/taproom/model/ColumnType;" (.ref s_INTEGER)) (ne_s_TIMESTAMP_s_INTEGER : s_TIMESTAMP ≠ s_INTEGER) (S_BIGINT : Sta Z h0 "com/example/taproom/taproom/model/ColumnType" "BIGINT" "Lcom/example/taproom/taproom/model/ColumnType;" (.ref s_BIGINT)) (ne_s_TIMESTAMP_s_BIGINT : s_TIMESTAMP ≠ s_BIGINT) :
    MetFree l (⟨"com/example/taproom/taproom/model/ColumnType", "isWhole", "()Z"⟩ : MethodName) (head1 (Jvm.Cond.code (⟨"com/example/taproom/taproom/model/ColumnType", "isWhole", "()Z"⟩ : MethodName) prog_61_method_5_code 1 (some .boolean) :: ws) ({ frames := 0, cells := 0, slots := 0, locals := 0 } : Room)) (fun a U => a = #[(.ref s_TIMESTAMP)] ∧ Z.Warmed39 U.vm ∧ U.heap = h0) (fun _ _ _ _ _ => True) (fun _ U o U' => ∃ v L, o = .returned v ∧ own_Q18 Z s_TIMESTAMP s_SMALLINT s_INTEGER s_BIGINT h0 n0 v U'.heap L ∧ FrameEnd U o U' L ({ frames := 0, cells := 0, slots := 0, locals := 0 } : Room).cells ({ frames := 0, cells := 0, slots := 0, locals := 0 } : Room).slots) := by
  refine MetFree.of_bodySF (plainFor_of_name own_pn1) hisR ?_
  intro p e s m args below meth c s₁ Bd hml0 hP hK
  obtain ⟨rfl, hZ, hh⟩ := hP
  have hx := Bd.exec
  have hby := Bd.bytes
  have hlk := Bd.notSynchronized
  have hml : c.maxLocals = 1 := hml0
  have hown : s.vm.findClass "com/example/taproom/taproom/model/ColumnType" = some m.cls := findClass_of_methodNamed Bd.named
  have hnm := (name_of_methodNamed Bd.named Bd.method).1
  have X0 : Stand p l e ({ frames := 0, cells := 0, slots := 0, locals := 0 } : Room) s m #[(.ref s_TIMESTAMP)] below meth c s₁ [] 0 0 := Stand.of_body Bd
  have e0 : s₁.heap = h0 := by rw [← hh, Bd.state]; rfl
  have N0 := Fr.nil n0
  have KR : Keep h0 h0 [] := Keep.refl _ _
  show own_Fin p e below s ({ frames := 0, cells := 0, slots := 0, locals := 0 } : Room).cells ({ frames := 0, cells := 0, slots := 0, locals := 0 } : Room).slots (own_Q18 Z s_TIMESTAMP s_SMALLINT s_INTEGER s_BIGINT h0 n0) (s₁.setTop (entryFrame m #[(.ref s_TIMESTAMP)] 1))
  refine own_cast (own_ef18 m s_TIMESTAMP) ?_
  refine own_step (fun _ k => XS.aloadN X0.here hx rfl (hb hby own_d18_0) rfl rfl k) ?_
  show own_Fin p e below s _ _ _ (s₁.setTop (mkF m 1 #[.val (.ref s_TIMESTAMP)] [(.ref s_TIMESTAMP)]))
  obtain ⟨T1, X1, e1, st1⟩ := getS2 X0 hx hZ hown (host := "") (Or.inl (own_w hw 13 rfl)) Via.refl e0 S_SMALLINT (g := (mkF m 1 #[.val (.ref s_TIMESTAMP)] [(.ref s_TIMESTAMP)])) rfl (hb hby own_d18_1)
  refine own_step st1 ?_
  show own_Fin p e below s _ _ _ (T1.setTop (mkF m 4 #[.val (.ref s_TIMESTAMP)] [(.ref s_SMALLINT), (.ref s_TIMESTAMP)]))
  refine own_step (fun _ k => Jvm.RoadKit.acmp (g := (mkF m 4 #[.val (.ref s_TIMESTAMP)] [(.ref s_SMALLINT), (.ref s_TIMESTAMP)])) X1 hx rfl rfl rfl (pc0 := 4) (pc' := 7) (same := false) rfl (hb hby own_d18_4) rfl (decide_eq_false fun q => ne_s_TIMESTAMP_s_SMALLINT (Value.ref.inj q)) (by decide) (by decide) k) ?_
  show own_Fin p e below s _ _ _ (T1.setTop (mkF m 7 #[.val (.ref s_TIMESTAMP)] []))
  refine own_step (fun _ k => XS.aloadN X1.here hx rfl (hb hby own_d18_7) rfl rfl k) ?_
  show own_Fin p e below s _ _ _ (T1.setTop (mkF m 8 #[.val (.ref s_TIMESTAMP)] [(.ref s_TIMESTAMP)]))
  obtain ⟨T2, X2, e2, st2⟩ := getS2 X1 hx hZ hown (host := "") (Or.inl (own_w hw 16 rfl)) Via.refl e1 S_INTEGER (g := (mkF m 8 #[.val (.ref s_TIMESTAMP)] [(.ref s_TIMESTAMP)])) rfl (hb hby own_d18_8)
  refine own_step st2 ?_
  show own_Fin p e below s _ _ _ (T2.setTop (mkF m 11 #[.val (.ref s_TIMESTAMP)] [(.ref s_INTEGER), (.ref s_TIMESTAMP)]))
  refine own_step (fun _ k => Jvm.RoadKit.acmp (g := (mkF m 11 #[.val (.ref s_TIMESTAMP)] [(.ref s_INTEGER), (.ref s_TIMESTAMP)])) X2 hx rfl rfl rfl (pc0 := 11) (pc' := 14) (same := false) rfl (hb hby own_d18_11) rfl (decide_eq_false fun q => ne_s_TIMESTAMP_s_INTEGER (Value.ref.inj q)) (by decide) (by decide) k) ?_
  show own_Fin p e below s _ _ _ (T2.setTop (mkF m 14 #[.val (.ref s_TIMESTAMP)] []))
  refine own_step (fun _ k => XS.aloadN X2.here hx rfl (hb hby own_d18_14) rfl rfl k) ?_
  show own_Fin p e below s _ _ _ (T2.setTop (mkF m 15 #[.val (.ref s_TIMESTAMP)] [(.ref s_TIMESTAMP)]))
  obtain ⟨T3, X3, e3, st3⟩ := getS2 X2 hx hZ hown (host := "") (Or.inl (own_w hw 18 rfl)) Via.refl e2 S_BIGINT (g := (mkF m 15 #[.val (.ref s_TIMESTAMP)] [(.ref s_TIMESTAMP)])) rfl (hb hby own_d18_15)
  refine own_step st3 ?_
  show own_Fin p e below s _ _ _ (T3.setTop (mkF m 18 #[.val (.ref s_TIMESTAMP)] [(.ref s_BIGINT), (.ref s_TIMESTAMP)]))
  refine own_step (fun _ k => Jvm.RoadKit.acmp (g := (mkF m 18 #[.val (.ref s_TIMESTAMP)] [(.ref s_BIGINT), (.ref s_TIMESTAMP)])) X3 hx rfl rfl rfl (pc0 := 18) (pc' := 25) (same := false) rfl (hb hby own_d18_18) rfl (decide_eq_false fun q => ne_s_TIMESTAMP_s_BIGINT (Value.ref.inj q)) (by decide) (by decide) k) ?_
  show own_Fin p e below s _ _ _ (T3.setTop (mkF m 25 #[.val (.ref s_TIMESTAMP)] []))
  refine own_step (fun _ k => XS.iconst X3.here hx rfl (hb hby own_d18_25) k) ?_
  show own_Fin p e below s _ _ _ (T3.setTop (mkF m 26 #[.val (.ref s_TIMESTAMP)] [(.int (0 : Int32))]))
  exact own_ret X3 hlk (v := some (.int (0 : Int32))) (fun h => by rw [Bd.returns] at h; cases h) (by decide) (by decide) (by show own_Q18 Z s_TIMESTAMP s_SMALLINT s_INTEGER s_BIGINT h0 n0 _ T3.heap _; rw [e3]; exact ⟨rfl, N0, rfl⟩) (fun fs hr => retN X3 hx (t := .boolean) Bd.returns (by simp) (hb hby own_d18_26) hr)

theorem own_d19_0 : decode prog_61_method_5_code 0 = .ok (.aload_n 0, 1) := by decide +kernel
theorem own_d19_1 : decode prog_61_method_5_code 1 = .ok (.getstatic 3, 3) := by decide +kernel
theorem own_d19_4 : decode prog_61_method_5_code 4 = .ok (.if_acmp .eq 17, 3) := by decide +kernel
theorem own_d19_7 : decode prog_61_method_5_code 7 = .ok (.aload_n 0, 1) := by decide +kernel
theorem own_d19_8 : decode prog_61_method_5_code 8 = .ok (.getstatic 7, 3) := by decide +kernel
theorem own_d19_11 : decode prog_61_method_5_code 11 = .ok (.if_acmp .eq 10, 3) := by decide +kernel
theorem own_d19_14 : decode prog_61_method_5_code 14 = .ok (.aload_n 0, 1) := by decide +kernel
theorem own_d19_15 : decode prog_61_method_5_code 15 = .ok (.getstatic 10, 3) := by decide +kernel
theorem own_d19_18 : decode prog_61_method_5_code 18 = .ok (.if_acmp .ne 7, 3) := by decide +kernel
theorem own_d19_25 : decode prog_61_method_5_code 25 = .ok (.iconst 0, 1) := by decide +kernel
theorem own_d19_26 : decode prog_61_method_5_code 26 = .ok (.ireturn, 1) := by decide +kernel
theorem own_ef19 (m : MethodId) (s_POINT : Addr) : entryFrame m #[(.ref s_POINT)] 1 = mkF m 0 #[.val (.ref s_POINT)] [] := by first | (simp [entryFrame, mkF, argsToLocals, Value.category]; done) | rfl
def own_Q19 (Z : State) (s_POINT : Addr) (s_SMALLINT : Addr) (s_INTEGER : Addr) (s_BIGINT : Addr) (h0 : Heap) (n0 : Nat) (v : Option Value) (h : Heap) (L : List Loc) : Prop := v = some (.int (0 : Int32)) ∧ Fr n0 L ∧ h = h0
set_option maxRecDepth 65536 in
set_option maxHeartbeats 40000000 in
theorem own_rm19 (l : Launch) (Z : State) (a0 : Array Value) (hw : ∀ d ∈ tables_1, d.before a0 Z = true) (ws : List Jvm.Cond) (s_POINT : Addr) (s_SMALLINT : Addr) (s_INTEGER : Addr) (s_BIGINT : Addr) (h0 : Heap) (n0 : Nat) (Z0 : n0 ≤ h0.size) (S_SMALLINT : Sta Z h0 "com/example/taproom/taproom/model/ColumnType" "SMALLINT" "Lcom/example/taproom/taproom/model/ColumnType;" (.ref s_SMALLINT)) (ne_s_POINT_s_SMALLINT : s_POINT ≠ s_SMALLINT) (S_INTEGER : Sta Z h0 "com/example/taproom/taproom/model/ColumnType" "INTEGER" "Lcom/example/taproom/taproom/model/ColumnType;" (.ref s_INTEGER)) (ne_s_POINT_s_INTEGER : s_POINT ≠ s_INTEGER) (S_BIGINT : Sta Z h0 "com/example/taproom/taproom/model/ColumnType" "BIGINT" "Lcom/example/taproom/taproom/model/ColumnType;" (.ref s_BIGINT)) (ne_s_POINT_s_BIGINT : s_POINT ≠ s_BIGINT) :
    MetFree l (⟨"com/example/taproom/taproom/model/ColumnType", "isWhole", "()Z"⟩ : MethodName) (head1 (Jvm.Cond.code (⟨"com/example/taproom/taproom/model/ColumnType", "isWhole", "()Z"⟩ : MethodName) prog_61_method_5_code 1 (some .boolean) :: ws) ({ frames := 0, cells := 0, slots := 0, locals := 0 } : Room)) (fun a U => a = #[(.ref s_POINT)] ∧ Z.Warmed39 U.vm ∧ U.heap = h0) (fun _ _ _ _ _ => True) (fun _ U o U' => ∃ v L, o = .returned v ∧ own_Q19 Z s_POINT s_SMALLINT s_INTEGER s_BIGINT h0 n0 v U'.heap L ∧ FrameEnd U o U' L ({ frames := 0, cells := 0, slots := 0, locals := 0 } : Room).cells ({ frames := 0, cells := 0, slots := 0, locals := 0 } : Room).slots) := by
  refine MetFree.of_bodySF (plainFor_of_name own_pn1) hisR ?_
  intro p e s m args below meth c s₁ Bd hml0 hP hK
  obtain ⟨rfl, hZ, hh⟩ := hP
  have hx := Bd.exec
  have hby := Bd.bytes
  have hlk := Bd.notSynchronized
  have hml : c.maxLocals = 1 := hml0
  have hown : s.vm.findClass "com/example/taproom/taproom/model/ColumnType" = some m.cls := findClass_of_methodNamed Bd.named
  have hnm := (name_of_methodNamed Bd.named Bd.method).1
  have X0 : Stand p l e ({ frames := 0, cells := 0, slots := 0, locals := 0 } : Room) s m #[(.ref s_POINT)] below meth c s₁ [] 0 0 := Stand.of_body Bd
  have e0 : s₁.heap = h0 := by rw [← hh, Bd.state]; rfl
  have N0 := Fr.nil n0
  have KR : Keep h0 h0 [] := Keep.refl _ _
  show own_Fin p e below s ({ frames := 0, cells := 0, slots := 0, locals := 0 } : Room).cells ({ frames := 0, cells := 0, slots := 0, locals := 0 } : Room).slots (own_Q19 Z s_POINT s_SMALLINT s_INTEGER s_BIGINT h0 n0) (s₁.setTop (entryFrame m #[(.ref s_POINT)] 1))
  refine own_cast (own_ef19 m s_POINT) ?_
  refine own_step (fun _ k => XS.aloadN X0.here hx rfl (hb hby own_d19_0) rfl rfl k) ?_
  show own_Fin p e below s _ _ _ (s₁.setTop (mkF m 1 #[.val (.ref s_POINT)] [(.ref s_POINT)]))
  obtain ⟨T1, X1, e1, st1⟩ := getS2 X0 hx hZ hown (host := "") (Or.inl (own_w hw 13 rfl)) Via.refl e0 S_SMALLINT (g := (mkF m 1 #[.val (.ref s_POINT)] [(.ref s_POINT)])) rfl (hb hby own_d19_1)
  refine own_step st1 ?_
  show own_Fin p e below s _ _ _ (T1.setTop (mkF m 4 #[.val (.ref s_POINT)] [(.ref s_SMALLINT), (.ref s_POINT)]))
  refine own_step (fun _ k => Jvm.RoadKit.acmp (g := (mkF m 4 #[.val (.ref s_POINT)] [(.ref s_SMALLINT), (.ref s_POINT)])) X1 hx rfl rfl rfl (pc0 := 4) (pc' := 7) (same := false) rfl (hb hby own_d19_4) rfl (decide_eq_false fun q => ne_s_POINT_s_SMALLINT (Value.ref.inj q)) (by decide) (by decide) k) ?_
  show own_Fin p e below s _ _ _ (T1.setTop (mkF m 7 #[.val (.ref s_POINT)] []))
  refine own_step (fun _ k => XS.aloadN X1.here hx rfl (hb hby own_d19_7) rfl rfl k) ?_
  show own_Fin p e below s _ _ _ (T1.setTop (mkF m 8 #[.val (.ref s_POINT)] [(.ref s_POINT)]))
  obtain ⟨T2, X2, e2, st2⟩ := getS2 X1 hx hZ hown (host := "") (Or.inl (own_w hw 16 rfl)) Via.refl e1 S_INTEGER (g := (mkF m 8 #[.val (.ref s_POINT)] [(.ref s_POINT)])) rfl (hb hby own_d19_8)
  refine own_step st2 ?_
  show own_Fin p e below s _ _ _ (T2.setTop (mkF m 11 #[.val (.ref s_POINT)] [(.ref s_INTEGER), (.ref s_POINT)]))
  refine own_step (fun _ k => Jvm.RoadKit.acmp (g := (mkF m 11 #[.val (.ref s_POINT)] [(.ref s_INTEGER), (.ref s_POINT)])) X2 hx rfl rfl rfl (pc0 := 11) (pc' := 14) (same := false) rfl (hb hby own_d19_11) rfl (decide_eq_false fun q => ne_s_POINT_s_INTEGER (Value.ref.inj q)) (by decide) (by decide) k) ?_
  show own_Fin p e below s _ _ _ (T2.setTop (mkF m 14 #[.val (.ref s_POINT)] []))
  refine own_step (fun _ k => XS.aloadN X2.here hx rfl (hb hby own_d19_14) rfl rfl k) ?_
  show own_Fin p e below s _ _ _ (T2.setTop (mkF m 15 #[.val (.ref s_POINT)] [(.ref s_POINT)]))
  obtain ⟨T3, X3, e3, st3⟩ := getS2 X2 hx hZ hown (host := "") (Or.inl (own_w hw 18 rfl)) Via.refl e2 S_BIGINT (g := (mkF m 15 #[.val (.ref s_POINT)] [(.ref s_POINT)])) rfl (hb hby own_d19_15)
  refine own_step st3 ?_
  show own_Fin p e below s _ _ _ (T3.setTop (mkF m 18 #[.val (.ref s_POINT)] [(.ref s_BIGINT), (.ref s_POINT)]))
  refine own_step (fun _ k => Jvm.RoadKit.acmp (g := (mkF m 18 #[.val (.ref s_POINT)] [(.ref s_BIGINT), (.ref s_POINT)])) X3 hx rfl rfl rfl (pc0 := 18) (pc' := 25) (same := false) rfl (hb hby own_d19_18) rfl (decide_eq_false fun q => ne_s_POINT_s_BIGINT (Value.ref.inj q)) (by decide) (by decide) k) ?_
  show own_Fin p e below s _ _ _ (T3.setTop (mkF m 25 #[.val (.ref s_POINT)] []))
  refine own_step (fun _ k => XS.iconst X3.here hx rfl (hb hby own_d19_25) k) ?_
  show own_Fin p e below s _ _ _ (T3.setTop (mkF m 26 #[.val (.ref s_POINT)] [(.int (0 : Int32))]))
  exact own_ret X3 hlk (v := some (.int (0 : Int32))) (fun h => by rw [Bd.returns] at h; cases h) (by decide) (by decide) (by show own_Q19 Z s_POINT s_SMALLINT s_INTEGER s_BIGINT h0 n0 _ T3.heap _; rw [e3]; exact ⟨rfl, N0, rfl⟩) (fun fs hr => retN X3 hx (t := .boolean) Bd.returns (by simp) (hb hby own_d19_26) hr)

theorem own_d20_0 : decode prog_61_method_5_code 0 = .ok (.aload_n 0, 1) := by decide +kernel
theorem own_d20_1 : decode prog_61_method_5_code 1 = .ok (.getstatic 3, 3) := by decide +kernel
theorem own_d20_4 : decode prog_61_method_5_code 4 = .ok (.if_acmp .eq 17, 3) := by decide +kernel
theorem own_d20_7 : decode prog_61_method_5_code 7 = .ok (.aload_n 0, 1) := by decide +kernel
theorem own_d20_8 : decode prog_61_method_5_code 8 = .ok (.getstatic 7, 3) := by decide +kernel
theorem own_d20_11 : decode prog_61_method_5_code 11 = .ok (.if_acmp .eq 10, 3) := by decide +kernel
theorem own_d20_14 : decode prog_61_method_5_code 14 = .ok (.aload_n 0, 1) := by decide +kernel
theorem own_d20_15 : decode prog_61_method_5_code 15 = .ok (.getstatic 10, 3) := by decide +kernel
theorem own_d20_18 : decode prog_61_method_5_code 18 = .ok (.if_acmp .ne 7, 3) := by decide +kernel
theorem own_d20_25 : decode prog_61_method_5_code 25 = .ok (.iconst 0, 1) := by decide +kernel
theorem own_d20_26 : decode prog_61_method_5_code 26 = .ok (.ireturn, 1) := by decide +kernel
theorem own_ef20 (m : MethodId) (s_REGION : Addr) : entryFrame m #[(.ref s_REGION)] 1 = mkF m 0 #[.val (.ref s_REGION)] [] := by first | (simp [entryFrame, mkF, argsToLocals, Value.category]; done) | rfl
def own_Q20 (Z : State) (s_REGION : Addr) (s_SMALLINT : Addr) (s_INTEGER : Addr) (s_BIGINT : Addr) (h0 : Heap) (n0 : Nat) (v : Option Value) (h : Heap) (L : List Loc) : Prop := v = some (.int (0 : Int32)) ∧ Fr n0 L ∧ h = h0
set_option maxRecDepth 65536 in
set_option maxHeartbeats 40000000 in
theorem own_rm20 (l : Launch) (Z : State) (a0 : Array Value) (hw : ∀ d ∈ tables_1, d.before a0 Z = true) (ws : List Jvm.Cond) (s_REGION : Addr) (s_SMALLINT : Addr) (s_INTEGER : Addr) (s_BIGINT : Addr) (h0 : Heap) (n0 : Nat) (Z0 : n0 ≤ h0.size) (S_SMALLINT : Sta Z h0 "com/example/taproom/taproom/model/ColumnType" "SMALLINT" "Lcom/example/taproom/taproom/model/ColumnType;" (.ref s_SMALLINT)) (ne_s_REGION_s_SMALLINT : s_REGION ≠ s_SMALLINT) (S_INTEGER : Sta Z h0 "com/example/taproom/taproom/model/ColumnType" "INTEGER" "Lcom/example/taproom/taproom/model/ColumnType;" (.ref s_INTEGER)) (ne_s_REGION_s_INTEGER : s_REGION ≠ s_INTEGER) (S_BIGINT : Sta Z h0 "com/example/taproom/taproom/model/ColumnType" "BIGINT" "Lcom/example/taproom/taproom/model/ColumnType;" (.ref s_BIGINT)) (ne_s_REGION_s_BIGINT : s_REGION ≠ s_BIGINT) :
    MetFree l (⟨"com/example/taproom/taproom/model/ColumnType", "isWhole", "()Z"⟩ : MethodName) (head1 (Jvm.Cond.code (⟨"com/example/taproom/taproom/model/ColumnType", "isWhole", "()Z"⟩ : MethodName) prog_61_method_5_code 1 (some .boolean) :: ws) ({ frames := 0, cells := 0, slots := 0, locals := 0 } : Room)) (fun a U => a = #[(.ref s_REGION)] ∧ Z.Warmed39 U.vm ∧ U.heap = h0) (fun _ _ _ _ _ => True) (fun _ U o U' => ∃ v L, o = .returned v ∧ own_Q20 Z s_REGION s_SMALLINT s_INTEGER s_BIGINT h0 n0 v U'.heap L ∧ FrameEnd U o U' L ({ frames := 0, cells := 0, slots := 0, locals := 0 } : Room).cells ({ frames := 0, cells := 0, slots := 0, locals := 0 } : Room).slots) := by
  refine MetFree.of_bodySF (plainFor_of_name own_pn1) hisR ?_
  intro p e s m args below meth c s₁ Bd hml0 hP hK
  obtain ⟨rfl, hZ, hh⟩ := hP
  have hx := Bd.exec
  have hby := Bd.bytes
  have hlk := Bd.notSynchronized
  have hml : c.maxLocals = 1 := hml0
  have hown : s.vm.findClass "com/example/taproom/taproom/model/ColumnType" = some m.cls := findClass_of_methodNamed Bd.named
  have hnm := (name_of_methodNamed Bd.named Bd.method).1
  have X0 : Stand p l e ({ frames := 0, cells := 0, slots := 0, locals := 0 } : Room) s m #[(.ref s_REGION)] below meth c s₁ [] 0 0 := Stand.of_body Bd
  have e0 : s₁.heap = h0 := by rw [← hh, Bd.state]; rfl
  have N0 := Fr.nil n0
  have KR : Keep h0 h0 [] := Keep.refl _ _
  show own_Fin p e below s ({ frames := 0, cells := 0, slots := 0, locals := 0 } : Room).cells ({ frames := 0, cells := 0, slots := 0, locals := 0 } : Room).slots (own_Q20 Z s_REGION s_SMALLINT s_INTEGER s_BIGINT h0 n0) (s₁.setTop (entryFrame m #[(.ref s_REGION)] 1))
  refine own_cast (own_ef20 m s_REGION) ?_
  refine own_step (fun _ k => XS.aloadN X0.here hx rfl (hb hby own_d20_0) rfl rfl k) ?_
  show own_Fin p e below s _ _ _ (s₁.setTop (mkF m 1 #[.val (.ref s_REGION)] [(.ref s_REGION)]))
  obtain ⟨T1, X1, e1, st1⟩ := getS2 X0 hx hZ hown (host := "") (Or.inl (own_w hw 13 rfl)) Via.refl e0 S_SMALLINT (g := (mkF m 1 #[.val (.ref s_REGION)] [(.ref s_REGION)])) rfl (hb hby own_d20_1)
  refine own_step st1 ?_
  show own_Fin p e below s _ _ _ (T1.setTop (mkF m 4 #[.val (.ref s_REGION)] [(.ref s_SMALLINT), (.ref s_REGION)]))
  refine own_step (fun _ k => Jvm.RoadKit.acmp (g := (mkF m 4 #[.val (.ref s_REGION)] [(.ref s_SMALLINT), (.ref s_REGION)])) X1 hx rfl rfl rfl (pc0 := 4) (pc' := 7) (same := false) rfl (hb hby own_d20_4) rfl (decide_eq_false fun q => ne_s_REGION_s_SMALLINT (Value.ref.inj q)) (by decide) (by decide) k) ?_
  show own_Fin p e below s _ _ _ (T1.setTop (mkF m 7 #[.val (.ref s_REGION)] []))
  refine own_step (fun _ k => XS.aloadN X1.here hx rfl (hb hby own_d20_7) rfl rfl k) ?_
  show own_Fin p e below s _ _ _ (T1.setTop (mkF m 8 #[.val (.ref s_REGION)] [(.ref s_REGION)]))
  obtain ⟨T2, X2, e2, st2⟩ := getS2 X1 hx hZ hown (host := "") (Or.inl (own_w hw 16 rfl)) Via.refl e1 S_INTEGER (g := (mkF m 8 #[.val (.ref s_REGION)] [(.ref s_REGION)])) rfl (hb hby own_d20_8)
  refine own_step st2 ?_
  show own_Fin p e below s _ _ _ (T2.setTop (mkF m 11 #[.val (.ref s_REGION)] [(.ref s_INTEGER), (.ref s_REGION)]))
  refine own_step (fun _ k => Jvm.RoadKit.acmp (g := (mkF m 11 #[.val (.ref s_REGION)] [(.ref s_INTEGER), (.ref s_REGION)])) X2 hx rfl rfl rfl (pc0 := 11) (pc' := 14) (same := false) rfl (hb hby own_d20_11) rfl (decide_eq_false fun q => ne_s_REGION_s_INTEGER (Value.ref.inj q)) (by decide) (by decide) k) ?_
  show own_Fin p e below s _ _ _ (T2.setTop (mkF m 14 #[.val (.ref s_REGION)] []))
  refine own_step (fun _ k => XS.aloadN X2.here hx rfl (hb hby own_d20_14) rfl rfl k) ?_
  show own_Fin p e below s _ _ _ (T2.setTop (mkF m 15 #[.val (.ref s_REGION)] [(.ref s_REGION)]))
  obtain ⟨T3, X3, e3, st3⟩ := getS2 X2 hx hZ hown (host := "") (Or.inl (own_w hw 18 rfl)) Via.refl e2 S_BIGINT (g := (mkF m 15 #[.val (.ref s_REGION)] [(.ref s_REGION)])) rfl (hb hby own_d20_15)
  refine own_step st3 ?_
  show own_Fin p e below s _ _ _ (T3.setTop (mkF m 18 #[.val (.ref s_REGION)] [(.ref s_BIGINT), (.ref s_REGION)]))
  refine own_step (fun _ k => Jvm.RoadKit.acmp (g := (mkF m 18 #[.val (.ref s_REGION)] [(.ref s_BIGINT), (.ref s_REGION)])) X3 hx rfl rfl rfl (pc0 := 18) (pc' := 25) (same := false) rfl (hb hby own_d20_18) rfl (decide_eq_false fun q => ne_s_REGION_s_BIGINT (Value.ref.inj q)) (by decide) (by decide) k) ?_
  show own_Fin p e below s _ _ _ (T3.setTop (mkF m 25 #[.val (.ref s_REGION)] []))
  refine own_step (fun _ k => XS.iconst X3.here hx rfl (hb hby own_d20_25) k) ?_
  show own_Fin p e below s _ _ _ (T3.setTop (mkF m 26 #[.val (.ref s_REGION)] [(.int (0 : Int32))]))
  exact own_ret X3 hlk (v := some (.int (0 : Int32))) (fun h => by rw [Bd.returns] at h; cases h) (by decide) (by decide) (by show own_Q20 Z s_REGION s_SMALLINT s_INTEGER s_BIGINT h0 n0 _ T3.heap _; rw [e3]; exact ⟨rfl, N0, rfl⟩) (fun fs hr => retN X3 hx (t := .boolean) Bd.returns (by simp) (hb hby own_d20_26) hr)

theorem own_pd0 : parseMethodDescriptor "(I)Lcom/example/taproom/taproom/model/ColumnType;" = some ⟨[.int], some (.object "com/example/taproom/taproom/model/ColumnType")⟩ := by decide +kernel
abbrev own_y0 : MethodName := (⟨"com/example/taproom/taproom/model/ColumnTypeIsWholePinLaw", "pick", "(I)Lcom/example/taproom/taproom/model/ColumnType;"⟩ : MethodName)
theorem own_pd1 : parseMethodDescriptor "()Z" = some ⟨[], some .boolean⟩ := by decide +kernel
abbrev own_y1 : MethodName := (⟨"com/example/taproom/taproom/model/ColumnType", "isWhole", "()Z"⟩ : MethodName)
theorem own_ef21 (m : MethodId) (p0 : Int32) : entryFrame m #[(.int p0)] maxLocals = mkF m 0 #[.val (.int p0), .unset, .unset, .unset] [] := by first | (simp [entryFrame, mkF, argsToLocals, Value.category, maxLocals]; done) | rfl
def own_Q21 (Z : State) (p0 : Int32) (s_SMALLINT : Addr) (s_INTEGER : Addr) (s_BIGINT : Addr) (s_REAL : Addr) (s_DOUBLE : Addr) (s_CHAR : Addr) (s_VARCHAR : Addr) (s_TIMESTAMP : Addr) (s_POINT : Addr) (s_REGION : Addr) (h0 : Heap) (n0 : Nat) (v : Option Value) (h : Heap) (L : List Loc) : Prop := v = some (.int 1) ∧ Fr n0 L
set_option maxRecDepth 65536 in
set_option maxHeartbeats 40000000 in
theorem own_rm21 (l : Launch) (Z : State) (a0 : Array Value) (hw : ∀ d ∈ tables_1, d.before a0 Z = true) (ws : List Jvm.Cond) (p0 : Int32) (s_SMALLINT : Addr) (s_INTEGER : Addr) (s_BIGINT : Addr) (s_REAL : Addr) (s_DOUBLE : Addr) (s_CHAR : Addr) (s_VARCHAR : Addr) (s_TIMESTAMP : Addr) (s_POINT : Addr) (s_REGION : Addr) (h0 : Heap) (n0 : Nat) (Z0 : n0 ≤ h0.size) (S_SMALLINT : Sta Z h0 "com/example/taproom/taproom/model/ColumnType" "SMALLINT" "Lcom/example/taproom/taproom/model/ColumnType;" (.ref s_SMALLINT)) (E_s_SMALLINT : Exa Z h0 s_SMALLINT "com/example/taproom/taproom/model/ColumnType") (S_INTEGER : Sta Z h0 "com/example/taproom/taproom/model/ColumnType" "INTEGER" "Lcom/example/taproom/taproom/model/ColumnType;" (.ref s_INTEGER)) (E_s_INTEGER : Exa Z h0 s_INTEGER "com/example/taproom/taproom/model/ColumnType") (ne_s_INTEGER_s_SMALLINT : s_INTEGER ≠ s_SMALLINT) (S_BIGINT : Sta Z h0 "com/example/taproom/taproom/model/ColumnType" "BIGINT" "Lcom/example/taproom/taproom/model/ColumnType;" (.ref s_BIGINT)) (E_s_BIGINT : Exa Z h0 s_BIGINT "com/example/taproom/taproom/model/ColumnType") (ne_s_BIGINT_s_SMALLINT : s_BIGINT ≠ s_SMALLINT) (ne_s_BIGINT_s_INTEGER : s_BIGINT ≠ s_INTEGER) (S_REAL : Sta Z h0 "com/example/taproom/taproom/model/ColumnType" "REAL" "Lcom/example/taproom/taproom/model/ColumnType;" (.ref s_REAL)) (E_s_REAL : Exa Z h0 s_REAL "com/example/taproom/taproom/model/ColumnType") (ne_s_REAL_s_SMALLINT : s_REAL ≠ s_SMALLINT) (ne_s_REAL_s_INTEGER : s_REAL ≠ s_INTEGER) (ne_s_REAL_s_BIGINT : s_REAL ≠ s_BIGINT) (S_DOUBLE : Sta Z h0 "com/example/taproom/taproom/model/ColumnType" "DOUBLE" "Lcom/example/taproom/taproom/model/ColumnType;" (.ref s_DOUBLE)) (E_s_DOUBLE : Exa Z h0 s_DOUBLE "com/example/taproom/taproom/model/ColumnType") (ne_s_DOUBLE_s_SMALLINT : s_DOUBLE ≠ s_SMALLINT) (ne_s_DOUBLE_s_INTEGER : s_DOUBLE ≠ s_INTEGER) (ne_s_DOUBLE_s_BIGINT : s_DOUBLE ≠ s_BIGINT) (S_CHAR : Sta Z h0 "com/example/taproom/taproom/model/ColumnType" "CHAR" "Lcom/example/taproom/taproom/model/ColumnType;" (.ref s_CHAR)) (E_s_CHAR : Exa Z h0 s_CHAR "com/example/taproom/taproom/model/ColumnType") (ne_s_CHAR_s_SMALLINT : s_CHAR ≠ s_SMALLINT) (ne_s_CHAR_s_INTEGER : s_CHAR ≠ s_INTEGER) (ne_s_CHAR_s_BIGINT : s_CHAR ≠ s_BIGINT) (S_VARCHAR : Sta Z h0 "com/example/taproom/taproom/model/ColumnType" "VARCHAR" "Lcom/example/taproom/taproom/model/ColumnType;" (.ref s_VARCHAR)) (E_s_VARCHAR : Exa Z h0 s_VARCHAR "com/example/taproom/taproom/model/ColumnType") (ne_s_VARCHAR_s_SMALLINT : s_VARCHAR ≠ s_SMALLINT) (ne_s_VARCHAR_s_INTEGER : s_VARCHAR ≠ s_INTEGER) (ne_s_VARCHAR_s_BIGINT : s_VARCHAR ≠ s_BIGINT) (S_TIMESTAMP : Sta Z h0 "com/example/taproom/taproom/model/ColumnType" "TIMESTAMP" "Lcom/example/taproom/taproom/model/ColumnType;" (.ref s_TIMESTAMP)) (E_s_TIMESTAMP : Exa Z h0 s_TIMESTAMP "com/example/taproom/taproom/model/ColumnType") (ne_s_TIMESTAMP_s_SMALLINT : s_TIMESTAMP ≠ s_SMALLINT) (ne_s_TIMESTAMP_s_INTEGER : s_TIMESTAMP ≠ s_INTEGER) (ne_s_TIMESTAMP_s_BIGINT : s_TIMESTAMP ≠ s_BIGINT) (S_POINT : Sta Z h0 "com/example/taproom/taproom/model/ColumnType" "POINT" "Lcom/example/taproom/taproom/model/ColumnType;" (.ref s_POINT)) (E_s_POINT : Exa Z h0 s_POINT "com/example/taproom/taproom/model/ColumnType") (ne_s_POINT_s_SMALLINT : s_POINT ≠ s_SMALLINT) (ne_s_POINT_s_INTEGER : s_POINT ≠ s_INTEGER) (ne_s_POINT_s_BIGINT : s_POINT ≠ s_BIGINT) (S_REGION : Sta Z h0 "com/example/taproom/taproom/model/ColumnType" "REGION" "Lcom/example/taproom/taproom/model/ColumnType;" (.ref s_REGION)) (E_s_REGION : Exa Z h0 s_REGION "com/example/taproom/taproom/model/ColumnType") (ne_s_REGION_s_SMALLINT : s_REGION ≠ s_SMALLINT) (ne_s_REGION_s_INTEGER : s_REGION ≠ s_INTEGER) (ne_s_REGION_s_BIGINT : s_REGION ≠ s_BIGINT) :
    MetFree l x (head1 (Jvm.Cond.code x code maxLocals ret :: ws) room_1) (fun a U => a = #[(.int p0)] ∧ Z.Warmed39 U.vm ∧ U.heap = h0) (fun _ _ _ _ _ => True) (fun _ U o U' => ∃ v L, o = .returned v ∧ own_Q21 Z p0 s_SMALLINT s_INTEGER s_BIGINT s_REAL s_DOUBLE s_CHAR s_VARCHAR s_TIMESTAMP s_POINT s_REGION h0 n0 v U'.heap L ∧ FrameEnd U o U' L room_1.cells room_1.slots) := by
  refine MetFree.of_bodySF (plainFor_of_name own_pn0) hisR ?_
  intro p e s m args below meth c s₁ Bd hml0 hP hK
  obtain ⟨rfl, hZ, hh⟩ := hP
  have hx := Bd.exec
  have hby := Bd.bytes
  have hlk := Bd.notSynchronized
  have hml : c.maxLocals = 4 := hml0
  have hown : s.vm.findClass "com/example/taproom/taproom/model/ColumnTypeIsWholePinLaw" = some m.cls := findClass_of_methodNamed Bd.named
  have hnm := (name_of_methodNamed Bd.named Bd.method).1
  have X0 : Stand p l e room_1 s m #[(.int p0)] below meth c s₁ [] 0 0 := Stand.of_body Bd
  have e0 : s₁.heap = h0 := by rw [← hh, Bd.state]; rfl
  have N0 := Fr.nil n0
  have KR : Keep h0 h0 [] := Keep.refl _ _
  show own_Fin p e below s room_1.cells room_1.slots (own_Q21 Z p0 s_SMALLINT s_INTEGER s_BIGINT s_REAL s_DOUBLE s_CHAR s_VARCHAR s_TIMESTAMP s_POINT s_REGION h0 n0) (s₁.setTop (entryFrame m #[(.int p0)] maxLocals))
  refine own_cast (own_ef21 m p0) ?_
  refine own_step (fun _ k => XS.iloadN X0.here hx rfl (hb hby at_0) rfl k) ?_
  show own_Fin p e below s _ _ _ (s₁.setTop (mkF m 1 #[.val (.int p0), .unset, .unset, .unset] [(.int p0)]))
  refine own_step (fun _ k => X0.ldcInt hx hown (mvT hZ (own_w hw 0 rfl)) (g := (mkF m 1 #[.val (.int p0), .unset, .unset, .unset] [(.int p0)])) rfl (hb hby at_1) _ k) ?_
  show own_Fin p e below s _ _ _ (s₁.setTop (mkF m 3 #[.val (.int p0), .unset, .unset, .unset] [(.int (2147483647 : Int32)), (.int p0)]))
  refine own_step (fun _ k => XS.iand X0.here hx rfl (hb hby at_3) rfl k) ?_
  show own_Fin p e below s _ _ _ (s₁.setTop (mkF m 4 #[.val (.int p0), .unset, .unset, .unset] [(.int (p0 &&& (2147483647 : Int32)))]))
  refine own_step (fun _ k => XS.bipush X0.here hx rfl (hb hby at_4) k) ?_
  show own_Fin p e below s _ _ _ (s₁.setTop (mkF m 6 #[.val (.int p0), .unset, .unset, .unset] [(.int (10 : Int32)), (.int (p0 &&& (2147483647 : Int32)))]))
  refine own_step (fun _ k => iremM (g := (mkF m 6 #[.val (.int p0), .unset, .unset, .unset] [(.int (10 : Int32)), (.int (p0 &&& (2147483647 : Int32)))])) X0 hx rfl (hb hby at_6) rfl (by decide) k) ?_
  show own_Fin p e below s _ _ _ (s₁.setTop (mkF m 7 #[.val (.int p0), .unset, .unset, .unset] [(.int ((p0 &&& (2147483647 : Int32)) % (10 : Int32)))]))
  refine own_step (fun _ k => XS.istoreN X0.here hx rfl (hb hby at_7) rfl (l' := #[.val (.int p0), .val (.int ((p0 &&& (2147483647 : Int32)) % (10 : Int32))), .unset, .unset]) rfl k) ?_
  show own_Fin p e below s _ _ _ (s₁.setTop (mkF m 8 #[.val (.int p0), .val (.int ((p0 &&& (2147483647 : Int32)) % (10 : Int32))), .unset, .unset] []))
  rcases own_k p0 with hk1 | hk2 | hk3 | hk4 | hk5 | hk6 | hk7 | hk8 | hk9 | hk10
  · rw [hk1]
    show own_Fin p e below s _ _ _ (s₁.setTop (mkF m 8 #[.val (.int p0), .val (.int (0 : Int32)), .unset, .unset] []))
    refine own_step (fun _ k => XS.iloadN X0.here hx rfl (hb hby at_8) rfl k) ?_
    show own_Fin p e below s _ _ _ (s₁.setTop (mkF m 9 #[.val (.int p0), .val (.int (0 : Int32)), .unset, .unset] [(.int (0 : Int32))]))
    obtain ⟨_, _, ⟨T11, L11, k11, n11⟩, -, X11, ⟨Lc11, hQ11, l11, y11, z11⟩, st11⟩ := Jvm.LawKit.callS X0 hx (y := own_y0) hown (mvT hZ (own_w hw 1 rfl)) (mvT hZ (own_w hw 2 rfl)) (mvT hZ (own_w hw 3 rfl)) (mvT hZ (own_w hw 4 rfl)) (by decide) (backOf (W := 0) (own_rm1 l Z a0 hw [] s_SMALLINT h0 n0 Z0 S_SMALLINT) hZ (own_w hw 4 rfl) (own_w hw 3 rfl) (by decide) (by decide)) (g := (mkF m 9 #[.val (.int p0), .val (.int (0 : Int32)), .unset, .unset] [(.int (0 : Int32))])) rfl (by rw [hml]; rfl) (argsL := [(.int (0 : Int32))]) (rest := []) (lenOf own_pd0 rfl) rfl (by show 2 * 0 + _ ≤ _; exact Nat.le_of_eq rfl) (hb hby at_9) (fun _ _ => ⟨rfl, e0, (by decide : 0 + 0 ≤ _), (by decide : 0 + 0 ≤ _)⟩)
    dsimp only [Pt.U, Pt.locs, Pt.cells, Pt.slots] at X11 l11 y11 z11 st11 hQ11
    subst l11 y11 z11
    obtain ⟨rfl, N11q, e11⟩ := hQ11
    have N11 := Fr.app N0 N11q
    refine own_step (fun _ k => st11 _ k) ?_
    show own_Fin p e below s _ _ _ (T11.setTop (mkF m 12 #[.val (.int p0), .val (.int (0 : Int32)), .unset, .unset] [(.ref s_SMALLINT)]))
    refine own_step (fun _ k => XS.astoreN X11.here hx rfl (hb hby at_12) rfl rfl (l' := #[.val (.int p0), .val (.int (0 : Int32)), .val (.ref s_SMALLINT), .unset]) rfl k) ?_
    show own_Fin p e below s _ _ _ (T11.setTop (mkF m 13 #[.val (.int p0), .val (.int (0 : Int32)), .val (.ref s_SMALLINT), .unset] []))
    refine own_step (fun _ k => XS.iloadN X11.here hx rfl (hb hby at_13) rfl k) ?_
    show own_Fin p e below s _ _ _ (T11.setTop (mkF m 14 #[.val (.int p0), .val (.int (0 : Int32)), .val (.ref s_SMALLINT), .unset] [(.int (0 : Int32))]))
    refine own_step (fun _ k => XS.iconst X11.here hx rfl (hb hby at_14) k) ?_
    show own_Fin p e below s _ _ _ (T11.setTop (mkF m 15 #[.val (.int p0), .val (.int (0 : Int32)), .val (.ref s_SMALLINT), .unset] [(.int (3 : Int32)), (.int (0 : Int32))]))
    refine own_step (fun _ k => XS.icmpNo X11.here hx rfl (hb hby at_15) rfl (tlt (by decide : (0 : Int32) < (3 : Int32))).2.1 k) ?_
    show own_Fin p e below s _ _ _ (T11.setTop (mkF m 18 #[.val (.int p0), .val (.int (0 : Int32)), .val (.ref s_SMALLINT), .unset] []))
    refine own_step (fun _ k => XS.iconst X11.here hx rfl (hb hby at_18) k) ?_
    show own_Fin p e below s _ _ _ (T11.setTop (mkF m 19 #[.val (.int p0), .val (.int (0 : Int32)), .val (.ref s_SMALLINT), .unset] [(.int (1 : Int32))]))
    refine own_step (fun _ k => XS.goto X11.here hx rfl (pc0 := 19) (pc' := 23) rfl (hb hby at_19) (by decide) (by decide) k) ?_
    show own_Fin p e below s _ _ _ (T11.setTop (mkF m 23 #[.val (.int p0), .val (.int (0 : Int32)), .val (.ref s_SMALLINT), .unset] [(.int (1 : Int32))]))
    refine own_step (fun _ k => XS.istoreN X11.here hx rfl (hb hby at_23) rfl (l' := #[.val (.int p0), .val (.int (0 : Int32)), .val (.ref s_SMALLINT), .val (.int (1 : Int32))]) rfl k) ?_
    show own_Fin p e below s _ _ _ (T11.setTop (mkF m 24 #[.val (.int p0), .val (.int (0 : Int32)), .val (.ref s_SMALLINT), .val (.int (1 : Int32))] []))
    refine own_step (fun _ k => XS.aloadN X11.here hx rfl (hb hby at_24) rfl rfl k) ?_
    show own_Fin p e below s _ _ _ (T11.setTop (mkF m 25 #[.val (.int p0), .val (.int (0 : Int32)), .val (.ref s_SMALLINT), .val (.int (1 : Int32))] [(.ref s_SMALLINT)]))
    obtain ⟨cq12, kq12, q12a, q12b, q12c⟩ := isOf hZ e11 E_s_SMALLINT
    obtain ⟨_, _, ⟨T12, L12, k12, n12⟩, -, X12, ⟨Lc12, hQ12, l12, y12, z12⟩, st12⟩ := X11.virtualBack hx (y := own_y1) (z := own_y1) hown (mvT hZ (own_w hw 8 rfl)) (mvT hZ (own_w hw 9 rfl)) (notFace_of_selects (args := #[]) (mvT hZ (own_w hw 11 rfl))) (mvT hZ (own_w hw 11 rfl)) (mvT hZ (own_w hw 10 rfl)) (by decide) (backOf (W := 0) (own_rm11 l Z a0 hw [] s_SMALLINT h0 n0 Z0 S_SMALLINT) hZ (own_w hw 12 rfl) (own_w hw 6 rfl) (by decide) (by decide)) q12a q12c (g := (mkF m 25 #[.val (.int p0), .val (.int (0 : Int32)), .val (.ref s_SMALLINT), .val (.int (1 : Int32))] [(.ref s_SMALLINT)])) rfl (by rw [hml]; rfl) (Steps.refl _) (argsL := []) (rest := []) (lenOf own_pd1 rfl) rfl (by show 2 * 0 + _ ≤ _; exact Nat.le_of_eq rfl) (hb hby at_25) (fun _ _ => ⟨rfl, e11, (by decide : 0 + 0 ≤ _), (by decide : 0 + 0 ≤ _)⟩)
    dsimp only [Pt.U, Pt.locs, Pt.cells, Pt.slots] at X12 l12 y12 z12 st12 hQ12
    subst l12 y12 z12
    obtain ⟨rfl, N12q, e12⟩ := hQ12
    have N12 := Fr.app N11 N12q
    refine own_step (fun _ k => st12.trans k) ?_
    show own_Fin p e below s _ _ _ (T12.setTop (mkF m 28 #[.val (.int p0), .val (.int (0 : Int32)), .val (.ref s_SMALLINT), .val (.int (1 : Int32))] [(.int (1 : Int32))]))
    refine own_step (fun _ k => XS.iloadN X12.here hx rfl (hb hby at_28) rfl k) ?_
    show own_Fin p e below s _ _ _ (T12.setTop (mkF m 29 #[.val (.int p0), .val (.int (0 : Int32)), .val (.ref s_SMALLINT), .val (.int (1 : Int32))] [(.int (1 : Int32)), (.int (1 : Int32))]))
    refine own_step (fun _ k => XS.icmpNo X12.here hx rfl (hb hby at_29) rfl (teq (by decide : (1 : Int32) = (1 : Int32))).2 k) ?_
    show own_Fin p e below s _ _ _ (T12.setTop (mkF m 32 #[.val (.int p0), .val (.int (0 : Int32)), .val (.ref s_SMALLINT), .val (.int (1 : Int32))] []))
    refine own_step (fun _ k => XS.iconst X12.here hx rfl (hb hby at_32) k) ?_
    show own_Fin p e below s _ _ _ (T12.setTop (mkF m 33 #[.val (.int p0), .val (.int (0 : Int32)), .val (.ref s_SMALLINT), .val (.int (1 : Int32))] [(.int (1 : Int32))]))
    refine own_step (fun _ k => XS.goto X12.here hx rfl (pc0 := 33) (pc' := 37) rfl (hb hby at_33) (by decide) (by decide) k) ?_
    show own_Fin p e below s _ _ _ (T12.setTop (mkF m 37 #[.val (.int p0), .val (.int (0 : Int32)), .val (.ref s_SMALLINT), .val (.int (1 : Int32))] [(.int (1 : Int32))]))
    exact own_ret X12 hlk (v := some (.int (1 : Int32))) (fun h => by rw [Bd.returns] at h; cases h) (by decide) (by decide) (by show own_Q21 Z p0 s_SMALLINT s_INTEGER s_BIGINT s_REAL s_DOUBLE s_CHAR s_VARCHAR s_TIMESTAMP s_POINT s_REGION h0 n0 _ T12.heap _; rw [e12]; exact ⟨rfl, N12⟩) (fun fs hr => retN X12 hx (t := .boolean) Bd.returns (by simp) (hb hby at_37) hr)
  · rw [hk2]
    show own_Fin p e below s _ _ _ (s₁.setTop (mkF m 8 #[.val (.int p0), .val (.int (1 : Int32)), .unset, .unset] []))
    refine own_step (fun _ k => XS.iloadN X0.here hx rfl (hb hby at_8) rfl k) ?_
    show own_Fin p e below s _ _ _ (s₁.setTop (mkF m 9 #[.val (.int p0), .val (.int (1 : Int32)), .unset, .unset] [(.int (1 : Int32))]))
    obtain ⟨_, _, ⟨T13, L13, k13, n13⟩, -, X13, ⟨Lc13, hQ13, l13, y13, z13⟩, st13⟩ := Jvm.LawKit.callS X0 hx (y := own_y0) hown (mvT hZ (own_w hw 1 rfl)) (mvT hZ (own_w hw 2 rfl)) (mvT hZ (own_w hw 3 rfl)) (mvT hZ (own_w hw 4 rfl)) (by decide) (backOf (W := 0) (own_rm2 l Z a0 hw [] s_INTEGER h0 n0 Z0 S_INTEGER) hZ (own_w hw 4 rfl) (own_w hw 3 rfl) (by decide) (by decide)) (g := (mkF m 9 #[.val (.int p0), .val (.int (1 : Int32)), .unset, .unset] [(.int (1 : Int32))])) rfl (by rw [hml]; rfl) (argsL := [(.int (1 : Int32))]) (rest := []) (lenOf own_pd0 rfl) rfl (by show 2 * 0 + _ ≤ _; exact Nat.le_of_eq rfl) (hb hby at_9) (fun _ _ => ⟨rfl, e0, (by decide : 0 + 0 ≤ _), (by decide : 0 + 0 ≤ _)⟩)
    dsimp only [Pt.U, Pt.locs, Pt.cells, Pt.slots] at X13 l13 y13 z13 st13 hQ13
    subst l13 y13 z13
    obtain ⟨rfl, N13q, e13⟩ := hQ13
    have N13 := Fr.app N0 N13q
    refine own_step (fun _ k => st13 _ k) ?_
    show own_Fin p e below s _ _ _ (T13.setTop (mkF m 12 #[.val (.int p0), .val (.int (1 : Int32)), .unset, .unset] [(.ref s_INTEGER)]))
    refine own_step (fun _ k => XS.astoreN X13.here hx rfl (hb hby at_12) rfl rfl (l' := #[.val (.int p0), .val (.int (1 : Int32)), .val (.ref s_INTEGER), .unset]) rfl k) ?_
    show own_Fin p e below s _ _ _ (T13.setTop (mkF m 13 #[.val (.int p0), .val (.int (1 : Int32)), .val (.ref s_INTEGER), .unset] []))
    refine own_step (fun _ k => XS.iloadN X13.here hx rfl (hb hby at_13) rfl k) ?_
    show own_Fin p e below s _ _ _ (T13.setTop (mkF m 14 #[.val (.int p0), .val (.int (1 : Int32)), .val (.ref s_INTEGER), .unset] [(.int (1 : Int32))]))
    refine own_step (fun _ k => XS.iconst X13.here hx rfl (hb hby at_14) k) ?_
    show own_Fin p e below s _ _ _ (T13.setTop (mkF m 15 #[.val (.int p0), .val (.int (1 : Int32)), .val (.ref s_INTEGER), .unset] [(.int (3 : Int32)), (.int (1 : Int32))]))
    refine own_step (fun _ k => XS.icmpNo X13.here hx rfl (hb hby at_15) rfl (tlt (by decide : (1 : Int32) < (3 : Int32))).2.1 k) ?_
    show own_Fin p e below s _ _ _ (T13.setTop (mkF m 18 #[.val (.int p0), .val (.int (1 : Int32)), .val (.ref s_INTEGER), .unset] []))
    refine own_step (fun _ k => XS.iconst X13.here hx rfl (hb hby at_18) k) ?_
    show own_Fin p e below s _ _ _ (T13.setTop (mkF m 19 #[.val (.int p0), .val (.int (1 : Int32)), .val (.ref s_INTEGER), .unset] [(.int (1 : Int32))]))
    refine own_step (fun _ k => XS.goto X13.here hx rfl (pc0 := 19) (pc' := 23) rfl (hb hby at_19) (by decide) (by decide) k) ?_
    show own_Fin p e below s _ _ _ (T13.setTop (mkF m 23 #[.val (.int p0), .val (.int (1 : Int32)), .val (.ref s_INTEGER), .unset] [(.int (1 : Int32))]))
    refine own_step (fun _ k => XS.istoreN X13.here hx rfl (hb hby at_23) rfl (l' := #[.val (.int p0), .val (.int (1 : Int32)), .val (.ref s_INTEGER), .val (.int (1 : Int32))]) rfl k) ?_
    show own_Fin p e below s _ _ _ (T13.setTop (mkF m 24 #[.val (.int p0), .val (.int (1 : Int32)), .val (.ref s_INTEGER), .val (.int (1 : Int32))] []))
    refine own_step (fun _ k => XS.aloadN X13.here hx rfl (hb hby at_24) rfl rfl k) ?_
    show own_Fin p e below s _ _ _ (T13.setTop (mkF m 25 #[.val (.int p0), .val (.int (1 : Int32)), .val (.ref s_INTEGER), .val (.int (1 : Int32))] [(.ref s_INTEGER)]))
    obtain ⟨cq14, kq14, q14a, q14b, q14c⟩ := isOf hZ e13 E_s_INTEGER
    obtain ⟨_, _, ⟨T14, L14, k14, n14⟩, -, X14, ⟨Lc14, hQ14, l14, y14, z14⟩, st14⟩ := X13.virtualBack hx (y := own_y1) (z := own_y1) hown (mvT hZ (own_w hw 8 rfl)) (mvT hZ (own_w hw 9 rfl)) (notFace_of_selects (args := #[]) (mvT hZ (own_w hw 11 rfl))) (mvT hZ (own_w hw 11 rfl)) (mvT hZ (own_w hw 10 rfl)) (by decide) (backOf (W := 0) (own_rm12 l Z a0 hw [] s_INTEGER s_SMALLINT h0 n0 Z0 S_SMALLINT ne_s_INTEGER_s_SMALLINT S_INTEGER) hZ (own_w hw 12 rfl) (own_w hw 6 rfl) (by decide) (by decide)) q14a q14c (g := (mkF m 25 #[.val (.int p0), .val (.int (1 : Int32)), .val (.ref s_INTEGER), .val (.int (1 : Int32))] [(.ref s_INTEGER)])) rfl (by rw [hml]; rfl) (Steps.refl _) (argsL := []) (rest := []) (lenOf own_pd1 rfl) rfl (by show 2 * 0 + _ ≤ _; exact Nat.le_of_eq rfl) (hb hby at_25) (fun _ _ => ⟨rfl, e13, (by decide : 0 + 0 ≤ _), (by decide : 0 + 0 ≤ _)⟩)
    dsimp only [Pt.U, Pt.locs, Pt.cells, Pt.slots] at X14 l14 y14 z14 st14 hQ14
    subst l14 y14 z14
    obtain ⟨rfl, N14q, e14⟩ := hQ14
    have N14 := Fr.app N13 N14q
    refine own_step (fun _ k => st14.trans k) ?_
    show own_Fin p e below s _ _ _ (T14.setTop (mkF m 28 #[.val (.int p0), .val (.int (1 : Int32)), .val (.ref s_INTEGER), .val (.int (1 : Int32))] [(.int (1 : Int32))]))
    refine own_step (fun _ k => XS.iloadN X14.here hx rfl (hb hby at_28) rfl k) ?_
    show own_Fin p e below s _ _ _ (T14.setTop (mkF m 29 #[.val (.int p0), .val (.int (1 : Int32)), .val (.ref s_INTEGER), .val (.int (1 : Int32))] [(.int (1 : Int32)), (.int (1 : Int32))]))
    refine own_step (fun _ k => XS.icmpNo X14.here hx rfl (hb hby at_29) rfl (teq (by decide : (1 : Int32) = (1 : Int32))).2 k) ?_
    show own_Fin p e below s _ _ _ (T14.setTop (mkF m 32 #[.val (.int p0), .val (.int (1 : Int32)), .val (.ref s_INTEGER), .val (.int (1 : Int32))] []))
    refine own_step (fun _ k => XS.iconst X14.here hx rfl (hb hby at_32) k) ?_
    show own_Fin p e below s _ _ _ (T14.setTop (mkF m 33 #[.val (.int p0), .val (.int (1 : Int32)), .val (.ref s_INTEGER), .val (.int (1 : Int32))] [(.int (1 : Int32))]))
    refine own_step (fun _ k => XS.goto X14.here hx rfl (pc0 := 33) (pc' := 37) rfl (hb hby at_33) (by decide) (by decide) k) ?_
    show own_Fin p e below s _ _ _ (T14.setTop (mkF m 37 #[.val (.int p0), .val (.int (1 : Int32)), .val (.ref s_INTEGER), .val (.int (1 : Int32))] [(.int (1 : Int32))]))
    exact own_ret X14 hlk (v := some (.int (1 : Int32))) (fun h => by rw [Bd.returns] at h; cases h) (by decide) (by decide) (by show own_Q21 Z p0 s_SMALLINT s_INTEGER s_BIGINT s_REAL s_DOUBLE s_CHAR s_VARCHAR s_TIMESTAMP s_POINT s_REGION h0 n0 _ T14.heap _; rw [e14]; exact ⟨rfl, N14⟩) (fun fs hr => retN X14 hx (t := .boolean) Bd.returns (by simp) (hb hby at_37) hr)
  · rw [hk3]
    show own_Fin p e below s _ _ _ (s₁.setTop (mkF m 8 #[.val (.int p0), .val (.int (2 : Int32)), .unset, .unset] []))
    refine own_step (fun _ k => XS.iloadN X0.here hx rfl (hb hby at_8) rfl k) ?_
    show own_Fin p e below s _ _ _ (s₁.setTop (mkF m 9 #[.val (.int p0), .val (.int (2 : Int32)), .unset, .unset] [(.int (2 : Int32))]))
    obtain ⟨_, _, ⟨T15, L15, k15, n15⟩, -, X15, ⟨Lc15, hQ15, l15, y15, z15⟩, st15⟩ := Jvm.LawKit.callS X0 hx (y := own_y0) hown (mvT hZ (own_w hw 1 rfl)) (mvT hZ (own_w hw 2 rfl)) (mvT hZ (own_w hw 3 rfl)) (mvT hZ (own_w hw 4 rfl)) (by decide) (backOf (W := 0) (own_rm3 l Z a0 hw [] s_BIGINT h0 n0 Z0 S_BIGINT) hZ (own_w hw 4 rfl) (own_w hw 3 rfl) (by decide) (by decide)) (g := (mkF m 9 #[.val (.int p0), .val (.int (2 : Int32)), .unset, .unset] [(.int (2 : Int32))])) rfl (by rw [hml]; rfl) (argsL := [(.int (2 : Int32))]) (rest := []) (lenOf own_pd0 rfl) rfl (by show 2 * 0 + _ ≤ _; exact Nat.le_of_eq rfl) (hb hby at_9) (fun _ _ => ⟨rfl, e0, (by decide : 0 + 0 ≤ _), (by decide : 0 + 0 ≤ _)⟩)
    dsimp only [Pt.U, Pt.locs, Pt.cells, Pt.slots] at X15 l15 y15 z15 st15 hQ15
    subst l15 y15 z15
    obtain ⟨rfl, N15q, e15⟩ := hQ15
    have N15 := Fr.app N0 N15q
    refine own_step (fun _ k => st15 _ k) ?_
    show own_Fin p e below s _ _ _ (T15.setTop (mkF m 12 #[.val (.int p0), .val (.int (2 : Int32)), .unset, .unset] [(.ref s_BIGINT)]))
    refine own_step (fun _ k => XS.astoreN X15.here hx rfl (hb hby at_12) rfl rfl (l' := #[.val (.int p0), .val (.int (2 : Int32)), .val (.ref s_BIGINT), .unset]) rfl k) ?_
    show own_Fin p e below s _ _ _ (T15.setTop (mkF m 13 #[.val (.int p0), .val (.int (2 : Int32)), .val (.ref s_BIGINT), .unset] []))
    refine own_step (fun _ k => XS.iloadN X15.here hx rfl (hb hby at_13) rfl k) ?_
    show own_Fin p e below s _ _ _ (T15.setTop (mkF m 14 #[.val (.int p0), .val (.int (2 : Int32)), .val (.ref s_BIGINT), .unset] [(.int (2 : Int32))]))
    refine own_step (fun _ k => XS.iconst X15.here hx rfl (hb hby at_14) k) ?_
    show own_Fin p e below s _ _ _ (T15.setTop (mkF m 15 #[.val (.int p0), .val (.int (2 : Int32)), .val (.ref s_BIGINT), .unset] [(.int (3 : Int32)), (.int (2 : Int32))]))
    refine own_step (fun _ k => XS.icmpNo X15.here hx rfl (hb hby at_15) rfl (tlt (by decide : (2 : Int32) < (3 : Int32))).2.1 k) ?_
    show own_Fin p e below s _ _ _ (T15.setTop (mkF m 18 #[.val (.int p0), .val (.int (2 : Int32)), .val (.ref s_BIGINT), .unset] []))
    refine own_step (fun _ k => XS.iconst X15.here hx rfl (hb hby at_18) k) ?_
    show own_Fin p e below s _ _ _ (T15.setTop (mkF m 19 #[.val (.int p0), .val (.int (2 : Int32)), .val (.ref s_BIGINT), .unset] [(.int (1 : Int32))]))
    refine own_step (fun _ k => XS.goto X15.here hx rfl (pc0 := 19) (pc' := 23) rfl (hb hby at_19) (by decide) (by decide) k) ?_
    show own_Fin p e below s _ _ _ (T15.setTop (mkF m 23 #[.val (.int p0), .val (.int (2 : Int32)), .val (.ref s_BIGINT), .unset] [(.int (1 : Int32))]))
    refine own_step (fun _ k => XS.istoreN X15.here hx rfl (hb hby at_23) rfl (l' := #[.val (.int p0), .val (.int (2 : Int32)), .val (.ref s_BIGINT), .val (.int (1 : Int32))]) rfl k) ?_
    show own_Fin p e below s _ _ _ (T15.setTop (mkF m 24 #[.val (.int p0), .val (.int (2 : Int32)), .val (.ref s_BIGINT), .val (.int (1 : Int32))] []))
    refine own_step (fun _ k => XS.aloadN X15.here hx rfl (hb hby at_24) rfl rfl k) ?_
    show own_Fin p e below s _ _ _ (T15.setTop (mkF m 25 #[.val (.int p0), .val (.int (2 : Int32)), .val (.ref s_BIGINT), .val (.int (1 : Int32))] [(.ref s_BIGINT)]))
    obtain ⟨cq16, kq16, q16a, q16b, q16c⟩ := isOf hZ e15 E_s_BIGINT
    obtain ⟨_, _, ⟨T16, L16, k16, n16⟩, -, X16, ⟨Lc16, hQ16, l16, y16, z16⟩, st16⟩ := X15.virtualBack hx (y := own_y1) (z := own_y1) hown (mvT hZ (own_w hw 8 rfl)) (mvT hZ (own_w hw 9 rfl)) (notFace_of_selects (args := #[]) (mvT hZ (own_w hw 11 rfl))) (mvT hZ (own_w hw 11 rfl)) (mvT hZ (own_w hw 10 rfl)) (by decide) (backOf (W := 0) (own_rm13 l Z a0 hw [] s_BIGINT s_SMALLINT s_INTEGER h0 n0 Z0 S_SMALLINT ne_s_BIGINT_s_SMALLINT S_INTEGER ne_s_BIGINT_s_INTEGER S_BIGINT) hZ (own_w hw 12 rfl) (own_w hw 6 rfl) (by decide) (by decide)) q16a q16c (g := (mkF m 25 #[.val (.int p0), .val (.int (2 : Int32)), .val (.ref s_BIGINT), .val (.int (1 : Int32))] [(.ref s_BIGINT)])) rfl (by rw [hml]; rfl) (Steps.refl _) (argsL := []) (rest := []) (lenOf own_pd1 rfl) rfl (by show 2 * 0 + _ ≤ _; exact Nat.le_of_eq rfl) (hb hby at_25) (fun _ _ => ⟨rfl, e15, (by decide : 0 + 0 ≤ _), (by decide : 0 + 0 ≤ _)⟩)
    dsimp only [Pt.U, Pt.locs, Pt.cells, Pt.slots] at X16 l16 y16 z16 st16 hQ16
    subst l16 y16 z16
    obtain ⟨rfl, N16q, e16⟩ := hQ16
    have N16 := Fr.app N15 N16q
    refine own_step (fun _ k => st16.trans k) ?_
    show own_Fin p e below s _ _ _ (T16.setTop (mkF m 28 #[.val (.int p0), .val (.int (2 : Int32)), .val (.ref s_BIGINT), .val (.int (1 : Int32))] [(.int (1 : Int32))]))
    refine own_step (fun _ k => XS.iloadN X16.here hx rfl (hb hby at_28) rfl k) ?_
    show own_Fin p e below s _ _ _ (T16.setTop (mkF m 29 #[.val (.int p0), .val (.int (2 : Int32)), .val (.ref s_BIGINT), .val (.int (1 : Int32))] [(.int (1 : Int32)), (.int (1 : Int32))]))
    refine own_step (fun _ k => XS.icmpNo X16.here hx rfl (hb hby at_29) rfl (teq (by decide : (1 : Int32) = (1 : Int32))).2 k) ?_
    show own_Fin p e below s _ _ _ (T16.setTop (mkF m 32 #[.val (.int p0), .val (.int (2 : Int32)), .val (.ref s_BIGINT), .val (.int (1 : Int32))] []))
    refine own_step (fun _ k => XS.iconst X16.here hx rfl (hb hby at_32) k) ?_
    show own_Fin p e below s _ _ _ (T16.setTop (mkF m 33 #[.val (.int p0), .val (.int (2 : Int32)), .val (.ref s_BIGINT), .val (.int (1 : Int32))] [(.int (1 : Int32))]))
    refine own_step (fun _ k => XS.goto X16.here hx rfl (pc0 := 33) (pc' := 37) rfl (hb hby at_33) (by decide) (by decide) k) ?_
    show own_Fin p e below s _ _ _ (T16.setTop (mkF m 37 #[.val (.int p0), .val (.int (2 : Int32)), .val (.ref s_BIGINT), .val (.int (1 : Int32))] [(.int (1 : Int32))]))
    exact own_ret X16 hlk (v := some (.int (1 : Int32))) (fun h => by rw [Bd.returns] at h; cases h) (by decide) (by decide) (by show own_Q21 Z p0 s_SMALLINT s_INTEGER s_BIGINT s_REAL s_DOUBLE s_CHAR s_VARCHAR s_TIMESTAMP s_POINT s_REGION h0 n0 _ T16.heap _; rw [e16]; exact ⟨rfl, N16⟩) (fun fs hr => retN X16 hx (t := .boolean) Bd.returns (by simp) (hb hby at_37) hr)
  · rw [hk4]
    show own_Fin p e below s _ _ _ (s₁.setTop (mkF m 8 #[.val (.int p0), .val (.int (3 : Int32)), .unset, .unset] []))
    refine own_step (fun _ k => XS.iloadN X0.here hx rfl (hb hby at_8) rfl k) ?_
    show own_Fin p e below s _ _ _ (s₁.setTop (mkF m 9 #[.val (.int p0), .val (.int (3 : Int32)), .unset, .unset] [(.int (3 : Int32))]))
    obtain ⟨_, _, ⟨T17, L17, k17, n17⟩, -, X17, ⟨Lc17, hQ17, l17, y17, z17⟩, st17⟩ := Jvm.LawKit.callS X0 hx (y := own_y0) hown (mvT hZ (own_w hw 1 rfl)) (mvT hZ (own_w hw 2 rfl)) (mvT hZ (own_w hw 3 rfl)) (mvT hZ (own_w hw 4 rfl)) (by decide) (backOf (W := 0) (own_rm4 l Z a0 hw [] s_REAL h0 n0 Z0 S_REAL) hZ (own_w hw 4 rfl) (own_w hw 3 rfl) (by decide) (by decide)) (g := (mkF m 9 #[.val (.int p0), .val (.int (3 : Int32)), .unset, .unset] [(.int (3 : Int32))])) rfl (by rw [hml]; rfl) (argsL := [(.int (3 : Int32))]) (rest := []) (lenOf own_pd0 rfl) rfl (by show 2 * 0 + _ ≤ _; exact Nat.le_of_eq rfl) (hb hby at_9) (fun _ _ => ⟨rfl, e0, (by decide : 0 + 0 ≤ _), (by decide : 0 + 0 ≤ _)⟩)
    dsimp only [Pt.U, Pt.locs, Pt.cells, Pt.slots] at X17 l17 y17 z17 st17 hQ17
    subst l17 y17 z17
    obtain ⟨rfl, N17q, e17⟩ := hQ17
    have N17 := Fr.app N0 N17q
    refine own_step (fun _ k => st17 _ k) ?_
    show own_Fin p e below s _ _ _ (T17.setTop (mkF m 12 #[.val (.int p0), .val (.int (3 : Int32)), .unset, .unset] [(.ref s_REAL)]))
    refine own_step (fun _ k => XS.astoreN X17.here hx rfl (hb hby at_12) rfl rfl (l' := #[.val (.int p0), .val (.int (3 : Int32)), .val (.ref s_REAL), .unset]) rfl k) ?_
    show own_Fin p e below s _ _ _ (T17.setTop (mkF m 13 #[.val (.int p0), .val (.int (3 : Int32)), .val (.ref s_REAL), .unset] []))
    refine own_step (fun _ k => XS.iloadN X17.here hx rfl (hb hby at_13) rfl k) ?_
    show own_Fin p e below s _ _ _ (T17.setTop (mkF m 14 #[.val (.int p0), .val (.int (3 : Int32)), .val (.ref s_REAL), .unset] [(.int (3 : Int32))]))
    refine own_step (fun _ k => XS.iconst X17.here hx rfl (hb hby at_14) k) ?_
    show own_Fin p e below s _ _ _ (T17.setTop (mkF m 15 #[.val (.int p0), .val (.int (3 : Int32)), .val (.ref s_REAL), .unset] [(.int (3 : Int32)), (.int (3 : Int32))]))
    refine own_step (fun _ k => XS.icmpYes X17.here hx rfl (pc0 := 15) (pc' := 22) rfl (hb hby at_15) rfl (flt (by decide : ¬ ((3 : Int32) < (3 : Int32)))).2.1 (by decide) (by decide) k) ?_
    show own_Fin p e below s _ _ _ (T17.setTop (mkF m 22 #[.val (.int p0), .val (.int (3 : Int32)), .val (.ref s_REAL), .unset] []))
    refine own_step (fun _ k => XS.iconst X17.here hx rfl (hb hby at_22) k) ?_
    show own_Fin p e below s _ _ _ (T17.setTop (mkF m 23 #[.val (.int p0), .val (.int (3 : Int32)), .val (.ref s_REAL), .unset] [(.int (0 : Int32))]))
    refine own_step (fun _ k => XS.istoreN X17.here hx rfl (hb hby at_23) rfl (l' := #[.val (.int p0), .val (.int (3 : Int32)), .val (.ref s_REAL), .val (.int (0 : Int32))]) rfl k) ?_
    show own_Fin p e below s _ _ _ (T17.setTop (mkF m 24 #[.val (.int p0), .val (.int (3 : Int32)), .val (.ref s_REAL), .val (.int (0 : Int32))] []))
    refine own_step (fun _ k => XS.aloadN X17.here hx rfl (hb hby at_24) rfl rfl k) ?_
    show own_Fin p e below s _ _ _ (T17.setTop (mkF m 25 #[.val (.int p0), .val (.int (3 : Int32)), .val (.ref s_REAL), .val (.int (0 : Int32))] [(.ref s_REAL)]))
    obtain ⟨cq18, kq18, q18a, q18b, q18c⟩ := isOf hZ e17 E_s_REAL
    obtain ⟨_, _, ⟨T18, L18, k18, n18⟩, -, X18, ⟨Lc18, hQ18, l18, y18, z18⟩, st18⟩ := X17.virtualBack hx (y := own_y1) (z := own_y1) hown (mvT hZ (own_w hw 8 rfl)) (mvT hZ (own_w hw 9 rfl)) (notFace_of_selects (args := #[]) (mvT hZ (own_w hw 11 rfl))) (mvT hZ (own_w hw 11 rfl)) (mvT hZ (own_w hw 10 rfl)) (by decide) (backOf (W := 0) (own_rm14 l Z a0 hw [] s_REAL s_SMALLINT s_INTEGER s_BIGINT h0 n0 Z0 S_SMALLINT ne_s_REAL_s_SMALLINT S_INTEGER ne_s_REAL_s_INTEGER S_BIGINT ne_s_REAL_s_BIGINT) hZ (own_w hw 12 rfl) (own_w hw 6 rfl) (by decide) (by decide)) q18a q18c (g := (mkF m 25 #[.val (.int p0), .val (.int (3 : Int32)), .val (.ref s_REAL), .val (.int (0 : Int32))] [(.ref s_REAL)])) rfl (by rw [hml]; rfl) (Steps.refl _) (argsL := []) (rest := []) (lenOf own_pd1 rfl) rfl (by show 2 * 0 + _ ≤ _; exact Nat.le_of_eq rfl) (hb hby at_25) (fun _ _ => ⟨rfl, e17, (by decide : 0 + 0 ≤ _), (by decide : 0 + 0 ≤ _)⟩)
    dsimp only [Pt.U, Pt.locs, Pt.cells, Pt.slots] at X18 l18 y18 z18 st18 hQ18
    subst l18 y18 z18
    obtain ⟨rfl, N18q, e18⟩ := hQ18
    have N18 := Fr.app N17 N18q
    refine own_step (fun _ k => st18.trans k) ?_
    show own_Fin p e below s _ _ _ (T18.setTop (mkF m 28 #[.val (.int p0), .val (.int (3 : Int32)), .val (.ref s_REAL), .val (.int (0 : Int32))] [(.int (0 : Int32))]))
    refine own_step (fun _ k => XS.iloadN X18.here hx rfl (hb hby at_28) rfl k) ?_
    show own_Fin p e below s _ _ _ (T18.setTop (mkF m 29 #[.val (.int p0), .val (.int (3 : Int32)), .val (.ref s_REAL), .val (.int (0 : Int32))] [(.int (0 : Int32)), (.int (0 : Int32))]))
    refine own_step (fun _ k => XS.icmpNo X18.here hx rfl (hb hby at_29) rfl (teq (by decide : (0 : Int32) = (0 : Int32))).2 k) ?_
    show own_Fin p e below s _ _ _ (T18.setTop (mkF m 32 #[.val (.int p0), .val (.int (3 : Int32)), .val (.ref s_REAL), .val (.int (0 : Int32))] []))
    refine own_step (fun _ k => XS.iconst X18.here hx rfl (hb hby at_32) k) ?_
    show own_Fin p e below s _ _ _ (T18.setTop (mkF m 33 #[.val (.int p0), .val (.int (3 : Int32)), .val (.ref s_REAL), .val (.int (0 : Int32))] [(.int (1 : Int32))]))
    refine own_step (fun _ k => XS.goto X18.here hx rfl (pc0 := 33) (pc' := 37) rfl (hb hby at_33) (by decide) (by decide) k) ?_
    show own_Fin p e below s _ _ _ (T18.setTop (mkF m 37 #[.val (.int p0), .val (.int (3 : Int32)), .val (.ref s_REAL), .val (.int (0 : Int32))] [(.int (1 : Int32))]))
    exact own_ret X18 hlk (v := some (.int (1 : Int32))) (fun h => by rw [Bd.returns] at h; cases h) (by decide) (by decide) (by show own_Q21 Z p0 s_SMALLINT s_INTEGER s_BIGINT s_REAL s_DOUBLE s_CHAR s_VARCHAR s_TIMESTAMP s_POINT s_REGION h0 n0 _ T18.heap _; rw [e18]; exact ⟨rfl, N18⟩) (fun fs hr => retN X18 hx (t := .boolean) Bd.returns (by simp) (hb hby at_37) hr)
  · rw [hk5]
    show own_Fin p e below s _ _ _ (s₁.setTop (mkF m 8 #[.val (.int p0), .val (.int (4 : Int32)), .unset, .unset] []))
    refine own_step (fun _ k => XS.iloadN X0.here hx rfl (hb hby at_8) rfl k) ?_
    show own_Fin p e below s _ _ _ (s₁.setTop (mkF m 9 #[.val (.int p0), .val (.int (4 : Int32)), .unset, .unset] [(.int (4 : Int32))]))
    obtain ⟨_, _, ⟨T19, L19, k19, n19⟩, -, X19, ⟨Lc19, hQ19, l19, y19, z19⟩, st19⟩ := Jvm.LawKit.callS X0 hx (y := own_y0) hown (mvT hZ (own_w hw 1 rfl)) (mvT hZ (own_w hw 2 rfl)) (mvT hZ (own_w hw 3 rfl)) (mvT hZ (own_w hw 4 rfl)) (by decide) (backOf (W := 0) (own_rm5 l Z a0 hw [] s_DOUBLE h0 n0 Z0 S_DOUBLE) hZ (own_w hw 4 rfl) (own_w hw 3 rfl) (by decide) (by decide)) (g := (mkF m 9 #[.val (.int p0), .val (.int (4 : Int32)), .unset, .unset] [(.int (4 : Int32))])) rfl (by rw [hml]; rfl) (argsL := [(.int (4 : Int32))]) (rest := []) (lenOf own_pd0 rfl) rfl (by show 2 * 0 + _ ≤ _; exact Nat.le_of_eq rfl) (hb hby at_9) (fun _ _ => ⟨rfl, e0, (by decide : 0 + 0 ≤ _), (by decide : 0 + 0 ≤ _)⟩)
    dsimp only [Pt.U, Pt.locs, Pt.cells, Pt.slots] at X19 l19 y19 z19 st19 hQ19
    subst l19 y19 z19
    obtain ⟨rfl, N19q, e19⟩ := hQ19
    have N19 := Fr.app N0 N19q
    refine own_step (fun _ k => st19 _ k) ?_
    show own_Fin p e below s _ _ _ (T19.setTop (mkF m 12 #[.val (.int p0), .val (.int (4 : Int32)), .unset, .unset] [(.ref s_DOUBLE)]))
    refine own_step (fun _ k => XS.astoreN X19.here hx rfl (hb hby at_12) rfl rfl (l' := #[.val (.int p0), .val (.int (4 : Int32)), .val (.ref s_DOUBLE), .unset]) rfl k) ?_
    show own_Fin p e below s _ _ _ (T19.setTop (mkF m 13 #[.val (.int p0), .val (.int (4 : Int32)), .val (.ref s_DOUBLE), .unset] []))
    refine own_step (fun _ k => XS.iloadN X19.here hx rfl (hb hby at_13) rfl k) ?_
    show own_Fin p e below s _ _ _ (T19.setTop (mkF m 14 #[.val (.int p0), .val (.int (4 : Int32)), .val (.ref s_DOUBLE), .unset] [(.int (4 : Int32))]))
    refine own_step (fun _ k => XS.iconst X19.here hx rfl (hb hby at_14) k) ?_
    show own_Fin p e below s _ _ _ (T19.setTop (mkF m 15 #[.val (.int p0), .val (.int (4 : Int32)), .val (.ref s_DOUBLE), .unset] [(.int (3 : Int32)), (.int (4 : Int32))]))
    refine own_step (fun _ k => XS.icmpYes X19.here hx rfl (pc0 := 15) (pc' := 22) rfl (hb hby at_15) rfl (flt (by decide : ¬ ((4 : Int32) < (3 : Int32)))).2.1 (by decide) (by decide) k) ?_
    show own_Fin p e below s _ _ _ (T19.setTop (mkF m 22 #[.val (.int p0), .val (.int (4 : Int32)), .val (.ref s_DOUBLE), .unset] []))
    refine own_step (fun _ k => XS.iconst X19.here hx rfl (hb hby at_22) k) ?_
    show own_Fin p e below s _ _ _ (T19.setTop (mkF m 23 #[.val (.int p0), .val (.int (4 : Int32)), .val (.ref s_DOUBLE), .unset] [(.int (0 : Int32))]))
    refine own_step (fun _ k => XS.istoreN X19.here hx rfl (hb hby at_23) rfl (l' := #[.val (.int p0), .val (.int (4 : Int32)), .val (.ref s_DOUBLE), .val (.int (0 : Int32))]) rfl k) ?_
    show own_Fin p e below s _ _ _ (T19.setTop (mkF m 24 #[.val (.int p0), .val (.int (4 : Int32)), .val (.ref s_DOUBLE), .val (.int (0 : Int32))] []))
    refine own_step (fun _ k => XS.aloadN X19.here hx rfl (hb hby at_24) rfl rfl k) ?_
    show own_Fin p e below s _ _ _ (T19.setTop (mkF m 25 #[.val (.int p0), .val (.int (4 : Int32)), .val (.ref s_DOUBLE), .val (.int (0 : Int32))] [(.ref s_DOUBLE)]))
    obtain ⟨cq20, kq20, q20a, q20b, q20c⟩ := isOf hZ e19 E_s_DOUBLE
    obtain ⟨_, _, ⟨T20, L20, k20, n20⟩, -, X20, ⟨Lc20, hQ20, l20, y20, z20⟩, st20⟩ := X19.virtualBack hx (y := own_y1) (z := own_y1) hown (mvT hZ (own_w hw 8 rfl)) (mvT hZ (own_w hw 9 rfl)) (notFace_of_selects (args := #[]) (mvT hZ (own_w hw 11 rfl))) (mvT hZ (own_w hw 11 rfl)) (mvT hZ (own_w hw 10 rfl)) (by decide) (backOf (W := 0) (own_rm15 l Z a0 hw [] s_DOUBLE s_SMALLINT s_INTEGER s_BIGINT h0 n0 Z0 S_SMALLINT ne_s_DOUBLE_s_SMALLINT S_INTEGER ne_s_DOUBLE_s_INTEGER S_BIGINT ne_s_DOUBLE_s_BIGINT) hZ (own_w hw 12 rfl) (own_w hw 6 rfl) (by decide) (by decide)) q20a q20c (g := (mkF m 25 #[.val (.int p0), .val (.int (4 : Int32)), .val (.ref s_DOUBLE), .val (.int (0 : Int32))] [(.ref s_DOUBLE)])) rfl (by rw [hml]; rfl) (Steps.refl _) (argsL := []) (rest := []) (lenOf own_pd1 rfl) rfl (by show 2 * 0 + _ ≤ _; exact Nat.le_of_eq rfl) (hb hby at_25) (fun _ _ => ⟨rfl, e19, (by decide : 0 + 0 ≤ _), (by decide : 0 + 0 ≤ _)⟩)
    dsimp only [Pt.U, Pt.locs, Pt.cells, Pt.slots] at X20 l20 y20 z20 st20 hQ20
    subst l20 y20 z20
    obtain ⟨rfl, N20q, e20⟩ := hQ20
    have N20 := Fr.app N19 N20q
    refine own_step (fun _ k => st20.trans k) ?_
    show own_Fin p e below s _ _ _ (T20.setTop (mkF m 28 #[.val (.int p0), .val (.int (4 : Int32)), .val (.ref s_DOUBLE), .val (.int (0 : Int32))] [(.int (0 : Int32))]))
    refine own_step (fun _ k => XS.iloadN X20.here hx rfl (hb hby at_28) rfl k) ?_
    show own_Fin p e below s _ _ _ (T20.setTop (mkF m 29 #[.val (.int p0), .val (.int (4 : Int32)), .val (.ref s_DOUBLE), .val (.int (0 : Int32))] [(.int (0 : Int32)), (.int (0 : Int32))]))
    refine own_step (fun _ k => XS.icmpNo X20.here hx rfl (hb hby at_29) rfl (teq (by decide : (0 : Int32) = (0 : Int32))).2 k) ?_
    show own_Fin p e below s _ _ _ (T20.setTop (mkF m 32 #[.val (.int p0), .val (.int (4 : Int32)), .val (.ref s_DOUBLE), .val (.int (0 : Int32))] []))
    refine own_step (fun _ k => XS.iconst X20.here hx rfl (hb hby at_32) k) ?_
    show own_Fin p e below s _ _ _ (T20.setTop (mkF m 33 #[.val (.int p0), .val (.int (4 : Int32)), .val (.ref s_DOUBLE), .val (.int (0 : Int32))] [(.int (1 : Int32))]))
    refine own_step (fun _ k => XS.goto X20.here hx rfl (pc0 := 33) (pc' := 37) rfl (hb hby at_33) (by decide) (by decide) k) ?_
    show own_Fin p e below s _ _ _ (T20.setTop (mkF m 37 #[.val (.int p0), .val (.int (4 : Int32)), .val (.ref s_DOUBLE), .val (.int (0 : Int32))] [(.int (1 : Int32))]))
    exact own_ret X20 hlk (v := some (.int (1 : Int32))) (fun h => by rw [Bd.returns] at h; cases h) (by decide) (by decide) (by show own_Q21 Z p0 s_SMALLINT s_INTEGER s_BIGINT s_REAL s_DOUBLE s_CHAR s_VARCHAR s_TIMESTAMP s_POINT s_REGION h0 n0 _ T20.heap _; rw [e20]; exact ⟨rfl, N20⟩) (fun fs hr => retN X20 hx (t := .boolean) Bd.returns (by simp) (hb hby at_37) hr)
  · rw [hk6]
    show own_Fin p e below s _ _ _ (s₁.setTop (mkF m 8 #[.val (.int p0), .val (.int (5 : Int32)), .unset, .unset] []))
    refine own_step (fun _ k => XS.iloadN X0.here hx rfl (hb hby at_8) rfl k) ?_
    show own_Fin p e below s _ _ _ (s₁.setTop (mkF m 9 #[.val (.int p0), .val (.int (5 : Int32)), .unset, .unset] [(.int (5 : Int32))]))
    obtain ⟨_, _, ⟨T21, L21, k21, n21⟩, -, X21, ⟨Lc21, hQ21, l21, y21, z21⟩, st21⟩ := Jvm.LawKit.callS X0 hx (y := own_y0) hown (mvT hZ (own_w hw 1 rfl)) (mvT hZ (own_w hw 2 rfl)) (mvT hZ (own_w hw 3 rfl)) (mvT hZ (own_w hw 4 rfl)) (by decide) (backOf (W := 0) (own_rm6 l Z a0 hw [] s_CHAR h0 n0 Z0 S_CHAR) hZ (own_w hw 4 rfl) (own_w hw 3 rfl) (by decide) (by decide)) (g := (mkF m 9 #[.val (.int p0), .val (.int (5 : Int32)), .unset, .unset] [(.int (5 : Int32))])) rfl (by rw [hml]; rfl) (argsL := [(.int (5 : Int32))]) (rest := []) (lenOf own_pd0 rfl) rfl (by show 2 * 0 + _ ≤ _; exact Nat.le_of_eq rfl) (hb hby at_9) (fun _ _ => ⟨rfl, e0, (by decide : 0 + 0 ≤ _), (by decide : 0 + 0 ≤ _)⟩)
    dsimp only [Pt.U, Pt.locs, Pt.cells, Pt.slots] at X21 l21 y21 z21 st21 hQ21
    subst l21 y21 z21
    obtain ⟨rfl, N21q, e21⟩ := hQ21
    have N21 := Fr.app N0 N21q
    refine own_step (fun _ k => st21 _ k) ?_
    show own_Fin p e below s _ _ _ (T21.setTop (mkF m 12 #[.val (.int p0), .val (.int (5 : Int32)), .unset, .unset] [(.ref s_CHAR)]))
    refine own_step (fun _ k => XS.astoreN X21.here hx rfl (hb hby at_12) rfl rfl (l' := #[.val (.int p0), .val (.int (5 : Int32)), .val (.ref s_CHAR), .unset]) rfl k) ?_
    show own_Fin p e below s _ _ _ (T21.setTop (mkF m 13 #[.val (.int p0), .val (.int (5 : Int32)), .val (.ref s_CHAR), .unset] []))
    refine own_step (fun _ k => XS.iloadN X21.here hx rfl (hb hby at_13) rfl k) ?_
    show own_Fin p e below s _ _ _ (T21.setTop (mkF m 14 #[.val (.int p0), .val (.int (5 : Int32)), .val (.ref s_CHAR), .unset] [(.int (5 : Int32))]))
    refine own_step (fun _ k => XS.iconst X21.here hx rfl (hb hby at_14) k) ?_
    show own_Fin p e below s _ _ _ (T21.setTop (mkF m 15 #[.val (.int p0), .val (.int (5 : Int32)), .val (.ref s_CHAR), .unset] [(.int (3 : Int32)), (.int (5 : Int32))]))
    refine own_step (fun _ k => XS.icmpYes X21.here hx rfl (pc0 := 15) (pc' := 22) rfl (hb hby at_15) rfl (flt (by decide : ¬ ((5 : Int32) < (3 : Int32)))).2.1 (by decide) (by decide) k) ?_
    show own_Fin p e below s _ _ _ (T21.setTop (mkF m 22 #[.val (.int p0), .val (.int (5 : Int32)), .val (.ref s_CHAR), .unset] []))
    refine own_step (fun _ k => XS.iconst X21.here hx rfl (hb hby at_22) k) ?_
    show own_Fin p e below s _ _ _ (T21.setTop (mkF m 23 #[.val (.int p0), .val (.int (5 : Int32)), .val (.ref s_CHAR), .unset] [(.int (0 : Int32))]))
    refine own_step (fun _ k => XS.istoreN X21.here hx rfl (hb hby at_23) rfl (l' := #[.val (.int p0), .val (.int (5 : Int32)), .val (.ref s_CHAR), .val (.int (0 : Int32))]) rfl k) ?_
    show own_Fin p e below s _ _ _ (T21.setTop (mkF m 24 #[.val (.int p0), .val (.int (5 : Int32)), .val (.ref s_CHAR), .val (.int (0 : Int32))] []))
    refine own_step (fun _ k => XS.aloadN X21.here hx rfl (hb hby at_24) rfl rfl k) ?_
    show own_Fin p e below s _ _ _ (T21.setTop (mkF m 25 #[.val (.int p0), .val (.int (5 : Int32)), .val (.ref s_CHAR), .val (.int (0 : Int32))] [(.ref s_CHAR)]))
    obtain ⟨cq22, kq22, q22a, q22b, q22c⟩ := isOf hZ e21 E_s_CHAR
    obtain ⟨_, _, ⟨T22, L22, k22, n22⟩, -, X22, ⟨Lc22, hQ22, l22, y22, z22⟩, st22⟩ := X21.virtualBack hx (y := own_y1) (z := own_y1) hown (mvT hZ (own_w hw 8 rfl)) (mvT hZ (own_w hw 9 rfl)) (notFace_of_selects (args := #[]) (mvT hZ (own_w hw 11 rfl))) (mvT hZ (own_w hw 11 rfl)) (mvT hZ (own_w hw 10 rfl)) (by decide) (backOf (W := 0) (own_rm16 l Z a0 hw [] s_CHAR s_SMALLINT s_INTEGER s_BIGINT h0 n0 Z0 S_SMALLINT ne_s_CHAR_s_SMALLINT S_INTEGER ne_s_CHAR_s_INTEGER S_BIGINT ne_s_CHAR_s_BIGINT) hZ (own_w hw 12 rfl) (own_w hw 6 rfl) (by decide) (by decide)) q22a q22c (g := (mkF m 25 #[.val (.int p0), .val (.int (5 : Int32)), .val (.ref s_CHAR), .val (.int (0 : Int32))] [(.ref s_CHAR)])) rfl (by rw [hml]; rfl) (Steps.refl _) (argsL := []) (rest := []) (lenOf own_pd1 rfl) rfl (by show 2 * 0 + _ ≤ _; exact Nat.le_of_eq rfl) (hb hby at_25) (fun _ _ => ⟨rfl, e21, (by decide : 0 + 0 ≤ _), (by decide : 0 + 0 ≤ _)⟩)
    dsimp only [Pt.U, Pt.locs, Pt.cells, Pt.slots] at X22 l22 y22 z22 st22 hQ22
    subst l22 y22 z22
    obtain ⟨rfl, N22q, e22⟩ := hQ22
    have N22 := Fr.app N21 N22q
    refine own_step (fun _ k => st22.trans k) ?_
    show own_Fin p e below s _ _ _ (T22.setTop (mkF m 28 #[.val (.int p0), .val (.int (5 : Int32)), .val (.ref s_CHAR), .val (.int (0 : Int32))] [(.int (0 : Int32))]))
    refine own_step (fun _ k => XS.iloadN X22.here hx rfl (hb hby at_28) rfl k) ?_
    show own_Fin p e below s _ _ _ (T22.setTop (mkF m 29 #[.val (.int p0), .val (.int (5 : Int32)), .val (.ref s_CHAR), .val (.int (0 : Int32))] [(.int (0 : Int32)), (.int (0 : Int32))]))
    refine own_step (fun _ k => XS.icmpNo X22.here hx rfl (hb hby at_29) rfl (teq (by decide : (0 : Int32) = (0 : Int32))).2 k) ?_
    show own_Fin p e below s _ _ _ (T22.setTop (mkF m 32 #[.val (.int p0), .val (.int (5 : Int32)), .val (.ref s_CHAR), .val (.int (0 : Int32))] []))
    refine own_step (fun _ k => XS.iconst X22.here hx rfl (hb hby at_32) k) ?_
    show own_Fin p e below s _ _ _ (T22.setTop (mkF m 33 #[.val (.int p0), .val (.int (5 : Int32)), .val (.ref s_CHAR), .val (.int (0 : Int32))] [(.int (1 : Int32))]))
    refine own_step (fun _ k => XS.goto X22.here hx rfl (pc0 := 33) (pc' := 37) rfl (hb hby at_33) (by decide) (by decide) k) ?_
    show own_Fin p e below s _ _ _ (T22.setTop (mkF m 37 #[.val (.int p0), .val (.int (5 : Int32)), .val (.ref s_CHAR), .val (.int (0 : Int32))] [(.int (1 : Int32))]))
    exact own_ret X22 hlk (v := some (.int (1 : Int32))) (fun h => by rw [Bd.returns] at h; cases h) (by decide) (by decide) (by show own_Q21 Z p0 s_SMALLINT s_INTEGER s_BIGINT s_REAL s_DOUBLE s_CHAR s_VARCHAR s_TIMESTAMP s_POINT s_REGION h0 n0 _ T22.heap _; rw [e22]; exact ⟨rfl, N22⟩) (fun fs hr => retN X22 hx (t := .boolean) Bd.returns (by simp) (hb hby at_37) hr)
  · rw [hk7]
    show own_Fin p e below s _ _ _ (s₁.setTop (mkF m 8 #[.val (.int p0), .val (.int (6 : Int32)), .unset, .unset] []))
    refine own_step (fun _ k => XS.iloadN X0.here hx rfl (hb hby at_8) rfl k) ?_
    show own_Fin p e below s _ _ _ (s₁.setTop (mkF m 9 #[.val (.int p0), .val (.int (6 : Int32)), .unset, .unset] [(.int (6 : Int32))]))
    obtain ⟨_, _, ⟨T23, L23, k23, n23⟩, -, X23, ⟨Lc23, hQ23, l23, y23, z23⟩, st23⟩ := Jvm.LawKit.callS X0 hx (y := own_y0) hown (mvT hZ (own_w hw 1 rfl)) (mvT hZ (own_w hw 2 rfl)) (mvT hZ (own_w hw 3 rfl)) (mvT hZ (own_w hw 4 rfl)) (by decide) (backOf (W := 0) (own_rm7 l Z a0 hw [] s_VARCHAR h0 n0 Z0 S_VARCHAR) hZ (own_w hw 4 rfl) (own_w hw 3 rfl) (by decide) (by decide)) (g := (mkF m 9 #[.val (.int p0), .val (.int (6 : Int32)), .unset, .unset] [(.int (6 : Int32))])) rfl (by rw [hml]; rfl) (argsL := [(.int (6 : Int32))]) (rest := []) (lenOf own_pd0 rfl) rfl (by show 2 * 0 + _ ≤ _; exact Nat.le_of_eq rfl) (hb hby at_9) (fun _ _ => ⟨rfl, e0, (by decide : 0 + 0 ≤ _), (by decide : 0 + 0 ≤ _)⟩)
    dsimp only [Pt.U, Pt.locs, Pt.cells, Pt.slots] at X23 l23 y23 z23 st23 hQ23
    subst l23 y23 z23
    obtain ⟨rfl, N23q, e23⟩ := hQ23
    have N23 := Fr.app N0 N23q
    refine own_step (fun _ k => st23 _ k) ?_
    show own_Fin p e below s _ _ _ (T23.setTop (mkF m 12 #[.val (.int p0), .val (.int (6 : Int32)), .unset, .unset] [(.ref s_VARCHAR)]))
    refine own_step (fun _ k => XS.astoreN X23.here hx rfl (hb hby at_12) rfl rfl (l' := #[.val (.int p0), .val (.int (6 : Int32)), .val (.ref s_VARCHAR), .unset]) rfl k) ?_
    show own_Fin p e below s _ _ _ (T23.setTop (mkF m 13 #[.val (.int p0), .val (.int (6 : Int32)), .val (.ref s_VARCHAR), .unset] []))
    refine own_step (fun _ k => XS.iloadN X23.here hx rfl (hb hby at_13) rfl k) ?_
    show own_Fin p e below s _ _ _ (T23.setTop (mkF m 14 #[.val (.int p0), .val (.int (6 : Int32)), .val (.ref s_VARCHAR), .unset] [(.int (6 : Int32))]))
    refine own_step (fun _ k => XS.iconst X23.here hx rfl (hb hby at_14) k) ?_
    show own_Fin p e below s _ _ _ (T23.setTop (mkF m 15 #[.val (.int p0), .val (.int (6 : Int32)), .val (.ref s_VARCHAR), .unset] [(.int (3 : Int32)), (.int (6 : Int32))]))
    refine own_step (fun _ k => XS.icmpYes X23.here hx rfl (pc0 := 15) (pc' := 22) rfl (hb hby at_15) rfl (flt (by decide : ¬ ((6 : Int32) < (3 : Int32)))).2.1 (by decide) (by decide) k) ?_
    show own_Fin p e below s _ _ _ (T23.setTop (mkF m 22 #[.val (.int p0), .val (.int (6 : Int32)), .val (.ref s_VARCHAR), .unset] []))
    refine own_step (fun _ k => XS.iconst X23.here hx rfl (hb hby at_22) k) ?_
    show own_Fin p e below s _ _ _ (T23.setTop (mkF m 23 #[.val (.int p0), .val (.int (6 : Int32)), .val (.ref s_VARCHAR), .unset] [(.int (0 : Int32))]))
    refine own_step (fun _ k => XS.istoreN X23.here hx rfl (hb hby at_23) rfl (l' := #[.val (.int p0), .val (.int (6 : Int32)), .val (.ref s_VARCHAR), .val (.int (0 : Int32))]) rfl k) ?_
    show own_Fin p e below s _ _ _ (T23.setTop (mkF m 24 #[.val (.int p0), .val (.int (6 : Int32)), .val (.ref s_VARCHAR), .val (.int (0 : Int32))] []))
    refine own_step (fun _ k => XS.aloadN X23.here hx rfl (hb hby at_24) rfl rfl k) ?_
    show own_Fin p e below s _ _ _ (T23.setTop (mkF m 25 #[.val (.int p0), .val (.int (6 : Int32)), .val (.ref s_VARCHAR), .val (.int (0 : Int32))] [(.ref s_VARCHAR)]))
    obtain ⟨cq24, kq24, q24a, q24b, q24c⟩ := isOf hZ e23 E_s_VARCHAR
    obtain ⟨_, _, ⟨T24, L24, k24, n24⟩, -, X24, ⟨Lc24, hQ24, l24, y24, z24⟩, st24⟩ := X23.virtualBack hx (y := own_y1) (z := own_y1) hown (mvT hZ (own_w hw 8 rfl)) (mvT hZ (own_w hw 9 rfl)) (notFace_of_selects (args := #[]) (mvT hZ (own_w hw 11 rfl))) (mvT hZ (own_w hw 11 rfl)) (mvT hZ (own_w hw 10 rfl)) (by decide) (backOf (W := 0) (own_rm17 l Z a0 hw [] s_VARCHAR s_SMALLINT s_INTEGER s_BIGINT h0 n0 Z0 S_SMALLINT ne_s_VARCHAR_s_SMALLINT S_INTEGER ne_s_VARCHAR_s_INTEGER S_BIGINT ne_s_VARCHAR_s_BIGINT) hZ (own_w hw 12 rfl) (own_w hw 6 rfl) (by decide) (by decide)) q24a q24c (g := (mkF m 25 #[.val (.int p0), .val (.int (6 : Int32)), .val (.ref s_VARCHAR), .val (.int (0 : Int32))] [(.ref s_VARCHAR)])) rfl (by rw [hml]; rfl) (Steps.refl _) (argsL := []) (rest := []) (lenOf own_pd1 rfl) rfl (by show 2 * 0 + _ ≤ _; exact Nat.le_of_eq rfl) (hb hby at_25) (fun _ _ => ⟨rfl, e23, (by decide : 0 + 0 ≤ _), (by decide : 0 + 0 ≤ _)⟩)
    dsimp only [Pt.U, Pt.locs, Pt.cells, Pt.slots] at X24 l24 y24 z24 st24 hQ24
    subst l24 y24 z24
    obtain ⟨rfl, N24q, e24⟩ := hQ24
    have N24 := Fr.app N23 N24q
    refine own_step (fun _ k => st24.trans k) ?_
    show own_Fin p e below s _ _ _ (T24.setTop (mkF m 28 #[.val (.int p0), .val (.int (6 : Int32)), .val (.ref s_VARCHAR), .val (.int (0 : Int32))] [(.int (0 : Int32))]))
    refine own_step (fun _ k => XS.iloadN X24.here hx rfl (hb hby at_28) rfl k) ?_
    show own_Fin p e below s _ _ _ (T24.setTop (mkF m 29 #[.val (.int p0), .val (.int (6 : Int32)), .val (.ref s_VARCHAR), .val (.int (0 : Int32))] [(.int (0 : Int32)), (.int (0 : Int32))]))
    refine own_step (fun _ k => XS.icmpNo X24.here hx rfl (hb hby at_29) rfl (teq (by decide : (0 : Int32) = (0 : Int32))).2 k) ?_
    show own_Fin p e below s _ _ _ (T24.setTop (mkF m 32 #[.val (.int p0), .val (.int (6 : Int32)), .val (.ref s_VARCHAR), .val (.int (0 : Int32))] []))
    refine own_step (fun _ k => XS.iconst X24.here hx rfl (hb hby at_32) k) ?_
    show own_Fin p e below s _ _ _ (T24.setTop (mkF m 33 #[.val (.int p0), .val (.int (6 : Int32)), .val (.ref s_VARCHAR), .val (.int (0 : Int32))] [(.int (1 : Int32))]))
    refine own_step (fun _ k => XS.goto X24.here hx rfl (pc0 := 33) (pc' := 37) rfl (hb hby at_33) (by decide) (by decide) k) ?_
    show own_Fin p e below s _ _ _ (T24.setTop (mkF m 37 #[.val (.int p0), .val (.int (6 : Int32)), .val (.ref s_VARCHAR), .val (.int (0 : Int32))] [(.int (1 : Int32))]))
    exact own_ret X24 hlk (v := some (.int (1 : Int32))) (fun h => by rw [Bd.returns] at h; cases h) (by decide) (by decide) (by show own_Q21 Z p0 s_SMALLINT s_INTEGER s_BIGINT s_REAL s_DOUBLE s_CHAR s_VARCHAR s_TIMESTAMP s_POINT s_REGION h0 n0 _ T24.heap _; rw [e24]; exact ⟨rfl, N24⟩) (fun fs hr => retN X24 hx (t := .boolean) Bd.returns (by simp) (hb hby at_37) hr)
  · rw [hk8]
    show own_Fin p e below s _ _ _ (s₁.setTop (mkF m 8 #[.val (.int p0), .val (.int (7 : Int32)), .unset, .unset] []))
    refine own_step (fun _ k => XS.iloadN X0.here hx rfl (hb hby at_8) rfl k) ?_
    show own_Fin p e below s _ _ _ (s₁.setTop (mkF m 9 #[.val (.int p0), .val (.int (7 : Int32)), .unset, .unset] [(.int (7 : Int32))]))
    obtain ⟨_, _, ⟨T25, L25, k25, n25⟩, -, X25, ⟨Lc25, hQ25, l25, y25, z25⟩, st25⟩ := Jvm.LawKit.callS X0 hx (y := own_y0) hown (mvT hZ (own_w hw 1 rfl)) (mvT hZ (own_w hw 2 rfl)) (mvT hZ (own_w hw 3 rfl)) (mvT hZ (own_w hw 4 rfl)) (by decide) (backOf (W := 0) (own_rm8 l Z a0 hw [] s_TIMESTAMP h0 n0 Z0 S_TIMESTAMP) hZ (own_w hw 4 rfl) (own_w hw 3 rfl) (by decide) (by decide)) (g := (mkF m 9 #[.val (.int p0), .val (.int (7 : Int32)), .unset, .unset] [(.int (7 : Int32))])) rfl (by rw [hml]; rfl) (argsL := [(.int (7 : Int32))]) (rest := []) (lenOf own_pd0 rfl) rfl (by show 2 * 0 + _ ≤ _; exact Nat.le_of_eq rfl) (hb hby at_9) (fun _ _ => ⟨rfl, e0, (by decide : 0 + 0 ≤ _), (by decide : 0 + 0 ≤ _)⟩)
    dsimp only [Pt.U, Pt.locs, Pt.cells, Pt.slots] at X25 l25 y25 z25 st25 hQ25
    subst l25 y25 z25
    obtain ⟨rfl, N25q, e25⟩ := hQ25
    have N25 := Fr.app N0 N25q
    refine own_step (fun _ k => st25 _ k) ?_
    show own_Fin p e below s _ _ _ (T25.setTop (mkF m 12 #[.val (.int p0), .val (.int (7 : Int32)), .unset, .unset] [(.ref s_TIMESTAMP)]))
    refine own_step (fun _ k => XS.astoreN X25.here hx rfl (hb hby at_12) rfl rfl (l' := #[.val (.int p0), .val (.int (7 : Int32)), .val (.ref s_TIMESTAMP), .unset]) rfl k) ?_
    show own_Fin p e below s _ _ _ (T25.setTop (mkF m 13 #[.val (.int p0), .val (.int (7 : Int32)), .val (.ref s_TIMESTAMP), .unset] []))
    refine own_step (fun _ k => XS.iloadN X25.here hx rfl (hb hby at_13) rfl k) ?_
    show own_Fin p e below s _ _ _ (T25.setTop (mkF m 14 #[.val (.int p0), .val (.int (7 : Int32)), .val (.ref s_TIMESTAMP), .unset] [(.int (7 : Int32))]))
    refine own_step (fun _ k => XS.iconst X25.here hx rfl (hb hby at_14) k) ?_
    show own_Fin p e below s _ _ _ (T25.setTop (mkF m 15 #[.val (.int p0), .val (.int (7 : Int32)), .val (.ref s_TIMESTAMP), .unset] [(.int (3 : Int32)), (.int (7 : Int32))]))
    refine own_step (fun _ k => XS.icmpYes X25.here hx rfl (pc0 := 15) (pc' := 22) rfl (hb hby at_15) rfl (flt (by decide : ¬ ((7 : Int32) < (3 : Int32)))).2.1 (by decide) (by decide) k) ?_
    show own_Fin p e below s _ _ _ (T25.setTop (mkF m 22 #[.val (.int p0), .val (.int (7 : Int32)), .val (.ref s_TIMESTAMP), .unset] []))
    refine own_step (fun _ k => XS.iconst X25.here hx rfl (hb hby at_22) k) ?_
    show own_Fin p e below s _ _ _ (T25.setTop (mkF m 23 #[.val (.int p0), .val (.int (7 : Int32)), .val (.ref s_TIMESTAMP), .unset] [(.int (0 : Int32))]))
    refine own_step (fun _ k => XS.istoreN X25.here hx rfl (hb hby at_23) rfl (l' := #[.val (.int p0), .val (.int (7 : Int32)), .val (.ref s_TIMESTAMP), .val (.int (0 : Int32))]) rfl k) ?_
    show own_Fin p e below s _ _ _ (T25.setTop (mkF m 24 #[.val (.int p0), .val (.int (7 : Int32)), .val (.ref s_TIMESTAMP), .val (.int (0 : Int32))] []))
    refine own_step (fun _ k => XS.aloadN X25.here hx rfl (hb hby at_24) rfl rfl k) ?_
    show own_Fin p e below s _ _ _ (T25.setTop (mkF m 25 #[.val (.int p0), .val (.int (7 : Int32)), .val (.ref s_TIMESTAMP), .val (.int (0 : Int32))] [(.ref s_TIMESTAMP)]))
    obtain ⟨cq26, kq26, q26a, q26b, q26c⟩ := isOf hZ e25 E_s_TIMESTAMP
    obtain ⟨_, _, ⟨T26, L26, k26, n26⟩, -, X26, ⟨Lc26, hQ26, l26, y26, z26⟩, st26⟩ := X25.virtualBack hx (y := own_y1) (z := own_y1) hown (mvT hZ (own_w hw 8 rfl)) (mvT hZ (own_w hw 9 rfl)) (notFace_of_selects (args := #[]) (mvT hZ (own_w hw 11 rfl))) (mvT hZ (own_w hw 11 rfl)) (mvT hZ (own_w hw 10 rfl)) (by decide) (backOf (W := 0) (own_rm18 l Z a0 hw [] s_TIMESTAMP s_SMALLINT s_INTEGER s_BIGINT h0 n0 Z0 S_SMALLINT ne_s_TIMESTAMP_s_SMALLINT S_INTEGER ne_s_TIMESTAMP_s_INTEGER S_BIGINT ne_s_TIMESTAMP_s_BIGINT) hZ (own_w hw 12 rfl) (own_w hw 6 rfl) (by decide) (by decide)) q26a q26c (g := (mkF m 25 #[.val (.int p0), .val (.int (7 : Int32)), .val (.ref s_TIMESTAMP), .val (.int (0 : Int32))] [(.ref s_TIMESTAMP)])) rfl (by rw [hml]; rfl) (Steps.refl _) (argsL := []) (rest := []) (lenOf own_pd1 rfl) rfl (by show 2 * 0 + _ ≤ _; exact Nat.le_of_eq rfl) (hb hby at_25) (fun _ _ => ⟨rfl, e25, (by decide : 0 + 0 ≤ _), (by decide : 0 + 0 ≤ _)⟩)
    dsimp only [Pt.U, Pt.locs, Pt.cells, Pt.slots] at X26 l26 y26 z26 st26 hQ26
    subst l26 y26 z26
    obtain ⟨rfl, N26q, e26⟩ := hQ26
    have N26 := Fr.app N25 N26q
    refine own_step (fun _ k => st26.trans k) ?_
    show own_Fin p e below s _ _ _ (T26.setTop (mkF m 28 #[.val (.int p0), .val (.int (7 : Int32)), .val (.ref s_TIMESTAMP), .val (.int (0 : Int32))] [(.int (0 : Int32))]))
    refine own_step (fun _ k => XS.iloadN X26.here hx rfl (hb hby at_28) rfl k) ?_
    show own_Fin p e below s _ _ _ (T26.setTop (mkF m 29 #[.val (.int p0), .val (.int (7 : Int32)), .val (.ref s_TIMESTAMP), .val (.int (0 : Int32))] [(.int (0 : Int32)), (.int (0 : Int32))]))
    refine own_step (fun _ k => XS.icmpNo X26.here hx rfl (hb hby at_29) rfl (teq (by decide : (0 : Int32) = (0 : Int32))).2 k) ?_
    show own_Fin p e below s _ _ _ (T26.setTop (mkF m 32 #[.val (.int p0), .val (.int (7 : Int32)), .val (.ref s_TIMESTAMP), .val (.int (0 : Int32))] []))
    refine own_step (fun _ k => XS.iconst X26.here hx rfl (hb hby at_32) k) ?_
    show own_Fin p e below s _ _ _ (T26.setTop (mkF m 33 #[.val (.int p0), .val (.int (7 : Int32)), .val (.ref s_TIMESTAMP), .val (.int (0 : Int32))] [(.int (1 : Int32))]))
    refine own_step (fun _ k => XS.goto X26.here hx rfl (pc0 := 33) (pc' := 37) rfl (hb hby at_33) (by decide) (by decide) k) ?_
    show own_Fin p e below s _ _ _ (T26.setTop (mkF m 37 #[.val (.int p0), .val (.int (7 : Int32)), .val (.ref s_TIMESTAMP), .val (.int (0 : Int32))] [(.int (1 : Int32))]))
    exact own_ret X26 hlk (v := some (.int (1 : Int32))) (fun h => by rw [Bd.returns] at h; cases h) (by decide) (by decide) (by show own_Q21 Z p0 s_SMALLINT s_INTEGER s_BIGINT s_REAL s_DOUBLE s_CHAR s_VARCHAR s_TIMESTAMP s_POINT s_REGION h0 n0 _ T26.heap _; rw [e26]; exact ⟨rfl, N26⟩) (fun fs hr => retN X26 hx (t := .boolean) Bd.returns (by simp) (hb hby at_37) hr)
  · rw [hk9]
    show own_Fin p e below s _ _ _ (s₁.setTop (mkF m 8 #[.val (.int p0), .val (.int (8 : Int32)), .unset, .unset] []))
    refine own_step (fun _ k => XS.iloadN X0.here hx rfl (hb hby at_8) rfl k) ?_
    show own_Fin p e below s _ _ _ (s₁.setTop (mkF m 9 #[.val (.int p0), .val (.int (8 : Int32)), .unset, .unset] [(.int (8 : Int32))]))
    obtain ⟨_, _, ⟨T27, L27, k27, n27⟩, -, X27, ⟨Lc27, hQ27, l27, y27, z27⟩, st27⟩ := Jvm.LawKit.callS X0 hx (y := own_y0) hown (mvT hZ (own_w hw 1 rfl)) (mvT hZ (own_w hw 2 rfl)) (mvT hZ (own_w hw 3 rfl)) (mvT hZ (own_w hw 4 rfl)) (by decide) (backOf (W := 0) (own_rm9 l Z a0 hw [] s_POINT h0 n0 Z0 S_POINT) hZ (own_w hw 4 rfl) (own_w hw 3 rfl) (by decide) (by decide)) (g := (mkF m 9 #[.val (.int p0), .val (.int (8 : Int32)), .unset, .unset] [(.int (8 : Int32))])) rfl (by rw [hml]; rfl) (argsL := [(.int (8 : Int32))]) (rest := []) (lenOf own_pd0 rfl) rfl (by show 2 * 0 + _ ≤ _; exact Nat.le_of_eq rfl) (hb hby at_9) (fun _ _ => ⟨rfl, e0, (by decide : 0 + 0 ≤ _), (by decide : 0 + 0 ≤ _)⟩)
    dsimp only [Pt.U, Pt.locs, Pt.cells, Pt.slots] at X27 l27 y27 z27 st27 hQ27
    subst l27 y27 z27
    obtain ⟨rfl, N27q, e27⟩ := hQ27
    have N27 := Fr.app N0 N27q
    refine own_step (fun _ k => st27 _ k) ?_
    show own_Fin p e below s _ _ _ (T27.setTop (mkF m 12 #[.val (.int p0), .val (.int (8 : Int32)), .unset, .unset] [(.ref s_POINT)]))
    refine own_step (fun _ k => XS.astoreN X27.here hx rfl (hb hby at_12) rfl rfl (l' := #[.val (.int p0), .val (.int (8 : Int32)), .val (.ref s_POINT), .unset]) rfl k) ?_
    show own_Fin p e below s _ _ _ (T27.setTop (mkF m 13 #[.val (.int p0), .val (.int (8 : Int32)), .val (.ref s_POINT), .unset] []))
    refine own_step (fun _ k => XS.iloadN X27.here hx rfl (hb hby at_13) rfl k) ?_
    show own_Fin p e below s _ _ _ (T27.setTop (mkF m 14 #[.val (.int p0), .val (.int (8 : Int32)), .val (.ref s_POINT), .unset] [(.int (8 : Int32))]))
    refine own_step (fun _ k => XS.iconst X27.here hx rfl (hb hby at_14) k) ?_
    show own_Fin p e below s _ _ _ (T27.setTop (mkF m 15 #[.val (.int p0), .val (.int (8 : Int32)), .val (.ref s_POINT), .unset] [(.int (3 : Int32)), (.int (8 : Int32))]))
    refine own_step (fun _ k => XS.icmpYes X27.here hx rfl (pc0 := 15) (pc' := 22) rfl (hb hby at_15) rfl (flt (by decide : ¬ ((8 : Int32) < (3 : Int32)))).2.1 (by decide) (by decide) k) ?_
    show own_Fin p e below s _ _ _ (T27.setTop (mkF m 22 #[.val (.int p0), .val (.int (8 : Int32)), .val (.ref s_POINT), .unset] []))
    refine own_step (fun _ k => XS.iconst X27.here hx rfl (hb hby at_22) k) ?_
    show own_Fin p e below s _ _ _ (T27.setTop (mkF m 23 #[.val (.int p0), .val (.int (8 : Int32)), .val (.ref s_POINT), .unset] [(.int (0 : Int32))]))
    refine own_step (fun _ k => XS.istoreN X27.here hx rfl (hb hby at_23) rfl (l' := #[.val (.int p0), .val (.int (8 : Int32)), .val (.ref s_POINT), .val (.int (0 : Int32))]) rfl k) ?_
    show own_Fin p e below s _ _ _ (T27.setTop (mkF m 24 #[.val (.int p0), .val (.int (8 : Int32)), .val (.ref s_POINT), .val (.int (0 : Int32))] []))
    refine own_step (fun _ k => XS.aloadN X27.here hx rfl (hb hby at_24) rfl rfl k) ?_
    show own_Fin p e below s _ _ _ (T27.setTop (mkF m 25 #[.val (.int p0), .val (.int (8 : Int32)), .val (.ref s_POINT), .val (.int (0 : Int32))] [(.ref s_POINT)]))
    obtain ⟨cq28, kq28, q28a, q28b, q28c⟩ := isOf hZ e27 E_s_POINT
    obtain ⟨_, _, ⟨T28, L28, k28, n28⟩, -, X28, ⟨Lc28, hQ28, l28, y28, z28⟩, st28⟩ := X27.virtualBack hx (y := own_y1) (z := own_y1) hown (mvT hZ (own_w hw 8 rfl)) (mvT hZ (own_w hw 9 rfl)) (notFace_of_selects (args := #[]) (mvT hZ (own_w hw 11 rfl))) (mvT hZ (own_w hw 11 rfl)) (mvT hZ (own_w hw 10 rfl)) (by decide) (backOf (W := 0) (own_rm19 l Z a0 hw [] s_POINT s_SMALLINT s_INTEGER s_BIGINT h0 n0 Z0 S_SMALLINT ne_s_POINT_s_SMALLINT S_INTEGER ne_s_POINT_s_INTEGER S_BIGINT ne_s_POINT_s_BIGINT) hZ (own_w hw 12 rfl) (own_w hw 6 rfl) (by decide) (by decide)) q28a q28c (g := (mkF m 25 #[.val (.int p0), .val (.int (8 : Int32)), .val (.ref s_POINT), .val (.int (0 : Int32))] [(.ref s_POINT)])) rfl (by rw [hml]; rfl) (Steps.refl _) (argsL := []) (rest := []) (lenOf own_pd1 rfl) rfl (by show 2 * 0 + _ ≤ _; exact Nat.le_of_eq rfl) (hb hby at_25) (fun _ _ => ⟨rfl, e27, (by decide : 0 + 0 ≤ _), (by decide : 0 + 0 ≤ _)⟩)
    dsimp only [Pt.U, Pt.locs, Pt.cells, Pt.slots] at X28 l28 y28 z28 st28 hQ28
    subst l28 y28 z28
    obtain ⟨rfl, N28q, e28⟩ := hQ28
    have N28 := Fr.app N27 N28q
    refine own_step (fun _ k => st28.trans k) ?_
    show own_Fin p e below s _ _ _ (T28.setTop (mkF m 28 #[.val (.int p0), .val (.int (8 : Int32)), .val (.ref s_POINT), .val (.int (0 : Int32))] [(.int (0 : Int32))]))
    refine own_step (fun _ k => XS.iloadN X28.here hx rfl (hb hby at_28) rfl k) ?_
    show own_Fin p e below s _ _ _ (T28.setTop (mkF m 29 #[.val (.int p0), .val (.int (8 : Int32)), .val (.ref s_POINT), .val (.int (0 : Int32))] [(.int (0 : Int32)), (.int (0 : Int32))]))
    refine own_step (fun _ k => XS.icmpNo X28.here hx rfl (hb hby at_29) rfl (teq (by decide : (0 : Int32) = (0 : Int32))).2 k) ?_
    show own_Fin p e below s _ _ _ (T28.setTop (mkF m 32 #[.val (.int p0), .val (.int (8 : Int32)), .val (.ref s_POINT), .val (.int (0 : Int32))] []))
    refine own_step (fun _ k => XS.iconst X28.here hx rfl (hb hby at_32) k) ?_
    show own_Fin p e below s _ _ _ (T28.setTop (mkF m 33 #[.val (.int p0), .val (.int (8 : Int32)), .val (.ref s_POINT), .val (.int (0 : Int32))] [(.int (1 : Int32))]))
    refine own_step (fun _ k => XS.goto X28.here hx rfl (pc0 := 33) (pc' := 37) rfl (hb hby at_33) (by decide) (by decide) k) ?_
    show own_Fin p e below s _ _ _ (T28.setTop (mkF m 37 #[.val (.int p0), .val (.int (8 : Int32)), .val (.ref s_POINT), .val (.int (0 : Int32))] [(.int (1 : Int32))]))
    exact own_ret X28 hlk (v := some (.int (1 : Int32))) (fun h => by rw [Bd.returns] at h; cases h) (by decide) (by decide) (by show own_Q21 Z p0 s_SMALLINT s_INTEGER s_BIGINT s_REAL s_DOUBLE s_CHAR s_VARCHAR s_TIMESTAMP s_POINT s_REGION h0 n0 _ T28.heap _; rw [e28]; exact ⟨rfl, N28⟩) (fun fs hr => retN X28 hx (t := .boolean) Bd.returns (by simp) (hb hby at_37) hr)
  · rw [hk10]
    show own_Fin p e below s _ _ _ (s₁.setTop (mkF m 8 #[.val (.int p0), .val (.int (9 : Int32)), .unset, .unset] []))
    refine own_step (fun _ k => XS.iloadN X0.here hx rfl (hb hby at_8) rfl k) ?_
    show own_Fin p e below s _ _ _ (s₁.setTop (mkF m 9 #[.val (.int p0), .val (.int (9 : Int32)), .unset, .unset] [(.int (9 : Int32))]))
    obtain ⟨_, _, ⟨T29, L29, k29, n29⟩, -, X29, ⟨Lc29, hQ29, l29, y29, z29⟩, st29⟩ := Jvm.LawKit.callS X0 hx (y := own_y0) hown (mvT hZ (own_w hw 1 rfl)) (mvT hZ (own_w hw 2 rfl)) (mvT hZ (own_w hw 3 rfl)) (mvT hZ (own_w hw 4 rfl)) (by decide) (backOf (W := 0) (own_rm10 l Z a0 hw [] s_REGION h0 n0 Z0 S_REGION) hZ (own_w hw 4 rfl) (own_w hw 3 rfl) (by decide) (by decide)) (g := (mkF m 9 #[.val (.int p0), .val (.int (9 : Int32)), .unset, .unset] [(.int (9 : Int32))])) rfl (by rw [hml]; rfl) (argsL := [(.int (9 : Int32))]) (rest := []) (lenOf own_pd0 rfl) rfl (by show 2 * 0 + _ ≤ _; exact Nat.le_of_eq rfl) (hb hby at_9) (fun _ _ => ⟨rfl, e0, (by decide : 0 + 0 ≤ _), (by decide : 0 + 0 ≤ _)⟩)
    dsimp only [Pt.U, Pt.locs, Pt.cells, Pt.slots] at X29 l29 y29 z29 st29 hQ29
    subst l29 y29 z29
    obtain ⟨rfl, N29q, e29⟩ := hQ29
    have N29 := Fr.app N0 N29q
    refine own_step (fun _ k => st29 _ k) ?_
    show own_Fin p e below s _ _ _ (T29.setTop (mkF m 12 #[.val (.int p0), .val (.int (9 : Int32)), .unset, .unset] [(.ref s_REGION)]))
    refine own_step (fun _ k => XS.astoreN X29.here hx rfl (hb hby at_12) rfl rfl (l' := #[.val (.int p0), .val (.int (9 : Int32)), .val (.ref s_REGION), .unset]) rfl k) ?_
    show own_Fin p e below s _ _ _ (T29.setTop (mkF m 13 #[.val (.int p0), .val (.int (9 : Int32)), .val (.ref s_REGION), .unset] []))
    refine own_step (fun _ k => XS.iloadN X29.here hx rfl (hb hby at_13) rfl k) ?_
    show own_Fin p e below s _ _ _ (T29.setTop (mkF m 14 #[.val (.int p0), .val (.int (9 : Int32)), .val (.ref s_REGION), .unset] [(.int (9 : Int32))]))
    refine own_step (fun _ k => XS.iconst X29.here hx rfl (hb hby at_14) k) ?_
    show own_Fin p e below s _ _ _ (T29.setTop (mkF m 15 #[.val (.int p0), .val (.int (9 : Int32)), .val (.ref s_REGION), .unset] [(.int (3 : Int32)), (.int (9 : Int32))]))
    refine own_step (fun _ k => XS.icmpYes X29.here hx rfl (pc0 := 15) (pc' := 22) rfl (hb hby at_15) rfl (flt (by decide : ¬ ((9 : Int32) < (3 : Int32)))).2.1 (by decide) (by decide) k) ?_
    show own_Fin p e below s _ _ _ (T29.setTop (mkF m 22 #[.val (.int p0), .val (.int (9 : Int32)), .val (.ref s_REGION), .unset] []))
    refine own_step (fun _ k => XS.iconst X29.here hx rfl (hb hby at_22) k) ?_
    show own_Fin p e below s _ _ _ (T29.setTop (mkF m 23 #[.val (.int p0), .val (.int (9 : Int32)), .val (.ref s_REGION), .unset] [(.int (0 : Int32))]))
    refine own_step (fun _ k => XS.istoreN X29.here hx rfl (hb hby at_23) rfl (l' := #[.val (.int p0), .val (.int (9 : Int32)), .val (.ref s_REGION), .val (.int (0 : Int32))]) rfl k) ?_
    show own_Fin p e below s _ _ _ (T29.setTop (mkF m 24 #[.val (.int p0), .val (.int (9 : Int32)), .val (.ref s_REGION), .val (.int (0 : Int32))] []))
    refine own_step (fun _ k => XS.aloadN X29.here hx rfl (hb hby at_24) rfl rfl k) ?_
    show own_Fin p e below s _ _ _ (T29.setTop (mkF m 25 #[.val (.int p0), .val (.int (9 : Int32)), .val (.ref s_REGION), .val (.int (0 : Int32))] [(.ref s_REGION)]))
    obtain ⟨cq30, kq30, q30a, q30b, q30c⟩ := isOf hZ e29 E_s_REGION
    obtain ⟨_, _, ⟨T30, L30, k30, n30⟩, -, X30, ⟨Lc30, hQ30, l30, y30, z30⟩, st30⟩ := X29.virtualBack hx (y := own_y1) (z := own_y1) hown (mvT hZ (own_w hw 8 rfl)) (mvT hZ (own_w hw 9 rfl)) (notFace_of_selects (args := #[]) (mvT hZ (own_w hw 11 rfl))) (mvT hZ (own_w hw 11 rfl)) (mvT hZ (own_w hw 10 rfl)) (by decide) (backOf (W := 0) (own_rm20 l Z a0 hw [] s_REGION s_SMALLINT s_INTEGER s_BIGINT h0 n0 Z0 S_SMALLINT ne_s_REGION_s_SMALLINT S_INTEGER ne_s_REGION_s_INTEGER S_BIGINT ne_s_REGION_s_BIGINT) hZ (own_w hw 12 rfl) (own_w hw 6 rfl) (by decide) (by decide)) q30a q30c (g := (mkF m 25 #[.val (.int p0), .val (.int (9 : Int32)), .val (.ref s_REGION), .val (.int (0 : Int32))] [(.ref s_REGION)])) rfl (by rw [hml]; rfl) (Steps.refl _) (argsL := []) (rest := []) (lenOf own_pd1 rfl) rfl (by show 2 * 0 + _ ≤ _; exact Nat.le_of_eq rfl) (hb hby at_25) (fun _ _ => ⟨rfl, e29, (by decide : 0 + 0 ≤ _), (by decide : 0 + 0 ≤ _)⟩)
    dsimp only [Pt.U, Pt.locs, Pt.cells, Pt.slots] at X30 l30 y30 z30 st30 hQ30
    subst l30 y30 z30
    obtain ⟨rfl, N30q, e30⟩ := hQ30
    have N30 := Fr.app N29 N30q
    refine own_step (fun _ k => st30.trans k) ?_
    show own_Fin p e below s _ _ _ (T30.setTop (mkF m 28 #[.val (.int p0), .val (.int (9 : Int32)), .val (.ref s_REGION), .val (.int (0 : Int32))] [(.int (0 : Int32))]))
    refine own_step (fun _ k => XS.iloadN X30.here hx rfl (hb hby at_28) rfl k) ?_
    show own_Fin p e below s _ _ _ (T30.setTop (mkF m 29 #[.val (.int p0), .val (.int (9 : Int32)), .val (.ref s_REGION), .val (.int (0 : Int32))] [(.int (0 : Int32)), (.int (0 : Int32))]))
    refine own_step (fun _ k => XS.icmpNo X30.here hx rfl (hb hby at_29) rfl (teq (by decide : (0 : Int32) = (0 : Int32))).2 k) ?_
    show own_Fin p e below s _ _ _ (T30.setTop (mkF m 32 #[.val (.int p0), .val (.int (9 : Int32)), .val (.ref s_REGION), .val (.int (0 : Int32))] []))
    refine own_step (fun _ k => XS.iconst X30.here hx rfl (hb hby at_32) k) ?_
    show own_Fin p e below s _ _ _ (T30.setTop (mkF m 33 #[.val (.int p0), .val (.int (9 : Int32)), .val (.ref s_REGION), .val (.int (0 : Int32))] [(.int (1 : Int32))]))
    refine own_step (fun _ k => XS.goto X30.here hx rfl (pc0 := 33) (pc' := 37) rfl (hb hby at_33) (by decide) (by decide) k) ?_
    show own_Fin p e below s _ _ _ (T30.setTop (mkF m 37 #[.val (.int p0), .val (.int (9 : Int32)), .val (.ref s_REGION), .val (.int (0 : Int32))] [(.int (1 : Int32))]))
    exact own_ret X30 hlk (v := some (.int (1 : Int32))) (fun h => by rw [Bd.returns] at h; cases h) (by decide) (by decide) (by show own_Q21 Z p0 s_SMALLINT s_INTEGER s_BIGINT s_REAL s_DOUBLE s_CHAR s_VARCHAR s_TIMESTAMP s_POINT s_REGION h0 n0 _ T30.heap _; rw [e30]; exact ⟨rfl, N30⟩) (fun fs hr => retN X30 hx (t := .boolean) Bd.returns (by simp) (hb hby at_37) hr)

set_option maxRecDepth 65536 in
set_option maxHeartbeats 40000000 in
theorem comes_1 {Post : Tables → Env → Array Value → State → Outcome → State → Prop} (hpost : ∀ tb e args s v u, (limb_1_1.after args s (.returned v) u = true ∧ limb_1_2.after args s (.returned v) u = true ∧ True) → FrameEnd s (.returned v) u (Jvm.fieldLocs frame_1_writes args s ++ Jvm.arrayLocs frame_1_arrays args s ++ Jvm.staticLocs frame_1_statics s) 0 0 → Post tb e args s (.returned v) u) :
    ArmFor flags0 classFile x code maxLocals ret World_1 tables_1 room_1 Calls_1 rest_1 Pre_1 Post := by
  intro l hfl _ _ p e ha hc hk s m args below hf hA hF happ hP
  obtain ⟨hcalls, hrest, hpre⟩ := hP
  obtain ⟨-, -, -, hnamed, -, -, -, hat⟩ := (Spec.applies_iff hf).mp happ
  obtain ⟨hg, hn⟩ := and_e (Cond.before_iff.mp (show (Jvm.Cond.and given_1 narrow_1).before args s = true from hpre))
  obtain ⟨cj1a, cj1b⟩ := and_e hg
  obtain ⟨w0, rfl⟩ : ∃ w0 : Value, args = #[w0] := by
    have hs : args.size = 1 := by simpa [Cond.value, given_1] using cj1a
    obtain ⟨L⟩ := args
    match L, hs with
    | [w0], _ => exact ⟨w0, rfl⟩
  have hw := fun d (hd : d ∈ tables_1) => atoms_spec (ws := Jvm.Cond.code x code maxLocals ret :: tables_1) hat d (List.mem_cons_of_mem _ hd)
  have hfit : Fit s := fun {y c} hc i hi => by
    obtain ⟨ha, rfl⟩ := Array.getElem?_eq_some_iff.mp hc
    have q := List.all_eq_true.mp ((Array.all_eq_true_iff_forall_mem.mp hF) _ (Array.getElem_mem ha)) i (List.mem_range.mpr hi)
    simpa [Array.getElem?_eq_getElem hi] using q
  obtain ⟨i0, ei0⟩ := is_v cj1b
  obtain rfl : w0 = (.int i0) := Option.some.inj ei0
  obtain ⟨cj2a, cj2b⟩ := and_e hn
  obtain ⟨cj3a, cj3b⟩ := and_e cj2b
  obtain ⟨cj4a, cj4b⟩ := and_e cj3b
  obtain ⟨cj5a, cj5b⟩ := and_e cj4b
  obtain ⟨cj6a, cj6b⟩ := and_e cj5b
  obtain ⟨cj7a, cj7b⟩ := and_e cj6b
  obtain ⟨cj8a, cj8b⟩ := and_e cj7b
  obtain ⟨cj9a, cj9b⟩ := and_e cj8b
  obtain ⟨cj10a, cj10b⟩ := and_e cj9b
  obtain ⟨cj11a, cj11b⟩ := and_e cj10b
  obtain ⟨cj12a, cj12b⟩ := and_e cj11b
  obtain ⟨cj13a, cj13b⟩ := and_e cj12b
  obtain ⟨cj14a, cj14b⟩ := and_e cj13b
  obtain ⟨cj15a, cj15b⟩ := and_e cj14b
  obtain ⟨cj16a, cj16b⟩ := and_e cj15b
  obtain ⟨cj17a, cj17b⟩ := and_e cj16b
  obtain ⟨cj18a, cj18b⟩ := and_e cj17b
  obtain ⟨cj19a, cj19b⟩ := and_e cj18b
  obtain ⟨cj20a, cj20b⟩ := and_e cj19b
  obtain ⟨s_SMALLINT, ev_s_SMALLINT⟩ := exa_v cj2a
  have S_SMALLINT : Sta s s.heap "com/example/taproom/taproom/model/ColumnType" "SMALLINT" "Lcom/example/taproom/taproom/model/ColumnType;" (.ref s_SMALLINT) := Sta.start ev_s_SMALLINT (Or.inr ⟨(own_w hw 6 rfl), (own_w hw 7 rfl)⟩)
  have E_s_SMALLINT : Exa s s.heap s_SMALLINT "com/example/taproom/taproom/model/ColumnType" := Exa.start ev_s_SMALLINT cj2a
  obtain ⟨s_REAL, ev_s_REAL⟩ := exa_v cj3a
  have S_REAL : Sta s s.heap "com/example/taproom/taproom/model/ColumnType" "REAL" "Lcom/example/taproom/taproom/model/ColumnType;" (.ref s_REAL) := Sta.start ev_s_REAL (Or.inr ⟨(own_w hw 6 rfl), (own_w hw 15 rfl)⟩)
  have E_s_REAL : Exa s s.heap s_REAL "com/example/taproom/taproom/model/ColumnType" := Exa.start ev_s_REAL cj3a
  obtain ⟨s_INTEGER, ev_s_INTEGER⟩ := exa_v cj6a
  have S_INTEGER : Sta s s.heap "com/example/taproom/taproom/model/ColumnType" "INTEGER" "Lcom/example/taproom/taproom/model/ColumnType;" (.ref s_INTEGER) := Sta.start ev_s_INTEGER (Or.inr ⟨(own_w hw 6 rfl), (own_w hw 17 rfl)⟩)
  have E_s_INTEGER : Exa s s.heap s_INTEGER "com/example/taproom/taproom/model/ColumnType" := Exa.start ev_s_INTEGER cj6a
  obtain ⟨s_BIGINT, ev_s_BIGINT⟩ := exa_v cj8a
  have S_BIGINT : Sta s s.heap "com/example/taproom/taproom/model/ColumnType" "BIGINT" "Lcom/example/taproom/taproom/model/ColumnType;" (.ref s_BIGINT) := Sta.start ev_s_BIGINT (Or.inr ⟨(own_w hw 6 rfl), (own_w hw 19 rfl)⟩)
  have E_s_BIGINT : Exa s s.heap s_BIGINT "com/example/taproom/taproom/model/ColumnType" := Exa.start ev_s_BIGINT cj8a
  obtain ⟨s_DOUBLE, ev_s_DOUBLE⟩ := exa_v cj10a
  have S_DOUBLE : Sta s s.heap "com/example/taproom/taproom/model/ColumnType" "DOUBLE" "Lcom/example/taproom/taproom/model/ColumnType;" (.ref s_DOUBLE) := Sta.start ev_s_DOUBLE (Or.inr ⟨(own_w hw 6 rfl), (own_w hw 22 rfl)⟩)
  have E_s_DOUBLE : Exa s s.heap s_DOUBLE "com/example/taproom/taproom/model/ColumnType" := Exa.start ev_s_DOUBLE cj10a
  obtain ⟨s_TIMESTAMP, ev_s_TIMESTAMP⟩ := exa_v cj12a
  have S_TIMESTAMP : Sta s s.heap "com/example/taproom/taproom/model/ColumnType" "TIMESTAMP" "Lcom/example/taproom/taproom/model/ColumnType;" (.ref s_TIMESTAMP) := Sta.start ev_s_TIMESTAMP (Or.inr ⟨(own_w hw 6 rfl), (own_w hw 24 rfl)⟩)
  have E_s_TIMESTAMP : Exa s s.heap s_TIMESTAMP "com/example/taproom/taproom/model/ColumnType" := Exa.start ev_s_TIMESTAMP cj12a
  obtain ⟨s_POINT, ev_s_POINT⟩ := exa_v cj14a
  have S_POINT : Sta s s.heap "com/example/taproom/taproom/model/ColumnType" "POINT" "Lcom/example/taproom/taproom/model/ColumnType;" (.ref s_POINT) := Sta.start ev_s_POINT (Or.inr ⟨(own_w hw 6 rfl), (own_w hw 27 rfl)⟩)
  have E_s_POINT : Exa s s.heap s_POINT "com/example/taproom/taproom/model/ColumnType" := Exa.start ev_s_POINT cj14a
  obtain ⟨s_REGION, ev_s_REGION⟩ := exa_v cj16a
  have S_REGION : Sta s s.heap "com/example/taproom/taproom/model/ColumnType" "REGION" "Lcom/example/taproom/taproom/model/ColumnType;" (.ref s_REGION) := Sta.start ev_s_REGION (Or.inr ⟨(own_w hw 6 rfl), (own_w hw 29 rfl)⟩)
  have E_s_REGION : Exa s s.heap s_REGION "com/example/taproom/taproom/model/ColumnType" := Exa.start ev_s_REGION cj16a
  obtain ⟨s_CHAR, ev_s_CHAR⟩ := exa_v cj18a
  have S_CHAR : Sta s s.heap "com/example/taproom/taproom/model/ColumnType" "CHAR" "Lcom/example/taproom/taproom/model/ColumnType;" (.ref s_CHAR) := Sta.start ev_s_CHAR (Or.inr ⟨(own_w hw 6 rfl), (own_w hw 31 rfl)⟩)
  have E_s_CHAR : Exa s s.heap s_CHAR "com/example/taproom/taproom/model/ColumnType" := Exa.start ev_s_CHAR cj18a
  obtain ⟨s_VARCHAR, ev_s_VARCHAR⟩ := exa_v cj20a
  have S_VARCHAR : Sta s s.heap "com/example/taproom/taproom/model/ColumnType" "VARCHAR" "Lcom/example/taproom/taproom/model/ColumnType;" (.ref s_VARCHAR) := Sta.start ev_s_VARCHAR (Or.inr ⟨(own_w hw 6 rfl), (own_w hw 33 rfl)⟩)
  have E_s_VARCHAR : Exa s s.heap s_VARCHAR "com/example/taproom/taproom/model/ColumnType" := Exa.start ev_s_VARCHAR cj20a
  have ev_wordinal_s_REAL := eqv_i rfl cj4a
  have F_ordinal_s_REAL : Fld s s.heap s_REAL "java/lang/Enum" "ordinal" "I" (.int (3 : Int32)) := own_fldV ev_s_REAL ev_wordinal_s_REAL
  have ev_wordinal_s_SMALLINT := eqv_i rfl cj5a
  have F_ordinal_s_SMALLINT : Fld s s.heap s_SMALLINT "java/lang/Enum" "ordinal" "I" (.int (0 : Int32)) := own_fldV ev_s_SMALLINT ev_wordinal_s_SMALLINT
  have ev_wordinal_s_INTEGER := eqv_i rfl cj7a
  have F_ordinal_s_INTEGER : Fld s s.heap s_INTEGER "java/lang/Enum" "ordinal" "I" (.int (1 : Int32)) := own_fldV ev_s_INTEGER ev_wordinal_s_INTEGER
  have ev_wordinal_s_BIGINT := eqv_i rfl cj9a
  have F_ordinal_s_BIGINT : Fld s s.heap s_BIGINT "java/lang/Enum" "ordinal" "I" (.int (2 : Int32)) := own_fldV ev_s_BIGINT ev_wordinal_s_BIGINT
  have ev_wordinal_s_DOUBLE := eqv_i rfl cj11a
  have F_ordinal_s_DOUBLE : Fld s s.heap s_DOUBLE "java/lang/Enum" "ordinal" "I" (.int (4 : Int32)) := own_fldV ev_s_DOUBLE ev_wordinal_s_DOUBLE
  have ev_wordinal_s_TIMESTAMP := eqv_i rfl cj13a
  have F_ordinal_s_TIMESTAMP : Fld s s.heap s_TIMESTAMP "java/lang/Enum" "ordinal" "I" (.int (7 : Int32)) := own_fldV ev_s_TIMESTAMP ev_wordinal_s_TIMESTAMP
  have ev_wordinal_s_POINT := eqv_i rfl cj15a
  have F_ordinal_s_POINT : Fld s s.heap s_POINT "java/lang/Enum" "ordinal" "I" (.int (8 : Int32)) := own_fldV ev_s_POINT ev_wordinal_s_POINT
  have ev_wordinal_s_REGION := eqv_i rfl cj17a
  have F_ordinal_s_REGION : Fld s s.heap s_REGION "java/lang/Enum" "ordinal" "I" (.int (9 : Int32)) := own_fldV ev_s_REGION ev_wordinal_s_REGION
  have ev_wordinal_s_CHAR := eqv_i rfl cj19a
  have F_ordinal_s_CHAR : Fld s s.heap s_CHAR "java/lang/Enum" "ordinal" "I" (.int (5 : Int32)) := own_fldV ev_s_CHAR ev_wordinal_s_CHAR
  have ev_wordinal_s_VARCHAR := eqv_i rfl cj20b
  have F_ordinal_s_VARCHAR : Fld s s.heap s_VARCHAR "java/lang/Enum" "ordinal" "I" (.int (6 : Int32)) := own_fldV ev_s_VARCHAR ev_wordinal_s_VARCHAR
  obtain ⟨n, o, h1, h2, h3, _, L, rfl, ⟨rfl, N⟩, hq⟩ := own_rm21 l s _ hw tables_1 i0 s_SMALLINT s_INTEGER s_BIGINT s_REAL s_DOUBLE s_CHAR s_VARCHAR s_TIMESTAMP s_POINT s_REGION s.heap s.heap.size (Nat.le_refl _) S_SMALLINT E_s_SMALLINT S_INTEGER E_s_INTEGER (Fld.ne F_ordinal_s_INTEGER F_ordinal_s_SMALLINT (fun q => absurd (Value.int.inj q) (by decide))) S_BIGINT E_s_BIGINT (Fld.ne F_ordinal_s_BIGINT F_ordinal_s_SMALLINT (fun q => absurd (Value.int.inj q) (by decide))) (Fld.ne F_ordinal_s_BIGINT F_ordinal_s_INTEGER (fun q => absurd (Value.int.inj q) (by decide))) S_REAL E_s_REAL (Fld.ne F_ordinal_s_REAL F_ordinal_s_SMALLINT (fun q => absurd (Value.int.inj q) (by decide))) (Fld.ne F_ordinal_s_REAL F_ordinal_s_INTEGER (fun q => absurd (Value.int.inj q) (by decide))) (Fld.ne F_ordinal_s_REAL F_ordinal_s_BIGINT (fun q => absurd (Value.int.inj q) (by decide))) S_DOUBLE E_s_DOUBLE (Fld.ne F_ordinal_s_DOUBLE F_ordinal_s_SMALLINT (fun q => absurd (Value.int.inj q) (by decide))) (Fld.ne F_ordinal_s_DOUBLE F_ordinal_s_INTEGER (fun q => absurd (Value.int.inj q) (by decide))) (Fld.ne F_ordinal_s_DOUBLE F_ordinal_s_BIGINT (fun q => absurd (Value.int.inj q) (by decide))) S_CHAR E_s_CHAR (Fld.ne F_ordinal_s_CHAR F_ordinal_s_SMALLINT (fun q => absurd (Value.int.inj q) (by decide))) (Fld.ne F_ordinal_s_CHAR F_ordinal_s_INTEGER (fun q => absurd (Value.int.inj q) (by decide))) (Fld.ne F_ordinal_s_CHAR F_ordinal_s_BIGINT (fun q => absurd (Value.int.inj q) (by decide))) S_VARCHAR E_s_VARCHAR (Fld.ne F_ordinal_s_VARCHAR F_ordinal_s_SMALLINT (fun q => absurd (Value.int.inj q) (by decide))) (Fld.ne F_ordinal_s_VARCHAR F_ordinal_s_INTEGER (fun q => absurd (Value.int.inj q) (by decide))) (Fld.ne F_ordinal_s_VARCHAR F_ordinal_s_BIGINT (fun q => absurd (Value.int.inj q) (by decide))) S_TIMESTAMP E_s_TIMESTAMP (Fld.ne F_ordinal_s_TIMESTAMP F_ordinal_s_SMALLINT (fun q => absurd (Value.int.inj q) (by decide))) (Fld.ne F_ordinal_s_TIMESTAMP F_ordinal_s_INTEGER (fun q => absurd (Value.int.inj q) (by decide))) (Fld.ne F_ordinal_s_TIMESTAMP F_ordinal_s_BIGINT (fun q => absurd (Value.int.inj q) (by decide))) S_POINT E_s_POINT (Fld.ne F_ordinal_s_POINT F_ordinal_s_SMALLINT (fun q => absurd (Value.int.inj q) (by decide))) (Fld.ne F_ordinal_s_POINT F_ordinal_s_INTEGER (fun q => absurd (Value.int.inj q) (by decide))) (Fld.ne F_ordinal_s_POINT F_ordinal_s_BIGINT (fun q => absurd (Value.int.inj q) (by decide))) S_REGION E_s_REGION (Fld.ne F_ordinal_s_REGION F_ordinal_s_SMALLINT (fun q => absurd (Value.int.inj q) (by decide))) (Fld.ne F_ordinal_s_REGION F_ordinal_s_INTEGER (fun q => absurd (Value.int.inj q) (by decide))) (Fld.ne F_ordinal_s_REGION F_ordinal_s_BIGINT (fun q => absurd (Value.int.inj q) (by decide))) p e ha hc hk s m _ below hf ((Spec.applies_iff_loose hf).mp happ).1 ⟨rfl, State.Warmed39.refl s, rfl⟩ trivial
  refine ⟨n, _, h1, h2, h3, hpost _ _ _ _ _ _ ⟨Cond.after_iff.mpr rfl, Cond.after_iff.mpr (eq_i res_at (Term.int_eval (1)) rfl), trivial⟩ ⟨hq.1, hq.2.1, (hq.2.2.sift fun y hy => Or.inr (N y hy)).mono (by decide) (by decide)⟩⟩
theorem main_1_1 : Claimed_1_1 := comes_1 fun _ _ _ _ _ _ h hF => ⟨h.1, hF⟩
theorem main_1_2 : Claimed_1_2 := comes_1 fun _ _ _ _ _ _ h hF => ⟨h.2.1, hF⟩
end Jvm.Pilot.@@N@@
namespace Jvm.Pilot.@@N@@
open Jvm Jvm.ClassFile Sem Op Lib Jvm.Free Jvm.Stand Jvm.Pilot.@@N@@.Jvm.D
/-! MADE BY PROGRAM (witnessworld.py) out of the Statement's table words and the real class files: 12 classes; the members and pool entries that the words name. The judged class is class 1, her method 2. -/
namespace start1
open Jvm.ClassFile
def u (s : String) : CpInfo := .utf8 (stringToUtf16 s)
/-- a pool by its gaps: so many unusable entries, then the entry; so many at the end -/
def gap : Nat → List CpInfo → List CpInfo
  | 0, r => r
  | n + 1, r => .unusable :: gap n r
def poolList (es : List (Nat × CpInfo)) (last : Nat) : List CpInfo := es.foldr (fun e r => gap e.1 (e.2 :: r)) (gap last [])
def pool (es : List (Nat × CpInfo)) (last : Nat) : Array CpInfo := ⟨poolList es last⟩
def fileOf (pool : Array CpInfo) (this : Nat) (attrs : Array Attribute := #[]) (ms : Array MethodInfo := #[]) (fl : Nat := 33) (sup : Nat := 0) (ifs : Array Nat := #[]) (fds : Array FieldInfo := #[]) : ClassFile where
  minorVersion := 0
  majorVersion := 65
  constantPool := pool
  accessFlags := fl
  thisClass := this
  superClass := sup
  interfaces := ifs
  fields := fds
  methods := ms
  attributes := attrs
def plain (name : String) (sup : Option ClassId) : Class where
  name := name
  kind := .ordinary
  loader := none
  accessFlags := 33
  super := sup
  interfaces := #[]
  cf := none
  fields := #[]
  methods := #[]
  instanceTypes := #[]
  staticTypes := #[]
  resolved := #[]
  callSites := []
  init := .initialized
  statics := none
  mirror := none

def pool0 : Array CpInfo := pool [(5, u "<init>"), (0, u "()V"), (1, .class_ 10), (1, u "java/lang/Object")] 113

def k0m0 : Method := { name := "<init>", desc := "()V", sig := { parameters := [], returnType := none }, accessFlags := 1, code := none }
/-- java/lang/Object -/
def k0 : Class := { plain "java/lang/Object" none with
  accessFlags := 33
  interfaces := #[]
  cf := some (fileOf pool0 8 #[] #[{ accessFlags := 1, nameIndex := 5, descriptorIndex := 6, attributes := #[] }] 33 0 #[] #[])
  fields := #[]
  methods := #[k0m0]
  instanceTypes := #[]
  staticTypes := #[]
  resolved := Array.replicate 124 none
  statics := none }

def pool1 : Array CpInfo := pool [(2, .class_ 4), (1, u "java/lang/Object"), (0, u "<init>"), (0, u "()V"), (0, .fieldref 8 9), (0, .class_ 10), (0, .nameAndType 11 12), (0, u "com/example/taproom/taproom/model/ColumnType"), (0, u "SMALLINT"), (0, u "Lcom/example/taproom/taproom/model/ColumnType;"), (0, .fieldref 8 14), (0, .nameAndType 15 12), (0, u "INTEGER"), (0, .fieldref 8 17), (0, .nameAndType 18 12), (0, u "BIGINT"), (0, .fieldref 8 20), (0, .nameAndType 21 12), (0, u "REAL"), (0, .fieldref 8 23), (0, .nameAndType 24 12), (0, u "DOUBLE"), (0, .fieldref 8 26), (0, .nameAndType 27 12), (0, u "CHAR"), (0, .fieldref 8 29), (0, .nameAndType 30 12), (0, u "VARCHAR"), (0, .fieldref 8 32), (0, .nameAndType 33 12), (0, u "TIMESTAMP"), (0, .fieldref 8 35), (0, .nameAndType 36 12), (0, u "POINT"), (0, .fieldref 8 38), (0, .nameAndType 39 12), (0, u "REGION"), (0, .integer 2147483647), (0, .methodref 42 43), (0, .class_ 44), (0, .nameAndType 45 46), (0, u "com/example/taproom/taproom/model/ColumnTypeIsWholePinLaw"), (0, u "pick"), (0, u "(I)Lcom/example/taproom/taproom/model/ColumnType;"), (0, .methodref 8 48), (0, .nameAndType 49 50), (0, u "isWhole"), (0, u "()Z"), (3, u "law"), (0, u "(I)Z")] 2

def k1m0 : Method := { name := "<init>", desc := "()V", sig := { parameters := [], returnType := none }, accessFlags := 2, code := none }
def k1c1 : Code := { maxStack := 2, maxLocals := 1, code := method_2_code, exceptionTable := #[], attributes := #[] }
def k1m1 : Method := { name := "pick", desc := "(I)Lcom/example/taproom/taproom/model/ColumnType;", sig := { parameters := [.int], returnType := some (.object "com/example/taproom/taproom/model/ColumnType") }, accessFlags := 10, code := some k1c1 }
def k1c2 : Code := { maxStack := 2, maxLocals := 4, code := code, exceptionTable := #[], attributes := #[] }
def k1m2 : Method := { name := "law", desc := "(I)Z", sig := { parameters := [.int], returnType := some .boolean }, accessFlags := 9, code := some k1c2 }
/-- com/example/taproom/taproom/model/ColumnTypeIsWholePinLaw -/
def k1 : Class := { plain "com/example/taproom/taproom/model/ColumnTypeIsWholePinLaw" (some 0) with
  accessFlags := 49
  interfaces := #[]
  cf := some (fileOf pool1 42 #[] #[{ accessFlags := 2, nameIndex := 5, descriptorIndex := 6, attributes := #[] }, { accessFlags := 10, nameIndex := 45, descriptorIndex := 46, attributes := #[] }, { accessFlags := 9, nameIndex := 54, descriptorIndex := 55, attributes := #[] }] 49 2 #[] #[])
  fields := #[]
  methods := #[k1m0, k1m1, k1m2]
  instanceTypes := #[]
  staticTypes := #[]
  resolved := Array.replicate 58 none
  statics := none }

def pool2 : Array CpInfo := pool [(1, .class_ 2), (0, u "java/lang/constant/Constable"), (0, .class_ 4), (0, u "java/lang/Object")] 6

/-- java/lang/constant/Constable -/
def k2 : Class := { plain "java/lang/constant/Constable" (some 0) with
  accessFlags := 1537
  interfaces := #[]
  cf := some (fileOf pool2 1 #[] #[] 1537 3 #[] #[])
  fields := #[]
  methods := #[]
  instanceTypes := #[]
  staticTypes := #[]
  resolved := Array.replicate 11 none
  statics := none }

def pool3 : Array CpInfo := pool [(1, .class_ 2), (0, u "java/lang/Comparable"), (0, .class_ 4), (0, u "java/lang/Object")] 7

/-- java/lang/Comparable -/
def k3 : Class := { plain "java/lang/Comparable" (some 0) with
  accessFlags := 1537
  interfaces := #[]
  cf := some (fileOf pool3 1 #[] #[] 1537 3 #[] #[])
  fields := #[]
  methods := #[]
  instanceTypes := #[]
  staticTypes := #[]
  resolved := Array.replicate 12 none
  statics := none }

def pool4 : Array CpInfo := pool [(1, .class_ 2), (0, u "java/io/Serializable"), (0, .class_ 4), (0, u "java/lang/Object")] 2

/-- java/io/Serializable -/
def k4 : Class := { plain "java/io/Serializable" (some 0) with
  accessFlags := 1537
  interfaces := #[]
  cf := some (fileOf pool4 1 #[] #[] 1537 3 #[] #[])
  fields := #[]
  methods := #[]
  instanceTypes := #[]
  staticTypes := #[]
  resolved := Array.replicate 7 none
  statics := none }

def pool5 : Array CpInfo := pool [(2, .class_ 4), (1, u "java/lang/Enum"), (0, u "name"), (0, u "Ljava/lang/String;"), (2, u "ordinal"), (0, u "I"), (1, .class_ 14), (1, u "java/lang/Object"), (4, u "hash"), (86, .class_ 108), (1, u "java/lang/Enum$EnumDesc"), (2, .class_ 112), (0, u "java/lang/constant/Constable"), (0, .class_ 114), (0, u "java/lang/Comparable"), (0, .class_ 116), (0, u "java/io/Serializable")] 87

/-- java/lang/Enum -/
def k5 : Class := { plain "java/lang/Enum" (some 0) with
  accessFlags := 1057
  interfaces := #[2, 3, 4]
  cf := some (fileOf pool5 2 #[.nestMembers #[106]] #[] 1057 12 #[111, 113, 115] #[{ accessFlags := 18, nameIndex := 5, descriptorIndex := 6, attributes := #[] }, { accessFlags := 18, nameIndex := 9, descriptorIndex := 10, attributes := #[] }, { accessFlags := 2, nameIndex := 19, descriptorIndex := 10, attributes := #[] }])
  fields := #[{ name := "name", type := (.object "java/lang/String"), accessFlags := 18, slot := 0, constantValue := 0 }, { name := "ordinal", type := .int, accessFlags := 18, slot := 1, constantValue := 0 }, { name := "hash", type := .int, accessFlags := 2, slot := 2, constantValue := 0 }]
  methods := #[]
  instanceTypes := #[(.object "java/lang/String"), .int, .int]
  staticTypes := #[]
  resolved := Array.replicate 204 none
  statics := none }

def pool6 : Array CpInfo := pool [(1, .class_ 2), (0, u "com/example/taproom/taproom/model/ColumnType"), (0, .fieldref 1 4), (0, .nameAndType 5 6), (0, u "SMALLINT"), (0, u "Lcom/example/taproom/taproom/model/ColumnType;"), (0, .fieldref 1 8), (0, .nameAndType 9 6), (0, u "INTEGER"), (0, .fieldref 1 11), (0, .nameAndType 12 6), (0, u "BIGINT"), (2, u "REAL"), (2, u "DOUBLE"), (2, u "CHAR"), (2, u "VARCHAR"), (2, u "TIMESTAMP"), (2, u "POINT"), (2, u "REGION"), (2, u "$VALUES"), (0, u "[Lcom/example/taproom/taproom/model/ColumnType;"), (6, .class_ 46), (1, u "java/lang/Enum"), (8, u "kind"), (0, u "Lcom/example/taproom/taproom/model/ColumnType$Kind;"), (2, u "votableDatatype"), (0, u "Ljava/lang/String;"), (2, u "votableArraysize"), (2, u "votableXtype"), (2, u "isWhole"), (0, u "()Z"), (2, .class_ 75), (1, u "com/example/taproom/taproom/model/ColumnType$Kind")] 71

def k6c0 : Code := { maxStack := 2, maxLocals := 1, code := prog_61_method_5_code, exceptionTable := #[], attributes := #[] }
def k6m0 : Method := { name := "isWhole", desc := "()Z", sig := { parameters := [], returnType := some .boolean }, accessFlags := 1, code := some k6c0 }
/-- com/example/taproom/taproom/model/ColumnType -/
def k6 : Class := { plain "com/example/taproom/taproom/model/ColumnType" (some 5) with
  accessFlags := 16433
  interfaces := #[]
  cf := some (fileOf pool6 1 #[.nestMembers #[73]] #[{ accessFlags := 1, nameIndex := 69, descriptorIndex := 70, attributes := #[] }] 16433 44 #[] #[{ accessFlags := 16409, nameIndex := 5, descriptorIndex := 6, attributes := #[] }, { accessFlags := 16409, nameIndex := 9, descriptorIndex := 6, attributes := #[] }, { accessFlags := 16409, nameIndex := 12, descriptorIndex := 6, attributes := #[] }, { accessFlags := 16409, nameIndex := 15, descriptorIndex := 6, attributes := #[] }, { accessFlags := 16409, nameIndex := 18, descriptorIndex := 6, attributes := #[] }, { accessFlags := 16409, nameIndex := 21, descriptorIndex := 6, attributes := #[] }, { accessFlags := 16409, nameIndex := 24, descriptorIndex := 6, attributes := #[] }, { accessFlags := 16409, nameIndex := 27, descriptorIndex := 6, attributes := #[] }, { accessFlags := 16409, nameIndex := 30, descriptorIndex := 6, attributes := #[] }, { accessFlags := 16409, nameIndex := 33, descriptorIndex := 6, attributes := #[] }, { accessFlags := 18, nameIndex := 55, descriptorIndex := 56, attributes := #[] }, { accessFlags := 18, nameIndex := 59, descriptorIndex := 60, attributes := #[] }, { accessFlags := 18, nameIndex := 63, descriptorIndex := 60, attributes := #[] }, { accessFlags := 18, nameIndex := 66, descriptorIndex := 60, attributes := #[] }, { accessFlags := 4122, nameIndex := 36, descriptorIndex := 37, attributes := #[] }])
  fields := #[{ name := "SMALLINT", type := (.object "com/example/taproom/taproom/model/ColumnType"), accessFlags := 16409, slot := 0, constantValue := 0 }, { name := "INTEGER", type := (.object "com/example/taproom/taproom/model/ColumnType"), accessFlags := 16409, slot := 1, constantValue := 0 }, { name := "BIGINT", type := (.object "com/example/taproom/taproom/model/ColumnType"), accessFlags := 16409, slot := 2, constantValue := 0 }, { name := "REAL", type := (.object "com/example/taproom/taproom/model/ColumnType"), accessFlags := 16409, slot := 3, constantValue := 0 }, { name := "DOUBLE", type := (.object "com/example/taproom/taproom/model/ColumnType"), accessFlags := 16409, slot := 4, constantValue := 0 }, { name := "CHAR", type := (.object "com/example/taproom/taproom/model/ColumnType"), accessFlags := 16409, slot := 5, constantValue := 0 }, { name := "VARCHAR", type := (.object "com/example/taproom/taproom/model/ColumnType"), accessFlags := 16409, slot := 6, constantValue := 0 }, { name := "TIMESTAMP", type := (.object "com/example/taproom/taproom/model/ColumnType"), accessFlags := 16409, slot := 7, constantValue := 0 }, { name := "POINT", type := (.object "com/example/taproom/taproom/model/ColumnType"), accessFlags := 16409, slot := 8, constantValue := 0 }, { name := "REGION", type := (.object "com/example/taproom/taproom/model/ColumnType"), accessFlags := 16409, slot := 9, constantValue := 0 }, { name := "kind", type := (.object "com/example/taproom/taproom/model/ColumnType$Kind"), accessFlags := 18, slot := 3, constantValue := 0 }, { name := "votableDatatype", type := (.object "java/lang/String"), accessFlags := 18, slot := 4, constantValue := 0 }, { name := "votableArraysize", type := (.object "java/lang/String"), accessFlags := 18, slot := 5, constantValue := 0 }, { name := "votableXtype", type := (.object "java/lang/String"), accessFlags := 18, slot := 6, constantValue := 0 }, { name := "$VALUES", type := (.array (.object "com/example/taproom/taproom/model/ColumnType")), accessFlags := 4122, slot := 10, constantValue := 0 }]
  methods := #[k6m0]
  instanceTypes := #[(.object "java/lang/String"), .int, .int, (.object "com/example/taproom/taproom/model/ColumnType$Kind"), (.object "java/lang/String"), (.object "java/lang/String"), (.object "java/lang/String")]
  staticTypes := #[(.object "com/example/taproom/taproom/model/ColumnType"), (.object "com/example/taproom/taproom/model/ColumnType"), (.object "com/example/taproom/taproom/model/ColumnType"), (.object "com/example/taproom/taproom/model/ColumnType"), (.object "com/example/taproom/taproom/model/ColumnType"), (.object "com/example/taproom/taproom/model/ColumnType"), (.object "com/example/taproom/taproom/model/ColumnType"), (.object "com/example/taproom/taproom/model/ColumnType"), (.object "com/example/taproom/taproom/model/ColumnType"), (.object "com/example/taproom/taproom/model/ColumnType"), (.array (.object "com/example/taproom/taproom/model/ColumnType"))]
  resolved := Array.replicate 147 none
  statics := some 0 }

def pool7 : Array CpInfo := pool [(1, u "java/lang/Cloneable"), (0, .class_ 1), (0, u "java/lang/Object"), (0, .class_ 3)] 3

/-- java/lang/Cloneable -/
def k7 : Class := { plain "java/lang/Cloneable" (some 0) with
  accessFlags := 1537
  interfaces := #[]
  cf := some (fileOf pool7 2 #[] #[] 1537 4 #[] #[])
  fields := #[]
  methods := #[]
  instanceTypes := #[]
  staticTypes := #[]
  resolved := Array.replicate 8 none
  statics := none }

/-- the primitive byte -/
def k8 : Class := { plain "byte" none with kind := .primitive 'B', accessFlags := 0x411 }
/-- [B -/
def k9 : Class := { plain "[B" (some 0) with kind := .array 8 .byte, interfaces := #[7, 4], accessFlags := 1041 }

/-- the primitive int -/
def k10 : Class := { plain "int" none with kind := .primitive 'I', accessFlags := 0x411 }
/-- [I -/
def k11 : Class := { plain "[I" (some 0) with kind := .array 10 .int, interfaces := #[7, 4], accessFlags := 1041 }

def heap : Heap := #[{ cls := 6, slots := #[.ref 1, .ref 3, .ref 4, .ref 2, .ref 5, .ref 9, .ref 10, .ref 6, .ref 7, .ref 8, .null], vm := .statics 6 },
  { cls := 6, slots := #[.null, .int 0, .int 0, .null, .null, .null, .null], vm := .none },
  { cls := 6, slots := #[.null, .int 3, .int 0, .null, .null, .null, .null], vm := .none },
  { cls := 6, slots := #[.null, .int 1, .int 0, .null, .null, .null, .null], vm := .none },
  { cls := 6, slots := #[.null, .int 2, .int 0, .null, .null, .null, .null], vm := .none },
  { cls := 6, slots := #[.null, .int 4, .int 0, .null, .null, .null, .null], vm := .none },
  { cls := 6, slots := #[.null, .int 7, .int 0, .null, .null, .null, .null], vm := .none },
  { cls := 6, slots := #[.null, .int 8, .int 0, .null, .null, .null, .null], vm := .none },
  { cls := 6, slots := #[.null, .int 9, .int 0, .null, .null, .null, .null], vm := .none },
  { cls := 6, slots := #[.null, .int 5, .int 0, .null, .null, .null, .null], vm := .none },
  { cls := 6, slots := #[.null, .int 6, .int 0, .null, .null, .null, .null], vm := .none }]
def classes : Array Class := #[k0, k1, k2, k3, k4, k5, k6, k7, k8, k9, k10, k11]
def interned : List (Array UInt16 × Addr) := []
def slotsUsed : Nat := 81
def theMethod : MethodId := ⟨1, 2⟩
def args0 : Array Value := #[.int 1]
def aboutOver (below : List Frame) : State where
  vm := { classes := classes, interned := interned.toArray }
  heap := heap
  slotsUsed := slotsUsed
  threads := #[{ frames := .invoking theMethod args0 :: below }]
def below0 : List Frame := [.native { method := ⟨0, 0⟩, args := #[] }]
def about1 : State := aboutOver below0
def p0 : Program := .bare "" "" ""
def e0 : Env := launch0.env 0 0 0
theorem w_frames : about1.frames = Frame.invoking theMethod args0 :: below0 := rfl
set_option maxRecDepth 65536 in
theorem w_args : argsFit about1.vm theMethod args0 = true := by decide +kernel
set_option maxRecDepth 65536 in
theorem w_heap : heapFits about1 = true := by decide +kernel
set_option maxRecDepth 65536 in
theorem w_runnable : about1.curStatus? = some .runnable := by decide +kernel
set_option maxRecDepth 65536 in
theorem w_alone : about1.alone = true := by decide +kernel
set_option maxRecDepth 65536 in
theorem w_named : about1.methodNamed? x = some theMethod := by decide +kernel
set_option maxRecDepth 65536 in
theorem w_hears : about1.hears theMethod below0 = true := by decide +kernel
set_option maxRecDepth 65536 in
theorem w_ripe : about1.ripe theMethod args0 below0 = true := by decide +kernel
theorem w_running : about1.status = .running := rfl
set_option maxRecDepth 65536 in
theorem w_room : about1.hasRoom e0.platform room_1 = true :=
  launch0.hasRoom_least _ room_1 (by decide +kernel) (by decide +kernel) (by decide +kernel) (by decide +kernel) (by decide +kernel) (by decide +kernel)
theorem allAtoms_all (ts : List Jvm.Cond) (a : Array Jvm.Value) (st : Jvm.State) : (allAtoms ts).before a st = ts.all (fun c => c.before a st) := by
  induction ts with
  | nil => rfl
  | cons c t ih =>
    show (Jvm.Cond.and c (allAtoms t)).before a st = _
    rw [Jvm.Cond.before_and, ih, List.all_cons]
def words1 : List Jvm.Cond := Jvm.Cond.code x code maxLocals ret :: tables_1
/-- a 'code' word, met by the world's own term for the bytes: nothing is compared byte by byte -/
theorem code_word {y : MethodName} {bytes : ByteArray} {mx : Nat} {rt : Option FieldType} {a : Array Value} {s : State} {m : MethodId} {meth : Method} {c : Code} (h1 : s.methodNamed? y = some m) (h2 : s.vm.method? m = some meth) (h3 : meth.code = some c) (h4 : c.code = bytes)
    (h5 : (c.maxLocals == mx && c.exceptionTable.isEmpty && decide (c.maxStack ≤ mostOperands) && decide (meth.sig.returnType = rt) && !meth.locks && decide (parseMethodDescriptor y.desc = some meth.sig)) = true) : (Jvm.Cond.code y bytes mx rt).before a s = true := by
  simp only [Bool.and_eq_true, beq_iff_eq, Bool.not_eq_true', decide_eq_true_eq] at h5
  obtain ⟨⟨⟨⟨⟨g1, g2⟩, g3⟩, g4⟩, g5⟩, g6⟩ := h5
  simp [Cond.before, Cond.holds, Cond.value, h1, h2, h3, h4, g1, g2, g3, g4, g5, g6]
def isCode : Jvm.Cond → Bool
  | .code _ _ _ _ => true
  | _ => false
theorem all_split {L : List Jvm.Cond} {P : Jvm.Cond → Bool} (h1 : L.all (fun c => isCode c || P c) = true) (h2 : ∀ c ∈ L.filter isCode, P c = true) : L.all P = true := by
  refine List.all_eq_true.mpr fun c hc => ?_
  have h := List.all_eq_true.mp h1 c hc
  rcases Bool.eq_false_or_eq_true (isCode c) with hi | hi
  · exact h2 c (List.mem_filter.mpr ⟨hc, hi⟩)
  · simpa [hi] using h
set_option maxRecDepth 65536 in
theorem w_c0 : (Jvm.Cond.code x code maxLocals ret).before args0 about1 = true := code_word (m := ⟨1, 2⟩) (meth := k1m2) (c := k1c2) (by decide +kernel) rfl rfl rfl (by decide +kernel)
set_option maxRecDepth 65536 in
theorem w_c1 : (Jvm.Cond.code ({ cls := "com/example/taproom/taproom/model/ColumnTypeIsWholePinLaw", name := "pick", desc := "(I)Lcom/example/taproom/taproom/model/ColumnType;" } : Jvm.MethodName) method_2_code (1 : Nat) (Option.some (Jvm.ClassFile.FieldType.object "com/example/taproom/taproom/model/ColumnType"))).before args0 about1 = true := code_word (m := ⟨1, 1⟩) (meth := k1m1) (c := k1c1) (by decide +kernel) rfl rfl rfl (by decide +kernel)
set_option maxRecDepth 65536 in
theorem w_c2 : (Jvm.Cond.code ({ cls := "com/example/taproom/taproom/model/ColumnType", name := "isWhole", desc := "()Z" } : Jvm.MethodName) prog_61_method_5_code (1 : Nat) (Option.some Jvm.ClassFile.FieldType.boolean)).before args0 about1 = true := code_word (m := ⟨6, 0⟩) (meth := k6m0) (c := k6c0) (by decide +kernel) rfl rfl rfl (by decide +kernel)
def codes1 : List Jvm.Cond := [Jvm.Cond.code x code maxLocals ret, Jvm.Cond.code ({ cls := "com/example/taproom/taproom/model/ColumnTypeIsWholePinLaw", name := "pick", desc := "(I)Lcom/example/taproom/taproom/model/ColumnType;" } : Jvm.MethodName) method_2_code (1 : Nat) (Option.some (Jvm.ClassFile.FieldType.object "com/example/taproom/taproom/model/ColumnType")), Jvm.Cond.code ({ cls := "com/example/taproom/taproom/model/ColumnType", name := "isWhole", desc := "()Z" } : Jvm.MethodName) prog_61_method_5_code (1 : Nat) (Option.some Jvm.ClassFile.FieldType.boolean)]
set_option maxRecDepth 65536 in
theorem codes_eq : words1.filter isCode = codes1 := rfl
theorem w_codes : ∀ c ∈ words1.filter isCode, c.before args0 about1 = true := by
  rw [codes_eq]
  intro c hc
  simp only [codes1, List.mem_cons, List.not_mem_nil, or_false] at hc
  rcases hc with rfl | rfl | rfl
  · exact w_c0
  · exact w_c1
  · exact w_c2
set_option maxRecDepth 65536 in
theorem w_t1 : (words1.take 24).all (fun c => isCode c || c.before args0 about1) = true := by decide +kernel
set_option maxRecDepth 65536 in
theorem w_t2 : (words1.drop 24).all (fun c => isCode c || c.before args0 about1) = true := by decide +kernel
theorem w_tables : (allAtoms (Jvm.Cond.code x code maxLocals ret :: tables_1)).before args0 about1 = true := by
  rw [allAtoms_all]
  show words1.all (fun c => c.before args0 about1) = true
  refine all_split ?_ w_codes
  rw [← List.take_append_drop 24 words1, List.all_append, w_t1, w_t2]
  rfl
set_option maxRecDepth 65536 in
theorem w_case : (Jvm.Cond.and given_1 narrow_1).before args0 about1 = true := by decide +kernel
theorem w_applies : (headSpec (Jvm.Cond.code x code maxLocals ret :: tables_1) room_1).applies x e0.platform about1 = true :=
  (Spec.applies_iff w_frames).mpr ⟨w_running, w_runnable, w_alone, w_named, w_hears, w_ripe, w_room, w_tables⟩
theorem atStart : AtStart classFile x code maxLocals ret World_1 tables_1 room_1 Calls_1 rest_1 Pre_1 launch0 p0 e0 about1 theMethod args0 below0 :=
  ⟨lists_1, trivial, launch0.admits_env _ _ _, launch0.least_env, fairChoices_fair.cas, fairChoices_fair.clock, w_frames, w_args, w_heap, w_applies, trivial, trivial, w_case⟩
end start1
theorem witness_1 : WitnessClaimed_1 := ⟨start1.p0, start1.e0, start1.about1, start1.theMethod, start1.args0, start1.below0, start1.atStart⟩
end Jvm.Pilot.@@N@@
