import JvmDerived
import JvmDerived.Pilot.@@N@@Statement
import JvmDerived.Pilot.@@N@@Code
set_option linter.unusedVariables false
set_option linter.unusedSimpArgs false
namespace Jvm.RoadKit
open Sem ClassFile Op Lib Jvm.Stand Jvm.Free Jvm.LawKit
section New
variable {p : Program} {l : Launch} {e : Env} {R : Room} {s : State} {m : MethodId} {args : Array Value} {below : List Frame} {meth : Method} {c : Code} {T : State} {locs : List Loc} {cells slots : Nat}
theorem retI (X : Stand p l e R s m args below meth c T locs cells slots) (hx : p.tables.exec = Jvm.exec) {pc : Nat} {Ls : Array Slot} {z : Int32} {rest : List Value} (hret : meth.sig.returnType = some .int) (hd : decode c.code pc = .ok (.ireturn, 1)) {fs : List Frame}
    (hl : ∀ (f : JFrame) (acts : List Action), f.method = m → f.locked = none → f.entered = [] → (doReturn e (T.setTop f) acts (some (.int z))).1 = T.setFrames fs) : Steps p.tables e below (T.setTop (mkF m pc Ls (.int z :: rest))) (T.setFrames fs) := by
  have hm' : T.vm.method? m = some meth := X.method'
  have hn : narrow .int (.int z) = .int z := rfl
  show Steps p.tables e below (T.setTop { method := m, pc := pc, locals := Ls, stack := _ :: rest, locked := none }) _
  jvm_step X.here [X.here.top, hx, hd, hm', hret, hn]
  first | (intro acts; rw [hl _ acts rfl rfl rfl]) | rw [hl _ _ rfl rfl rfl]
  exact Steps.refl _
/-- the run comes from S to a state of which Φ holds -/
def ownGo (tb : Tables) (e : Env) (below : List Frame) (S : State) (Φ : State → Prop) : Prop := ∃ t, Steps tb e below S t ∧ Φ t
theorem ownStep {tb : Tables} {S S' : State} {Φ : State → Prop} (h : ∀ t, Steps tb e below S' t → Steps tb e below S t) (k : ownGo tb e below S' Φ) : ownGo tb e below S Φ := by
  obtain ⟨t, a, b⟩ := k; exact ⟨t, h t a, b⟩
/-- a body's end: what its contract says -/
def ownEnd (below : List Frame) (s : State) (Q : Option Value → Heap → List Loc → Prop) (k n : Nat) (t : State) : Prop :=
  t.status = .running ∧ ∃ v L, Ended t below (.returned v) ∧ Q v t.heap L ∧ FrameEnd s (.returned v) t L k n
theorem ownFin {tb : Tables} {S : State} {Q : Option Value → Heap → List Loc → Prop} {k n : Nat} (h : ownGo tb e below S (ownEnd below s Q k n)) :
    ∃ s₂ o, Steps tb e below S s₂ ∧ s₂.status = .running ∧ Ended s₂ below o ∧ ∃ v L, o = .returned v ∧ Q v s₂.heap L ∧ FrameEnd s o s₂ L k n := by
  obtain ⟨t, a, b, v, L, c1, d, f⟩ := h; exact ⟨t, _, a, b, c1, v, L, rfl, d, f⟩
theorem ownRet (X : Stand p l e R s m args below meth c T locs cells slots) {g : JFrame} {v : Option Value} {Q : Option Value → Heap → List Loc → Prop} {k n : Nat} (hlocks : meth.locks = false) (hv : meth.sig.returnType = none → v = none)
    (hs : ∀ fs, (∀ (f : JFrame) (acts : List Action), f.method = m → f.locked = none → f.entered = [] → (doReturn e (T.setTop f) acts v).1 = T.setFrames fs) → Steps p.tables e below (T.setTop g) (T.setFrames fs))
    (hQ : Q v T.heap locs) (hc : cells ≤ k) (hn : slots ≤ n) : ownGo p.tables e below (T.setTop g) (ownEnd below s Q k n) := by
  obtain ⟨fs, hr, hrun, hended, hW, hsame⟩ := X.leave hv hlocks
  exact ⟨_, hs fs hr, hrun, v, locs, hended, hQ, ⟨_, rfl⟩, hW, hsame.mono hc hn⟩
end New
section Heaps
variable {Z : State} {h h' h0 : Heap} {ws : List Addr}
theorem own_extOf (K : Keep h h' []) : Ext h h' := ⟨K.1, fun a c q => K.2.1 a c q nin0⟩
theorem own_extRefl (h : Heap) : Ext h h := ⟨Nat.le_refl _, fun _ _ q => q⟩
theorem own_extTrans {h2 : Heap} (E : Ext h h') (F : Ext h' h2) : Ext h h2 := ⟨Nat.le_trans E.1 F.1, fun a c q => F.2 a c (E.2 a c q)⟩
theorem own_staKeep {C n d : String} {w : Value} (F : Sta Z h C n d w) (K : Keep h h' ws) (q : ∀ x ∈ ws, ∀ cell : Cell, h[x]? = some cell → cell.vm.isStatics = false) : Sta Z h' C n d w := by
  obtain ⟨cf, i, k, f, st, cell, h1, h2, h3, h4, h5, h6, h7⟩ := F
  exact ⟨cf, i, k, f, st, cell, h1, h2, h3, h4, K.2.1 st cell h5 (fun z => by rw [q st z cell h5] at h6; cases h6), h6, h7⟩
theorem own_insKeep {a : Addr} {C : String} {b : Bool} (F : Ins Z h a C b) (K : Keep h h' ws) : Ins Z h' a C b := by
  obtain ⟨cell, cT, h1, h2, h3⟩ := F
  obtain ⟨c', e1, e2, e3, -⟩ := K.2.2 a cell h1
  exact ⟨c', cT, e1, h2, by rw [e2, e3]; exact h3⟩
theorem own_scrSet {a : Addr} {cl : Cell} {z j x : Int32} (F : Scr Z h a cl z) (hj : ¬ (j < 0 ∨ cl.slots.size ≤ j.toNatClampNeg)) (W : Wr h h' a j.toNatClampNeg (.int x)) : ∃ cl', Scr Z h' a cl' z := by
  obtain ⟨A, S, N, H⟩ := F
  refine ⟨_, A.same W, by rw [sz_set]; exact S, N, fun i hi => ?_⟩
  rw [sz_set] at hi
  by_cases e : i = j
  · have q := get_hit (v := Value.int x) hj e
    rw [q, atv_of q]
  · have q := get_miss (c := cl) (v := Value.int x) (fun y => hj (Or.inl y)) (fun y => hi (Or.inl y)) e
    have r := H i hi
    rw [← q] at r
    rw [r, atv_of r]
theorem own_scrOf {a : Addr} {k : ClassId} {z : Int32} {vs : List Value} {d : Value} (F : Arv Z h a k .int z vs d) : ∃ cl, Scr Z h a cl z := by
  obtain ⟨c, A, q, S, N, H, G⟩ := F
  refine ⟨c, A, S, N, fun i hi => ?_⟩
  have lt : i.toNatClampNeg < c.slots.size := Nat.lt_of_not_le fun y => hi (Or.inr y)
  obtain ⟨w, hw⟩ := fit_I (G _ lt) (Or.inl rfl)
  have e := H _ lt
  rw [hw] at e
  rw [e, atv_of e]
end Heaps
section Start
variable {args : Array Value} {first s : State} {o : Option Outcome} {idx : List Nat} {t : Term}
theorem own_eqI {k : Int32} (h : (Cond.eq t (.int k)).value args first o s idx = some true) : t.eval args first o idx s = some (.int k) := by
  simp only [Cond.value, Term.eval] at h
  cases ht : t.eval args first o idx s with
  | none => simp [ht] at h
  | some x => cases x <;> simp [ht] at h ⊢; exact h
theorem own_len0 {k : Int32} {a : Addr} {cl : Cell} {ty : FieldType} (h : (Term.length t).eval args first o idx s = some (.int k)) (ht : t.eval args first o idx s = some (.ref a)) (A : Arr s s.heap a cl ty) : cl.slots.size < 2 ^ 31 ∧ cl.slots.size.toInt32 = k := by
  have e5 := A.fin (U := s) (Vm.Alike.refl _)
  simp only [Term.eval, ht, Option.bind_eq_bind, Option.bind_some, e5] at h
  by_cases q : cl.slots.size < 2 ^ 31
  · rw [if_pos q] at h; exact ⟨q, Value.int.inj (Option.some.inj h)⟩
  · rw [if_neg q] at h; cases h
theorem own_idxsub {k j : Int32} (hj : ¬ j < 0) : (Term.sub (.index 0) (.int k)).eval args s o [j.toNatClampNeg] s = some (.int (j - k)) := by
  have q : (Term.index 0).eval args s o [j.toNatClampNeg] s = some (.int j) := idx_at hj
  simp only [Term.eval] at q ⊢
  simpa using q
theorem own_arv0 {Z : State} {a : Addr} {cl : Cell} {ty : FieldType} {d : Value} (A : Arr Z s.heap a cl ty) (h : cl.slots.size < 2 ^ 31 ∧ cl.slots.size.toInt32 = (0 : Int32)) : Arv Z s.heap a cl.cls ty (0 : Int32) [] d := by
  have z : cl.slots.size = 0 := by
    have q := len_toInt h.1
    rw [h.2] at q
    have e0 : (0 : Int32).toInt = 0 := by decide
    omega
  exact ⟨cl, A, rfl, z, by decide, fun k hk => absurd hk (by omega), fun k hk => absurd hk (by omega)⟩
end Start
end Jvm.RoadKit
namespace Jvm.Pilot.@@N@@
open Jvm Jvm.ClassFile Sem Op Lib Jvm.Free Jvm.Stand Jvm.LawKit Jvm.RoadKit Bundle Jvm.Pilot.@@N@@.Jvm.D
theorem own_opP_d0 : decode prog_54_method_6_code 0 = .ok (.aload_n 0, 1) := by decide +kernel
theorem own_opP_d1 : decode prog_54_method_6_code 1 = .ok (.getstatic 3, 3) := by decide +kernel
theorem own_opP_d4 : decode prog_54_method_6_code 4 = .ok (.if_acmp .ne 9, 3) := by decide +kernel
theorem own_opP_d7 : decode prog_54_method_6_code 7 = .ok (.getstatic 7, 3) := by decide +kernel
theorem own_opP_d10 : decode prog_54_method_6_code 10 = .ok (.goto 6, 3) := by decide +kernel
theorem own_opP_d16 : decode prog_54_method_6_code 16 = .ok (.areturn, 1) := by decide +kernel
theorem own_opP_pn : plainName "com/example/nimble_contract/nimblecontract/decision/Effect" = true := by first | (simp [plainName, overriddenIn]; done) | decide +kernel
theorem own_opP_ef (m : MethodId) (x0 : Addr) : entryFrame m #[(.ref x0)] 1 = mkF m 0 #[.val (.ref x0)] [] := by first | (simp [entryFrame, mkF, argsToLocals, Value.category]; done) | rfl
def own_opP_Q (Z : State) (pe : Addr) (de : Addr) (h0 : Heap) (n0 : Nat) (v : Option Value) (h : Heap) (L : List Loc) : Prop := v = some (.ref de) ∧ Fr n0 L ∧ h = h0
set_option maxRecDepth 65536 in
set_option maxHeartbeats 40000000 in
theorem own_opP (l : Launch) (Z : State) (a0 : Array Value) (hw : ∀ d ∈ tables_1, d.before a0 Z = true) (ws : List Jvm.Cond) (pe : Addr) (de : Addr) (h0 : Heap) (n0 : Nat) (Z0 : n0 ≤ h0.size) (S1 : Sta Z h0 "com/example/nimble_contract/nimblecontract/decision/Effect" "PERMIT" "Lcom/example/nimble_contract/nimblecontract/decision/Effect;" (.ref pe)) (S2 : Sta Z h0 "com/example/nimble_contract/nimblecontract/decision/Effect" "DENY" "Lcom/example/nimble_contract/nimblecontract/decision/Effect;" (.ref de)) :
    MetFree l (⟨"com/example/nimble_contract/nimblecontract/decision/Effect", "opposite", "()Lcom/example/nimble_contract/nimblecontract/decision/Effect;"⟩ : MethodName) (head1 (Jvm.Cond.code (⟨"com/example/nimble_contract/nimblecontract/decision/Effect", "opposite", "()Lcom/example/nimble_contract/nimblecontract/decision/Effect;"⟩ : MethodName) prog_54_method_6_code 1 (some (.object "com/example/nimble_contract/nimblecontract/decision/Effect")) :: ws) ({ frames := 0, cells := 0, slots := 0, locals := 0 } : Room)) (fun a U => a = #[(.ref pe)] ∧ Z.Warmed39 U.vm ∧ U.heap = h0) (fun _ _ _ _ _ => True) (fun _ U o U' => ∃ v L, o = .returned v ∧ own_opP_Q Z pe de h0 n0 v U'.heap L ∧ FrameEnd U o U' L ({ frames := 0, cells := 0, slots := 0, locals := 0 } : Room).cells ({ frames := 0, cells := 0, slots := 0, locals := 0 } : Room).slots) := by
  refine MetFree.of_bodySF (plainFor_of_name own_opP_pn) hisR ?_
  intro p e s m args below meth c s₁ Bd hml0 hP hK
  obtain ⟨rfl, hZ, hh⟩ := hP
  have hx := Bd.exec
  have hby := Bd.bytes
  have hml : c.maxLocals = 1 := hml0
  have hown : s.vm.findClass "com/example/nimble_contract/nimblecontract/decision/Effect" = some m.cls := findClass_of_methodNamed Bd.named
  have hnm := (name_of_methodNamed Bd.named Bd.method).1
  have X0 : Stand p l e ({ frames := 0, cells := 0, slots := 0, locals := 0 } : Room) s m #[(.ref pe)] below meth c s₁ [] 0 0 := Stand.of_body Bd
  have e0 : s₁.heap = h0 := by rw [← hh, Bd.state]; rfl
  have N0 := Fr.nil n0
  have KP0 : Keep h0 h0 [] := Keep.refl _ _
  refine ownFin (Q := own_opP_Q Z pe de h0 n0) ?_
  refine ownStep (fun _ k => castTop (own_opP_ef m pe) k) ?_
  show ownGo p.tables e below (s₁.setTop (mkF m 0 #[.val (.ref pe)] [])) _
  refine ownStep (fun _ k => XS.aloadN X0.here hx rfl (hb hby own_opP_d0) rfl rfl k) ?_
  show ownGo p.tables e below (s₁.setTop (mkF m 1 #[.val (.ref pe)] [(.ref pe)])) _
  obtain ⟨T1, X1, e1, st1⟩ := getS2 X0 hx hZ hown (host := "") (Or.inl (hw _ (List.mem_of_getElem? (i := 8) rfl))) Via.refl e0 S1 (g := (mkF m 1 #[.val (.ref pe)] [(.ref pe)])) rfl (hb hby own_opP_d1)
  refine ownStep st1 ?_
  show ownGo p.tables e below (T1.setTop (mkF m 4 #[.val (.ref pe)] [(.ref pe), (.ref pe)])) _
  refine ownStep (fun _ k => Jvm.RoadKit.acmp (g := (mkF m 4 #[.val (.ref pe)] [(.ref pe), (.ref pe)])) X1 hx rfl rfl rfl (pc0 := 4) (pc' := 7) (same := true) rfl (hb hby own_opP_d4) rfl (decide_eq_true rfl) (by decide) (by decide) k) ?_
  show ownGo p.tables e below (T1.setTop (mkF m 7 #[.val (.ref pe)] [])) _
  obtain ⟨T2, X2, e2, st2⟩ := getS2 X1 hx hZ hown (host := "") (Or.inl (hw _ (List.mem_of_getElem? (i := 10) rfl))) Via.refl e1 S2 (g := (mkF m 7 #[.val (.ref pe)] [])) rfl (hb hby own_opP_d7)
  refine ownStep st2 ?_
  refine ownStep (fun _ k => XS.goto X2.here hx rfl (pc0 := 10) (pc' := 16) rfl (hb hby own_opP_d10) (by decide) (by decide) k) ?_
  show ownGo p.tables e below (T2.setTop (mkF m 16 #[.val (.ref pe)] [(.ref de)])) _
  exact ownRet X2 (v := some (.ref de)) Bd.notSynchronized (fun h => by rw [Bd.returns] at h; cases h) (fun _ hr => retOut X2 hx (t := (.object "com/example/nimble_contract/nimblecontract/decision/Effect")) Bd.returns rfl (Or.inr (Or.inr (Or.inr (Or.inr ⟨rfl, rfl, rfl⟩)))) (hb hby own_opP_d16) hr) (by rw [e2]; exact ⟨rfl, N0, rfl⟩) (by decide) (by decide)
theorem own_opD_d0 : decode prog_54_method_6_code 0 = .ok (.aload_n 0, 1) := by decide +kernel
theorem own_opD_d1 : decode prog_54_method_6_code 1 = .ok (.getstatic 3, 3) := by decide +kernel
theorem own_opD_d4 : decode prog_54_method_6_code 4 = .ok (.if_acmp .ne 9, 3) := by decide +kernel
theorem own_opD_d13 : decode prog_54_method_6_code 13 = .ok (.getstatic 3, 3) := by decide +kernel
theorem own_opD_d16 : decode prog_54_method_6_code 16 = .ok (.areturn, 1) := by decide +kernel
theorem own_opD_pn : plainName "com/example/nimble_contract/nimblecontract/decision/Effect" = true := by first | (simp [plainName, overriddenIn]; done) | decide +kernel
theorem own_opD_ef (m : MethodId) (x0 : Addr) : entryFrame m #[(.ref x0)] 1 = mkF m 0 #[.val (.ref x0)] [] := by first | (simp [entryFrame, mkF, argsToLocals, Value.category]; done) | rfl
def own_opD_Q (Z : State) (pe : Addr) (de : Addr) (h0 : Heap) (n0 : Nat) (v : Option Value) (h : Heap) (L : List Loc) : Prop := v = some (.ref pe) ∧ Fr n0 L ∧ h = h0
set_option maxRecDepth 65536 in
set_option maxHeartbeats 40000000 in
theorem own_opD (l : Launch) (Z : State) (a0 : Array Value) (hw : ∀ d ∈ tables_1, d.before a0 Z = true) (ws : List Jvm.Cond) (pe : Addr) (de : Addr) (h0 : Heap) (n0 : Nat) (Z0 : n0 ≤ h0.size) (S1 : Sta Z h0 "com/example/nimble_contract/nimblecontract/decision/Effect" "PERMIT" "Lcom/example/nimble_contract/nimblecontract/decision/Effect;" (.ref pe)) (S2 : Sta Z h0 "com/example/nimble_contract/nimblecontract/decision/Effect" "DENY" "Lcom/example/nimble_contract/nimblecontract/decision/Effect;" (.ref de)) (hne : ¬ de = pe) :
    MetFree l (⟨"com/example/nimble_contract/nimblecontract/decision/Effect", "opposite", "()Lcom/example/nimble_contract/nimblecontract/decision/Effect;"⟩ : MethodName) (head1 (Jvm.Cond.code (⟨"com/example/nimble_contract/nimblecontract/decision/Effect", "opposite", "()Lcom/example/nimble_contract/nimblecontract/decision/Effect;"⟩ : MethodName) prog_54_method_6_code 1 (some (.object "com/example/nimble_contract/nimblecontract/decision/Effect")) :: ws) ({ frames := 0, cells := 0, slots := 0, locals := 0 } : Room)) (fun a U => a = #[(.ref de)] ∧ Z.Warmed39 U.vm ∧ U.heap = h0) (fun _ _ _ _ _ => True) (fun _ U o U' => ∃ v L, o = .returned v ∧ own_opD_Q Z pe de h0 n0 v U'.heap L ∧ FrameEnd U o U' L ({ frames := 0, cells := 0, slots := 0, locals := 0 } : Room).cells ({ frames := 0, cells := 0, slots := 0, locals := 0 } : Room).slots) := by
  refine MetFree.of_bodySF (plainFor_of_name own_opD_pn) hisR ?_
  intro p e s m args below meth c s₁ Bd hml0 hP hK
  obtain ⟨rfl, hZ, hh⟩ := hP
  have hx := Bd.exec
  have hby := Bd.bytes
  have hml : c.maxLocals = 1 := hml0
  have hown : s.vm.findClass "com/example/nimble_contract/nimblecontract/decision/Effect" = some m.cls := findClass_of_methodNamed Bd.named
  have hnm := (name_of_methodNamed Bd.named Bd.method).1
  have X0 : Stand p l e ({ frames := 0, cells := 0, slots := 0, locals := 0 } : Room) s m #[(.ref de)] below meth c s₁ [] 0 0 := Stand.of_body Bd
  have e0 : s₁.heap = h0 := by rw [← hh, Bd.state]; rfl
  have N0 := Fr.nil n0
  have KP0 : Keep h0 h0 [] := Keep.refl _ _
  refine ownFin (Q := own_opD_Q Z pe de h0 n0) ?_
  refine ownStep (fun _ k => castTop (own_opD_ef m de) k) ?_
  show ownGo p.tables e below (s₁.setTop (mkF m 0 #[.val (.ref de)] [])) _
  refine ownStep (fun _ k => XS.aloadN X0.here hx rfl (hb hby own_opD_d0) rfl rfl k) ?_
  show ownGo p.tables e below (s₁.setTop (mkF m 1 #[.val (.ref de)] [(.ref de)])) _
  obtain ⟨T1, X1, e1, st1⟩ := getS2 X0 hx hZ hown (host := "") (Or.inl (hw _ (List.mem_of_getElem? (i := 8) rfl))) Via.refl e0 S1 (g := (mkF m 1 #[.val (.ref de)] [(.ref de)])) rfl (hb hby own_opD_d1)
  refine ownStep st1 ?_
  show ownGo p.tables e below (T1.setTop (mkF m 4 #[.val (.ref de)] [(.ref pe), (.ref de)])) _
  refine ownStep (fun _ k => Jvm.RoadKit.acmp (g := (mkF m 4 #[.val (.ref de)] [(.ref pe), (.ref de)])) X1 hx rfl rfl rfl (pc0 := 4) (pc' := 13) (same := false) rfl (hb hby own_opD_d4) rfl (decide_eq_false fun q => hne (Value.ref.inj q)) (by decide) (by decide) k) ?_
  show ownGo p.tables e below (T1.setTop (mkF m 13 #[.val (.ref de)] [])) _
  obtain ⟨T2, X2, e2, st2⟩ := getS2 X1 hx hZ hown (host := "") (Or.inl (hw _ (List.mem_of_getElem? (i := 8) rfl))) Via.refl e1 S1 (g := (mkF m 13 #[.val (.ref de)] [])) rfl (hb hby own_opD_d13)
  refine ownStep st2 ?_
  show ownGo p.tables e below (T2.setTop (mkF m 16 #[.val (.ref de)] [(.ref pe)])) _
  exact ownRet X2 (v := some (.ref pe)) Bd.notSynchronized (fun h => by rw [Bd.returns] at h; cases h) (fun _ hr => retOut X2 hx (t := (.object "com/example/nimble_contract/nimblecontract/decision/Effect")) Bd.returns rfl (Or.inr (Or.inr (Or.inr (Or.inr ⟨rfl, rfl, rfl⟩)))) (hb hby own_opD_d16) hr) (by rw [e2]; exact ⟨rfl, N0, rfl⟩) (by decide) (by decide)
theorem own_law_pn : plainName "com/example/nimble_contract/nimblecontract/decision/EffectOppositePinLaw" = true := by first | (simp [plainName, overriddenIn]; done) | decide +kernel
theorem own_law_pd0 : parseMethodDescriptor "()Lcom/example/nimble_contract/nimblecontract/decision/Effect;" = some ⟨[], some (.object "com/example/nimble_contract/nimblecontract/decision/Effect")⟩ := by decide +kernel
theorem own_law_ef (m : MethodId) (x0 : Int32) : entryFrame m #[(.int x0)] maxLocals = mkF m 0 #[.val (.int x0), .unset, .unset, .unset] [] := by first | (simp [entryFrame, mkF, argsToLocals, Value.category, maxLocals]; done) | rfl
def own_law_Q (Z : State) (px : Int32) (pe : Addr) (de : Addr) (h0 : Heap) (n0 : Nat) (v : Option Value) (h : Heap) (L : List Loc) : Prop := v = some (.int (1 : Int32)) ∧ Fr n0 L ∧ h = h0
set_option maxRecDepth 65536 in
set_option maxHeartbeats 40000000 in
theorem own_law (l : Launch) (Z : State) (a0 : Array Value) (hw : ∀ d ∈ tables_1, d.before a0 Z = true) (ws : List Jvm.Cond) (px : Int32) (pe : Addr) (de : Addr) (h0 : Heap) (n0 : Nat) (Z0 : n0 ≤ h0.size) (S1 : Sta Z h0 "com/example/nimble_contract/nimblecontract/decision/Effect" "PERMIT" "Lcom/example/nimble_contract/nimblecontract/decision/Effect;" (.ref pe)) (S2 : Sta Z h0 "com/example/nimble_contract/nimblecontract/decision/Effect" "DENY" "Lcom/example/nimble_contract/nimblecontract/decision/Effect;" (.ref de)) (E1 : Exa Z h0 pe "com/example/nimble_contract/nimblecontract/decision/Effect") (E2 : Exa Z h0 de "com/example/nimble_contract/nimblecontract/decision/Effect") (hne : ¬ de = pe) :
    MetFree l x (head1 (Jvm.Cond.code x code maxLocals ret :: ws) room_1) (fun a U => a = #[(.int px)] ∧ Z.Warmed39 U.vm ∧ U.heap = h0) (fun _ _ _ _ _ => True) (fun _ U o U' => ∃ v L, o = .returned v ∧ own_law_Q Z px pe de h0 n0 v U'.heap L ∧ FrameEnd U o U' L room_1.cells room_1.slots) := by
  refine MetFree.of_bodySF (plainFor_of_name own_law_pn) hisR ?_
  intro p e s m args below meth c s₁ Bd hml0 hP hK
  obtain ⟨rfl, hZ, hh⟩ := hP
  have hx := Bd.exec
  have hby := Bd.bytes
  have hml : c.maxLocals = 4 := hml0
  have hown : s.vm.findClass "com/example/nimble_contract/nimblecontract/decision/EffectOppositePinLaw" = some m.cls := findClass_of_methodNamed Bd.named
  have hnm := (name_of_methodNamed Bd.named Bd.method).1
  have X0 : Stand p l e room_1 s m #[(.int px)] below meth c s₁ [] 0 0 := Stand.of_body Bd
  have e0 : s₁.heap = h0 := by rw [← hh, Bd.state]; rfl
  have N0 := Fr.nil n0
  have KP0 : Keep h0 h0 [] := Keep.refl _ _
  refine ownFin (Q := own_law_Q Z px pe de h0 n0) ?_
  refine ownStep (fun _ k => castTop (own_law_ef m px) k) ?_
  show ownGo p.tables e below (s₁.setTop (mkF m 0 #[.val (.int px), .unset, .unset, .unset] [])) _
  refine ownStep (fun _ k => XS.iloadN X0.here hx rfl (hb hby at_0) rfl  k) ?_
  refine ownStep (fun _ k => XS.iconst X0.here hx rfl (hb hby at_1) k) ?_
  refine ownStep (fun _ k => XS.iand X0.here hx rfl (hb hby at_2) rfl k) ?_
  show ownGo p.tables e below (s₁.setTop (mkF m 3 #[.val (.int px), .unset, .unset, .unset] [(.int (px &&& (1 : Int32)))])) _
  by_cases hc3 : (px &&& (1 : Int32)) = (0 : Int32)
  · skip
    refine ownStep (fun _ k => XS.ifYes X0.here hx rfl (pc0 := 3) (pc' := 10) rfl (hb hby at_3) rfl ((if0 _ _).trans (teq (hc3 : (px &&& (1 : Int32)) = (0 : Int32))).1) (by decide) (by decide) k) ?_
    refine ownStep (fun _ k => XS.iconst X0.here hx rfl (hb hby at_10) k) ?_
    refine ownStep (fun _ k => XS.istoreN X0.here hx rfl (hb hby at_11) rfl (l' := #[.val (.int px), .val (.int (0 : Int32)), .unset, .unset]) rfl k) ?_
    refine ownStep (fun _ k => XS.iloadN X0.here hx rfl (hb hby at_12) rfl  k) ?_
    refine ownStep (fun _ k => XS.ifYes X0.here hx rfl (pc0 := 13) (pc' := 22) rfl (hb hby at_13) rfl ((if0 _ _).trans (teq (by decide : (0 : Int32) = (0 : Int32))).1) (by decide) (by decide) k) ?_
    show ownGo p.tables e below (s₁.setTop (mkF m 22 #[.val (.int px), .val (.int (0 : Int32)), .unset, .unset] [])) _
    obtain ⟨T1, X1, e1, st1⟩ := getS2 X0 hx hZ hown (host := "") (Or.inl (hw _ (List.mem_of_getElem? (i := 0) rfl))) Via.refl e0 S2 (g := (mkF m 22 #[.val (.int px), .val (.int (0 : Int32)), .unset, .unset] [])) rfl (hb hby at_22)
    refine ownStep st1 ?_
    refine ownStep (fun _ k => XS.astoreN X1.here hx rfl (hb hby at_25) rfl rfl (l' := #[.val (.int px), .val (.int (0 : Int32)), .val (.ref de), .unset]) rfl k) ?_
    refine ownStep (fun _ k => XS.aloadN X1.here hx rfl (hb hby at_26) rfl rfl k) ?_
    show ownGo p.tables e below (T1.setTop (mkF m 27 #[.val (.int px), .val (.int (0 : Int32)), .val (.ref de), .unset] [(.ref de)])) _
    have Zs3 : n0 ≤ h0.size := Nat.le_trans Z0 KP0.1
    obtain ⟨cq2, kq2, q2a, q2b, q2c⟩ := isOf hZ e1 E2
    obtain ⟨_, _, ⟨T2, L2, k2, n2⟩, -, X2, ⟨Lc2, hQ2, l2, y2, z2⟩, st2⟩ := X1.virtualBack hx (y := (⟨"com/example/nimble_contract/nimblecontract/decision/Effect", "opposite", "()Lcom/example/nimble_contract/nimblecontract/decision/Effect;"⟩ : MethodName)) (z := (⟨"com/example/nimble_contract/nimblecontract/decision/Effect", "opposite", "()Lcom/example/nimble_contract/nimblecontract/decision/Effect;"⟩ : MethodName)) hown (mvT hZ (hw _ (List.mem_of_getElem? (i := 3) rfl))) (mvT hZ (hw _ (List.mem_of_getElem? (i := 4) rfl))) (notFace_of_selects (args := #[]) (mvT hZ (hw _ (List.mem_of_getElem? (i := 6) rfl)))) (mvT hZ (hw _ (List.mem_of_getElem? (i := 6) rfl))) (mvT hZ (hw _ (List.mem_of_getElem? (i := 5) rfl))) (by decide) (backOf (W := 0) (own_opD l Z a0 hw [] pe de h0 n0 Zs3 S1 S2 hne) hZ (hw _ (List.mem_of_getElem? (i := 7) rfl)) (hw _ (List.mem_of_getElem? (i := 1) rfl)) (by decide) (by decide)) q2a q2c (g := (mkF m 27 #[.val (.int px), .val (.int (0 : Int32)), .val (.ref de), .unset] [(.ref de)])) rfl (by rw [hml]; rfl) (Steps.refl _) (argsL := []) (rest := []) (lenOf own_law_pd0 rfl) rfl (by show 2 * 0 + _ ≤ _; exact Nat.le_of_eq rfl) (hb hby at_27) (fun _ _ => ⟨rfl, e1, (by decide : 0 + 0 ≤ _), (by decide : 0 + 0 ≤ _)⟩)
    dsimp only [Pt.U, Pt.locs, Pt.cells, Pt.slots] at X2 l2 y2 z2 st2 hQ2
    subst l2 y2 z2
    obtain ⟨rfl, N2q, R2⟩ := hQ2
    have N2 := Fr.app N0 N2q
    refine ownStep (fun _ k => st2.trans k) ?_
    refine ownStep (fun _ k => XS.astoreN X2.here hx rfl (hb hby at_30) rfl rfl (l' := #[.val (.int px), .val (.int (0 : Int32)), .val (.ref de), .val (.ref pe)]) rfl k) ?_
    refine ownStep (fun _ k => XS.aloadN X2.here hx rfl (hb hby at_31) rfl rfl k) ?_
    refine ownStep (fun _ k => XS.ifnonnullYes X2.here hx rfl (pc0 := 32) (pc' := 37) rfl (hb hby at_32) rfl (by decide) (by decide) k) ?_
    refine ownStep (fun _ k => XS.aloadN X2.here hx rfl (hb hby at_37) rfl rfl k) ?_
    show ownGo p.tables e below (T2.setTop (mkF m 38 #[.val (.int px), .val (.int (0 : Int32)), .val (.ref de), .val (.ref pe)] [(.ref pe)])) _
    refine ownStep (fun _ k => XS.aloadN X2.here hx rfl (hb hby at_38) rfl rfl k) ?_
    show ownGo p.tables e below (T2.setTop (mkF m 39 #[.val (.int px), .val (.int (0 : Int32)), .val (.ref de), .val (.ref pe)] [(.ref de), (.ref pe)])) _
    refine ownStep (fun _ k => Jvm.RoadKit.acmp (g := (mkF m 39 #[.val (.int px), .val (.int (0 : Int32)), .val (.ref de), .val (.ref pe)] [(.ref de), (.ref pe)])) X2 hx rfl rfl rfl (pc0 := 39) (pc' := 44) (same := false) rfl (hb hby at_39) rfl (decide_eq_false fun q => (fun z => hne z.symm) (Value.ref.inj q)) (by decide) (by decide) k) ?_
    refine ownStep (fun _ k => XS.aloadN X2.here hx rfl (hb hby at_44) rfl rfl k) ?_
    show ownGo p.tables e below (T2.setTop (mkF m 45 #[.val (.int px), .val (.int (0 : Int32)), .val (.ref de), .val (.ref pe)] [(.ref pe)])) _
    have Zs5 : n0 ≤ h0.size := Nat.le_trans Z0 KP0.1
    obtain ⟨cq4, kq4, q4a, q4b, q4c⟩ := isOf hZ R2 E1
    obtain ⟨_, _, ⟨T4, L4, k4, n4⟩, -, X4, ⟨Lc4, hQ4, l4, y4, z4⟩, st4⟩ := X2.virtualBack hx (y := (⟨"com/example/nimble_contract/nimblecontract/decision/Effect", "opposite", "()Lcom/example/nimble_contract/nimblecontract/decision/Effect;"⟩ : MethodName)) (z := (⟨"com/example/nimble_contract/nimblecontract/decision/Effect", "opposite", "()Lcom/example/nimble_contract/nimblecontract/decision/Effect;"⟩ : MethodName)) hown (mvT hZ (hw _ (List.mem_of_getElem? (i := 3) rfl))) (mvT hZ (hw _ (List.mem_of_getElem? (i := 4) rfl))) (notFace_of_selects (args := #[]) (mvT hZ (hw _ (List.mem_of_getElem? (i := 6) rfl)))) (mvT hZ (hw _ (List.mem_of_getElem? (i := 6) rfl))) (mvT hZ (hw _ (List.mem_of_getElem? (i := 5) rfl))) (by decide) (backOf (W := 0) (own_opP l Z a0 hw [] pe de h0 n0 Zs5 S1 S2) hZ (hw _ (List.mem_of_getElem? (i := 7) rfl)) (hw _ (List.mem_of_getElem? (i := 1) rfl)) (by decide) (by decide)) q4a q4c (g := (mkF m 45 #[.val (.int px), .val (.int (0 : Int32)), .val (.ref de), .val (.ref pe)] [(.ref pe)])) rfl (by rw [hml]; rfl) (Steps.refl _) (argsL := []) (rest := []) (lenOf own_law_pd0 rfl) rfl (by show 2 * 0 + _ ≤ _; exact Nat.le_of_eq rfl) (hb hby at_45) (fun _ _ => ⟨rfl, R2, (by decide : 0 + 0 ≤ _), (by decide : 0 + 0 ≤ _)⟩)
    dsimp only [Pt.U, Pt.locs, Pt.cells, Pt.slots] at X4 l4 y4 z4 st4 hQ4
    subst l4 y4 z4
    obtain ⟨rfl, N4q, R4⟩ := hQ4
    have N4 := Fr.app N2 N4q
    refine ownStep (fun _ k => st4.trans k) ?_
    refine ownStep (fun _ k => XS.aloadN X4.here hx rfl (hb hby at_48) rfl rfl k) ?_
    show ownGo p.tables e below (T4.setTop (mkF m 49 #[.val (.int px), .val (.int (0 : Int32)), .val (.ref de), .val (.ref pe)] [(.ref de), (.ref de)])) _
    refine ownStep (fun _ k => Jvm.RoadKit.acmp (g := (mkF m 49 #[.val (.int px), .val (.int (0 : Int32)), .val (.ref de), .val (.ref pe)] [(.ref de), (.ref de)])) X4 hx rfl rfl rfl (pc0 := 49) (pc' := 52) (same := true) rfl (hb hby at_49) rfl (decide_eq_true rfl) (by decide) (by decide) k) ?_
    refine ownStep (fun _ k => XS.iconst X4.here hx rfl (hb hby at_52) k) ?_
    refine ownStep (fun _ k => XS.goto X4.here hx rfl (pc0 := 53) (pc' := 57) rfl (hb hby at_53) (by decide) (by decide) k) ?_
    show ownGo p.tables e below (T4.setTop (mkF m 57 #[.val (.int px), .val (.int (0 : Int32)), .val (.ref de), .val (.ref pe)] [(.int (1 : Int32))])) _
    exact ownRet X4 (v := some (.int (1 : Int32))) Bd.notSynchronized (fun h => by rw [Bd.returns] at h; cases h) (fun _ hr => retN X4 hx (t := .boolean) Bd.returns (by simp) (hb hby at_57) hr) (by rw [R4]; exact ⟨rfl, N4, rfl⟩) (by decide) (by decide)
  · skip
    refine ownStep (fun _ k => XS.ifNo X0.here hx rfl (hb hby at_3) rfl ((if0 _ _).trans (feq (hc3 : ¬ (px &&& (1 : Int32)) = (0 : Int32))).1) k) ?_
    refine ownStep (fun _ k => XS.iconst X0.here hx rfl (hb hby at_6) k) ?_
    refine ownStep (fun _ k => XS.goto X0.here hx rfl (pc0 := 7) (pc' := 11) rfl (hb hby at_7) (by decide) (by decide) k) ?_
    refine ownStep (fun _ k => XS.istoreN X0.here hx rfl (hb hby at_11) rfl (l' := #[.val (.int px), .val (.int (1 : Int32)), .unset, .unset]) rfl k) ?_
    refine ownStep (fun _ k => XS.iloadN X0.here hx rfl (hb hby at_12) rfl  k) ?_
    show ownGo p.tables e below (s₁.setTop (mkF m 13 #[.val (.int px), .val (.int (1 : Int32)), .unset, .unset] [(.int (1 : Int32))])) _
    refine ownStep (fun _ k => XS.ifNo X0.here hx rfl (hb hby at_13) rfl ((if0 _ _).trans (feq (by decide : ¬ (1 : Int32) = (0 : Int32))).1) k) ?_
    show ownGo p.tables e below (s₁.setTop (mkF m 16 #[.val (.int px), .val (.int (1 : Int32)), .unset, .unset] [])) _
    obtain ⟨T6, X6, e6, st6⟩ := getS2 X0 hx hZ hown (host := "") (Or.inl (hw _ (List.mem_of_getElem? (i := 11) rfl))) Via.refl e0 S1 (g := (mkF m 16 #[.val (.int px), .val (.int (1 : Int32)), .unset, .unset] [])) rfl (hb hby at_16)
    refine ownStep st6 ?_
    refine ownStep (fun _ k => XS.goto X6.here hx rfl (pc0 := 19) (pc' := 25) rfl (hb hby at_19) (by decide) (by decide) k) ?_
    refine ownStep (fun _ k => XS.astoreN X6.here hx rfl (hb hby at_25) rfl rfl (l' := #[.val (.int px), .val (.int (1 : Int32)), .val (.ref pe), .unset]) rfl k) ?_
    refine ownStep (fun _ k => XS.aloadN X6.here hx rfl (hb hby at_26) rfl rfl k) ?_
    show ownGo p.tables e below (T6.setTop (mkF m 27 #[.val (.int px), .val (.int (1 : Int32)), .val (.ref pe), .unset] [(.ref pe)])) _
    have Zs8 : n0 ≤ h0.size := Nat.le_trans Z0 KP0.1
    obtain ⟨cq7, kq7, q7a, q7b, q7c⟩ := isOf hZ e6 E1
    obtain ⟨_, _, ⟨T7, L7, k7, n7⟩, -, X7, ⟨Lc7, hQ7, l7, y7, z7⟩, st7⟩ := X6.virtualBack hx (y := (⟨"com/example/nimble_contract/nimblecontract/decision/Effect", "opposite", "()Lcom/example/nimble_contract/nimblecontract/decision/Effect;"⟩ : MethodName)) (z := (⟨"com/example/nimble_contract/nimblecontract/decision/Effect", "opposite", "()Lcom/example/nimble_contract/nimblecontract/decision/Effect;"⟩ : MethodName)) hown (mvT hZ (hw _ (List.mem_of_getElem? (i := 3) rfl))) (mvT hZ (hw _ (List.mem_of_getElem? (i := 4) rfl))) (notFace_of_selects (args := #[]) (mvT hZ (hw _ (List.mem_of_getElem? (i := 6) rfl)))) (mvT hZ (hw _ (List.mem_of_getElem? (i := 6) rfl))) (mvT hZ (hw _ (List.mem_of_getElem? (i := 5) rfl))) (by decide) (backOf (W := 0) (own_opP l Z a0 hw [] pe de h0 n0 Zs8 S1 S2) hZ (hw _ (List.mem_of_getElem? (i := 7) rfl)) (hw _ (List.mem_of_getElem? (i := 1) rfl)) (by decide) (by decide)) q7a q7c (g := (mkF m 27 #[.val (.int px), .val (.int (1 : Int32)), .val (.ref pe), .unset] [(.ref pe)])) rfl (by rw [hml]; rfl) (Steps.refl _) (argsL := []) (rest := []) (lenOf own_law_pd0 rfl) rfl (by show 2 * 0 + _ ≤ _; exact Nat.le_of_eq rfl) (hb hby at_27) (fun _ _ => ⟨rfl, e6, (by decide : 0 + 0 ≤ _), (by decide : 0 + 0 ≤ _)⟩)
    dsimp only [Pt.U, Pt.locs, Pt.cells, Pt.slots] at X7 l7 y7 z7 st7 hQ7
    subst l7 y7 z7
    obtain ⟨rfl, N7q, R7⟩ := hQ7
    have N7 := Fr.app N0 N7q
    refine ownStep (fun _ k => st7.trans k) ?_
    refine ownStep (fun _ k => XS.astoreN X7.here hx rfl (hb hby at_30) rfl rfl (l' := #[.val (.int px), .val (.int (1 : Int32)), .val (.ref pe), .val (.ref de)]) rfl k) ?_
    refine ownStep (fun _ k => XS.aloadN X7.here hx rfl (hb hby at_31) rfl rfl k) ?_
    refine ownStep (fun _ k => XS.ifnonnullYes X7.here hx rfl (pc0 := 32) (pc' := 37) rfl (hb hby at_32) rfl (by decide) (by decide) k) ?_
    refine ownStep (fun _ k => XS.aloadN X7.here hx rfl (hb hby at_37) rfl rfl k) ?_
    show ownGo p.tables e below (T7.setTop (mkF m 38 #[.val (.int px), .val (.int (1 : Int32)), .val (.ref pe), .val (.ref de)] [(.ref de)])) _
    refine ownStep (fun _ k => XS.aloadN X7.here hx rfl (hb hby at_38) rfl rfl k) ?_
    show ownGo p.tables e below (T7.setTop (mkF m 39 #[.val (.int px), .val (.int (1 : Int32)), .val (.ref pe), .val (.ref de)] [(.ref pe), (.ref de)])) _
    refine ownStep (fun _ k => Jvm.RoadKit.acmp (g := (mkF m 39 #[.val (.int px), .val (.int (1 : Int32)), .val (.ref pe), .val (.ref de)] [(.ref pe), (.ref de)])) X7 hx rfl rfl rfl (pc0 := 39) (pc' := 44) (same := false) rfl (hb hby at_39) rfl (decide_eq_false fun q => hne (Value.ref.inj q)) (by decide) (by decide) k) ?_
    refine ownStep (fun _ k => XS.aloadN X7.here hx rfl (hb hby at_44) rfl rfl k) ?_
    show ownGo p.tables e below (T7.setTop (mkF m 45 #[.val (.int px), .val (.int (1 : Int32)), .val (.ref pe), .val (.ref de)] [(.ref de)])) _
    have Zs10 : n0 ≤ h0.size := Nat.le_trans Z0 KP0.1
    obtain ⟨cq9, kq9, q9a, q9b, q9c⟩ := isOf hZ R7 E2
    obtain ⟨_, _, ⟨T9, L9, k9, n9⟩, -, X9, ⟨Lc9, hQ9, l9, y9, z9⟩, st9⟩ := X7.virtualBack hx (y := (⟨"com/example/nimble_contract/nimblecontract/decision/Effect", "opposite", "()Lcom/example/nimble_contract/nimblecontract/decision/Effect;"⟩ : MethodName)) (z := (⟨"com/example/nimble_contract/nimblecontract/decision/Effect", "opposite", "()Lcom/example/nimble_contract/nimblecontract/decision/Effect;"⟩ : MethodName)) hown (mvT hZ (hw _ (List.mem_of_getElem? (i := 3) rfl))) (mvT hZ (hw _ (List.mem_of_getElem? (i := 4) rfl))) (notFace_of_selects (args := #[]) (mvT hZ (hw _ (List.mem_of_getElem? (i := 6) rfl)))) (mvT hZ (hw _ (List.mem_of_getElem? (i := 6) rfl))) (mvT hZ (hw _ (List.mem_of_getElem? (i := 5) rfl))) (by decide) (backOf (W := 0) (own_opD l Z a0 hw [] pe de h0 n0 Zs10 S1 S2 hne) hZ (hw _ (List.mem_of_getElem? (i := 7) rfl)) (hw _ (List.mem_of_getElem? (i := 1) rfl)) (by decide) (by decide)) q9a q9c (g := (mkF m 45 #[.val (.int px), .val (.int (1 : Int32)), .val (.ref pe), .val (.ref de)] [(.ref de)])) rfl (by rw [hml]; rfl) (Steps.refl _) (argsL := []) (rest := []) (lenOf own_law_pd0 rfl) rfl (by show 2 * 0 + _ ≤ _; exact Nat.le_of_eq rfl) (hb hby at_45) (fun _ _ => ⟨rfl, R7, (by decide : 0 + 0 ≤ _), (by decide : 0 + 0 ≤ _)⟩)
    dsimp only [Pt.U, Pt.locs, Pt.cells, Pt.slots] at X9 l9 y9 z9 st9 hQ9
    subst l9 y9 z9
    obtain ⟨rfl, N9q, R9⟩ := hQ9
    have N9 := Fr.app N7 N9q
    refine ownStep (fun _ k => st9.trans k) ?_
    refine ownStep (fun _ k => XS.aloadN X9.here hx rfl (hb hby at_48) rfl rfl k) ?_
    show ownGo p.tables e below (T9.setTop (mkF m 49 #[.val (.int px), .val (.int (1 : Int32)), .val (.ref pe), .val (.ref de)] [(.ref pe), (.ref pe)])) _
    refine ownStep (fun _ k => Jvm.RoadKit.acmp (g := (mkF m 49 #[.val (.int px), .val (.int (1 : Int32)), .val (.ref pe), .val (.ref de)] [(.ref pe), (.ref pe)])) X9 hx rfl rfl rfl (pc0 := 49) (pc' := 52) (same := true) rfl (hb hby at_49) rfl (decide_eq_true rfl) (by decide) (by decide) k) ?_
    refine ownStep (fun _ k => XS.iconst X9.here hx rfl (hb hby at_52) k) ?_
    refine ownStep (fun _ k => XS.goto X9.here hx rfl (pc0 := 53) (pc' := 57) rfl (hb hby at_53) (by decide) (by decide) k) ?_
    show ownGo p.tables e below (T9.setTop (mkF m 57 #[.val (.int px), .val (.int (1 : Int32)), .val (.ref pe), .val (.ref de)] [(.int (1 : Int32))])) _
    exact ownRet X9 (v := some (.int (1 : Int32))) Bd.notSynchronized (fun h => by rw [Bd.returns] at h; cases h) (fun _ hr => retN X9 hx (t := .boolean) Bd.returns (by simp) (hb hby at_57) hr) (by rw [R9]; exact ⟨rfl, N9, rfl⟩) (by decide) (by decide)
set_option maxRecDepth 65536 in
set_option maxHeartbeats 40000000 in
theorem comes_1 {Post : Tables → Env → Array Value → State → Outcome → State → Prop} (hpost : ∀ tb e args s v u, (limb_1_1.after args s (.returned v) u = true ∧ limb_1_2.after args s (.returned v) u = true ∧ True) → FrameEnd s (.returned v) u (Jvm.fieldLocs frame_1_writes args s ++ Jvm.arrayLocs frame_1_arrays args s ++ Jvm.staticLocs frame_1_statics s) 0 0 → Post tb e args s (.returned v) u) :
    ArmFor flags0 classFile x code maxLocals ret World_1 tables_1 room_1 Calls_1 rest_1 Pre_1 Post := by
  intro l hfl _ _ p e ha hc hk s m args below hf hA hF happ hP
  obtain ⟨hcalls, hrest, hpre⟩ := hP
  obtain ⟨-, -, -, hnamed, -, -, -, hat⟩ := (Spec.applies_iff hf).mp happ
  obtain ⟨hg, hn⟩ := and_e (Cond.before_iff.mp (show (Jvm.Cond.and given_1 narrow_1).before args s = true from hpre))
  obtain ⟨g1, g2⟩ := and_e hg
  obtain ⟨w0, rfl⟩ : ∃ w0 : Value, args = #[w0] := by
    have hs : args.size = 1 := by simpa [Cond.value, given_1] using g1
    obtain ⟨L⟩ := args
    match L, hs with
    | [w0], _ => exact ⟨w0, rfl⟩
  have hw := fun d (hd : d ∈ tables_1) => atoms_spec (ws := Jvm.Cond.code x code maxLocals ret :: tables_1) hat d (List.mem_cons_of_mem _ hd)
  have hfit : Fit s := fun {y c} hc i hi => by
    obtain ⟨ha, rfl⟩ := Array.getElem?_eq_some_iff.mp hc
    have q := List.all_eq_true.mp ((Array.all_eq_true_iff_forall_mem.mp hF) _ (Array.getElem_mem ha)) i (List.mem_range.mpr hi)
    simpa [Array.getElem?_eq_getElem hi] using q
  obtain ⟨i0, ei0⟩ := is_v g2
  obtain rfl : w0 = (.int i0) := Option.some.inj ei0
  obtain ⟨g3, g4⟩ := and_e hn
  obtain ⟨g5, g6⟩ := and_e g4
  obtain ⟨g7, g8⟩ := and_e g6
  obtain ⟨w_DENY, ev_DENY⟩ := exa_v g3
  have E_DENY := Exa.start ev_DENY g3
  have S_DENY := Sta.start ev_DENY (Or.inr ⟨(hw _ (List.mem_of_getElem? (i := 1) rfl)), (hw _ (List.mem_of_getElem? (i := 2) rfl))⟩)
  obtain ⟨w_PERMIT, ev_PERMIT⟩ := exa_v g5
  have E_PERMIT := Exa.start ev_PERMIT g5
  have S_PERMIT := Sta.start ev_PERMIT (Or.inr ⟨(hw _ (List.mem_of_getElem? (i := 1) rfl)), (hw _ (List.mem_of_getElem? (i := 9) rfl))⟩)
  have F_DENY_ordinal := Fld.start ((fld_at ev_DENY).symm.trans (own_eqI g7))
  have F_PERMIT_ordinal := Fld.start ((fld_at ev_PERMIT).symm.trans (own_eqI g8))
  obtain ⟨n, o, h1, h2, h3, _, L, rfl, ⟨rfl, N, hrel⟩, hq⟩ := own_law l s _ hw tables_1 i0 w_PERMIT w_DENY s.heap s.heap.size (Nat.le_refl _) S_PERMIT S_DENY E_PERMIT E_DENY (F_DENY_ordinal.ne F_PERMIT_ordinal (fun q => absurd (Value.int.inj q) (by decide))) p e ha hc hk s m _ below hf ((Spec.applies_iff_loose hf).mp happ).1 ⟨rfl, State.Warmed39.refl s, rfl⟩ trivial
  refine ⟨n, _, h1, h2, h3, hpost _ _ _ _ _ _ ⟨Cond.after_iff.mpr rfl, Cond.after_iff.mpr (eq_i res_at (Term.int_eval (1)) rfl), trivial⟩ ⟨hq.1, hq.2.1, (hq.2.2.sift fun y hy => Or.inr (N y hy)).mono (by decide) (by decide)⟩⟩
theorem main_1_1 : Claimed_1_1 := comes_1 fun _ _ _ _ _ _ h hF => ⟨h.1, hF⟩
theorem main_1_2 : Claimed_1_2 := comes_1 fun _ _ _ _ _ _ h hF => ⟨h.2.1, hF⟩
end Jvm.Pilot.@@N@@
namespace Jvm.Pilot.@@N@@
open Jvm Jvm.ClassFile Sem Op Lib Jvm.Free Jvm.Stand Jvm.Pilot.@@N@@.Jvm.D
/-! MADE BY PROGRAM (witnessworld.py) out of the Statement's table words and the real class files: 12 classes; the members and pool entries that the words name. The judged class is class 1, her method 1. -/
namespace start1
open Jvm.ClassFile
def u (s : String) : CpInfo := .utf8 (stringToUtf16 s)
/-- a pool by its gaps: so many unusable entries, then the entry; so many at the end -/
def gap : Nat → List CpInfo → List CpInfo
  | 0, r => r
  | n + 1, r => .unusable :: gap n r
def poolList (es : List (Nat × CpInfo)) (last : Nat) : List CpInfo := es.foldr (fun e r => gap e.1 (e.2 :: r)) (gap last [])
def pool (es : List (Nat × CpInfo)) (last : Nat) : Array CpInfo := ⟨poolList es last⟩
def fileOf (pool : Array CpInfo) (this : Nat) (attrs : Array Attribute := #[]) (ms : Array MethodInfo := #[]) (fl : Nat := 33) (sup : Nat := 0) (ifs : Array Nat := #[]) (fds : Array FieldInfo := #[]) : ClassFile where
  minorVersion := 0
  majorVersion := 65
  constantPool := pool
  accessFlags := fl
  thisClass := this
  superClass := sup
  interfaces := ifs
  fields := fds
  methods := ms
  attributes := attrs
def plain (name : String) (sup : Option ClassId) : Class where
  name := name
  kind := .ordinary
  loader := none
  accessFlags := 33
  super := sup
  interfaces := #[]
  cf := none
  fields := #[]
  methods := #[]
  instanceTypes := #[]
  staticTypes := #[]
  resolved := #[]
  callSites := []
  init := .initialized
  statics := none
  mirror := none

def pool0 : Array CpInfo := pool [(5, u "<init>"), (0, u "()V"), (1, .class_ 10), (1, u "java/lang/Object")] 113

def k0m0 : Method := { name := "<init>", desc := "()V", sig := { parameters := [], returnType := none }, accessFlags := 1, code := none }
/-- java/lang/Object -/
def k0 : Class := { plain "java/lang/Object" none with
  accessFlags := 33
  interfaces := #[]
  cf := some (fileOf pool0 8 #[] #[{ accessFlags := 1, nameIndex := 5, descriptorIndex := 6, attributes := #[] }] 33 0 #[] #[])
  fields := #[]
  methods := #[k0m0]
  instanceTypes := #[]
  staticTypes := #[]
  resolved := Array.replicate 124 none
  statics := none }

def pool1 : Array CpInfo := pool [(2, .class_ 4), (1, u "java/lang/Object"), (0, u "<init>"), (0, u "()V"), (0, .fieldref 8 9), (0, .class_ 10), (0, .nameAndType 11 12), (0, u "com/example/nimble_contract/nimblecontract/decision/Effect"), (0, u "PERMIT"), (0, u "Lcom/example/nimble_contract/nimblecontract/decision/Effect;"), (0, .fieldref 8 14), (0, .nameAndType 15 12), (0, u "DENY"), (0, .methodref 8 17), (0, .nameAndType 18 19), (0, u "opposite"), (0, u "()Lcom/example/nimble_contract/nimblecontract/decision/Effect;"), (0, .class_ 21), (0, u "com/example/nimble_contract/nimblecontract/decision/EffectOppositePinLaw"), (2, u "law"), (0, u "(I)Z")] 3

def k1m0 : Method := { name := "<init>", desc := "()V", sig := { parameters := [], returnType := none }, accessFlags := 1, code := none }
def k1c1 : Code := { maxStack := 2, maxLocals := 4, code := code, exceptionTable := #[], attributes := #[] }
def k1m1 : Method := { name := "law", desc := "(I)Z", sig := { parameters := [.int], returnType := some .boolean }, accessFlags := 9, code := some k1c1 }
/-- com/example/nimble_contract/nimblecontract/decision/EffectOppositePinLaw -/
def k1 : Class := { plain "com/example/nimble_contract/nimblecontract/decision/EffectOppositePinLaw" (some 0) with
  accessFlags := 49
  interfaces := #[]
  cf := some (fileOf pool1 20 #[] #[{ accessFlags := 1, nameIndex := 5, descriptorIndex := 6, attributes := #[] }, { accessFlags := 9, nameIndex := 24, descriptorIndex := 25, attributes := #[] }] 49 2 #[] #[])
  fields := #[]
  methods := #[k1m0, k1m1]
  instanceTypes := #[]
  staticTypes := #[]
  resolved := Array.replicate 29 none
  statics := none }

def pool2 : Array CpInfo := pool [(1, .class_ 2), (0, u "java/lang/constant/Constable"), (0, .class_ 4), (0, u "java/lang/Object")] 6

/-- java/lang/constant/Constable -/
def k2 : Class := { plain "java/lang/constant/Constable" (some 0) with
  accessFlags := 1537
  interfaces := #[]
  cf := some (fileOf pool2 1 #[] #[] 1537 3 #[] #[])
  fields := #[]
  methods := #[]
  instanceTypes := #[]
  staticTypes := #[]
  resolved := Array.replicate 11 none
  statics := none }

def pool3 : Array CpInfo := pool [(1, .class_ 2), (0, u "java/lang/Comparable"), (0, .class_ 4), (0, u "java/lang/Object")] 7

/-- java/lang/Comparable -/
def k3 : Class := { plain "java/lang/Comparable" (some 0) with
  accessFlags := 1537
  interfaces := #[]
  cf := some (fileOf pool3 1 #[] #[] 1537 3 #[] #[])
  fields := #[]
  methods := #[]
  instanceTypes := #[]
  staticTypes := #[]
  resolved := Array.replicate 12 none
  statics := none }

def pool4 : Array CpInfo := pool [(1, .class_ 2), (0, u "java/io/Serializable"), (0, .class_ 4), (0, u "java/lang/Object")] 2

/-- java/io/Serializable -/
def k4 : Class := { plain "java/io/Serializable" (some 0) with
  accessFlags := 1537
  interfaces := #[]
  cf := some (fileOf pool4 1 #[] #[] 1537 3 #[] #[])
  fields := #[]
  methods := #[]
  instanceTypes := #[]
  staticTypes := #[]
  resolved := Array.replicate 7 none
  statics := none }

def pool5 : Array CpInfo := pool [(2, .class_ 4), (1, u "java/lang/Enum"), (0, u "name"), (0, u "Ljava/lang/String;"), (2, u "ordinal"), (0, u "I"), (1, .class_ 14), (1, u "java/lang/Object"), (4, u "hash"), (86, .class_ 108), (1, u "java/lang/Enum$EnumDesc"), (2, .class_ 112), (0, u "java/lang/constant/Constable"), (0, .class_ 114), (0, u "java/lang/Comparable"), (0, .class_ 116), (0, u "java/io/Serializable")] 87

/-- java/lang/Enum -/
def k5 : Class := { plain "java/lang/Enum" (some 0) with
  accessFlags := 1057
  interfaces := #[2, 3, 4]
  cf := some (fileOf pool5 2 #[.nestMembers #[106]] #[] 1057 12 #[111, 113, 115] #[{ accessFlags := 18, nameIndex := 5, descriptorIndex := 6, attributes := #[] }, { accessFlags := 18, nameIndex := 9, descriptorIndex := 10, attributes := #[] }, { accessFlags := 2, nameIndex := 19, descriptorIndex := 10, attributes := #[] }])
  fields := #[{ name := "name", type := (.object "java/lang/String"), accessFlags := 18, slot := 0, constantValue := 0 }, { name := "ordinal", type := .int, accessFlags := 18, slot := 1, constantValue := 0 }, { name := "hash", type := .int, accessFlags := 2, slot := 2, constantValue := 0 }]
  methods := #[]
  instanceTypes := #[(.object "java/lang/String"), .int, .int]
  staticTypes := #[]
  resolved := Array.replicate 204 none
  statics := none }

def pool6 : Array CpInfo := pool [(1, .class_ 2), (0, u "com/example/nimble_contract/nimblecontract/decision/Effect"), (0, .fieldref 1 4), (0, .nameAndType 5 6), (0, u "PERMIT"), (0, u "Lcom/example/nimble_contract/nimblecontract/decision/Effect;"), (0, .fieldref 1 8), (0, .nameAndType 9 6), (0, u "DENY"), (2, u "$VALUES"), (0, u "[Lcom/example/nimble_contract/nimblecontract/decision/Effect;"), (6, .class_ 22), (1, u "java/lang/Enum"), (8, u "decision"), (0, u "Lcom/example/nimble_contract/nimblecontract/decision/Decision;"), (2, u "indeterminate"), (29, u "opposite"), (0, u "()Lcom/example/nimble_contract/nimblecontract/decision/Effect;")] 6

def k6c0 : Code := { maxStack := 2, maxLocals := 1, code := prog_54_method_6_code, exceptionTable := #[], attributes := #[] }
def k6m0 : Method := { name := "opposite", desc := "()Lcom/example/nimble_contract/nimblecontract/decision/Effect;", sig := { parameters := [], returnType := some (.object "com/example/nimble_contract/nimblecontract/decision/Effect") }, accessFlags := 1, code := some k6c0 }
/-- com/example/nimble_contract/nimblecontract/decision/Effect -/
def k6 : Class := { plain "com/example/nimble_contract/nimblecontract/decision/Effect" (some 5) with
  accessFlags := 16433
  interfaces := #[]
  cf := some (fileOf pool6 1 #[] #[{ accessFlags := 1, nameIndex := 65, descriptorIndex := 66, attributes := #[] }] 16433 20 #[] #[{ accessFlags := 16409, nameIndex := 5, descriptorIndex := 6, attributes := #[] }, { accessFlags := 16409, nameIndex := 9, descriptorIndex := 6, attributes := #[] }, { accessFlags := 18, nameIndex := 31, descriptorIndex := 32, attributes := #[] }, { accessFlags := 18, nameIndex := 35, descriptorIndex := 32, attributes := #[] }, { accessFlags := 4122, nameIndex := 12, descriptorIndex := 13, attributes := #[] }])
  fields := #[{ name := "PERMIT", type := (.object "com/example/nimble_contract/nimblecontract/decision/Effect"), accessFlags := 16409, slot := 0, constantValue := 0 }, { name := "DENY", type := (.object "com/example/nimble_contract/nimblecontract/decision/Effect"), accessFlags := 16409, slot := 1, constantValue := 0 }, { name := "decision", type := (.object "com/example/nimble_contract/nimblecontract/decision/Decision"), accessFlags := 18, slot := 3, constantValue := 0 }, { name := "indeterminate", type := (.object "com/example/nimble_contract/nimblecontract/decision/Decision"), accessFlags := 18, slot := 4, constantValue := 0 }, { name := "$VALUES", type := (.array (.object "com/example/nimble_contract/nimblecontract/decision/Effect")), accessFlags := 4122, slot := 2, constantValue := 0 }]
  methods := #[k6m0]
  instanceTypes := #[(.object "java/lang/String"), .int, .int, (.object "com/example/nimble_contract/nimblecontract/decision/Decision"), (.object "com/example/nimble_contract/nimblecontract/decision/Decision")]
  staticTypes := #[(.object "com/example/nimble_contract/nimblecontract/decision/Effect"), (.object "com/example/nimble_contract/nimblecontract/decision/Effect"), (.array (.object "com/example/nimble_contract/nimblecontract/decision/Effect"))]
  resolved := Array.replicate 73 none
  statics := some 0 }

def pool7 : Array CpInfo := pool [(1, u "java/lang/Cloneable"), (0, .class_ 1), (0, u "java/lang/Object"), (0, .class_ 3)] 3

/-- java/lang/Cloneable -/
def k7 : Class := { plain "java/lang/Cloneable" (some 0) with
  accessFlags := 1537
  interfaces := #[]
  cf := some (fileOf pool7 2 #[] #[] 1537 4 #[] #[])
  fields := #[]
  methods := #[]
  instanceTypes := #[]
  staticTypes := #[]
  resolved := Array.replicate 8 none
  statics := none }

/-- the primitive byte -/
def k8 : Class := { plain "byte" none with kind := .primitive 'B', accessFlags := 0x411 }
/-- [B -/
def k9 : Class := { plain "[B" (some 0) with kind := .array 8 .byte, interfaces := #[7, 4], accessFlags := 1041 }

/-- the primitive int -/
def k10 : Class := { plain "int" none with kind := .primitive 'I', accessFlags := 0x411 }
/-- [I -/
def k11 : Class := { plain "[I" (some 0) with kind := .array 10 .int, interfaces := #[7, 4], accessFlags := 1041 }

def heap : Heap := #[{ cls := 6, slots := #[.ref 2, .ref 1, .null], vm := .statics 6 },
  { cls := 6, slots := #[.null, .int 1, .int 0, .null, .null], vm := .none },
  { cls := 6, slots := #[.null, .int 0, .int 0, .null, .null], vm := .none }]
def classes : Array Class := #[k0, k1, k2, k3, k4, k5, k6, k7, k8, k9, k10, k11]
def interned : List (Array UInt16 × Addr) := []
def slotsUsed : Nat := 13
def theMethod : MethodId := ⟨1, 1⟩
def args0 : Array Value := #[.int 5]
def aboutOver (below : List Frame) : State where
  vm := { classes := classes, interned := interned.toArray }
  heap := heap
  slotsUsed := slotsUsed
  threads := #[{ frames := .invoking theMethod args0 :: below }]
def below0 : List Frame := [.native { method := ⟨0, 0⟩, args := #[] }]
def about1 : State := aboutOver below0
def p0 : Program := .bare "" "" ""
def e0 : Env := launch0.env 0 0 0
theorem w_frames : about1.frames = Frame.invoking theMethod args0 :: below0 := rfl
set_option maxRecDepth 65536 in
theorem w_args : argsFit about1.vm theMethod args0 = true := by decide +kernel
set_option maxRecDepth 65536 in
theorem w_heap : heapFits about1 = true := by decide +kernel
set_option maxRecDepth 65536 in
theorem w_runnable : about1.curStatus? = some .runnable := by decide +kernel
set_option maxRecDepth 65536 in
theorem w_alone : about1.alone = true := by decide +kernel
set_option maxRecDepth 65536 in
theorem w_named : about1.methodNamed? x = some theMethod := by decide +kernel
set_option maxRecDepth 65536 in
theorem w_hears : about1.hears theMethod below0 = true := by decide +kernel
set_option maxRecDepth 65536 in
theorem w_ripe : about1.ripe theMethod args0 below0 = true := by decide +kernel
theorem w_running : about1.status = .running := rfl
set_option maxRecDepth 65536 in
theorem w_room : about1.hasRoom e0.platform room_1 = true :=
  launch0.hasRoom_least _ room_1 (by decide +kernel) (by decide +kernel) (by decide +kernel) (by decide +kernel) (by decide +kernel) (by decide +kernel)
theorem allAtoms_all (ts : List Jvm.Cond) (a : Array Jvm.Value) (st : Jvm.State) : (allAtoms ts).before a st = ts.all (fun c => c.before a st) := by
  induction ts with
  | nil => rfl
  | cons c t ih =>
    show (Jvm.Cond.and c (allAtoms t)).before a st = _
    rw [Jvm.Cond.before_and, ih, List.all_cons]
def words1 : List Jvm.Cond := Jvm.Cond.code x code maxLocals ret :: tables_1
/-- a 'code' word, met by the world's own term for the bytes: nothing is compared byte by byte -/
theorem code_word {y : MethodName} {bytes : ByteArray} {mx : Nat} {rt : Option FieldType} {a : Array Value} {s : State} {m : MethodId} {meth : Method} {c : Code} (h1 : s.methodNamed? y = some m) (h2 : s.vm.method? m = some meth) (h3 : meth.code = some c) (h4 : c.code = bytes)
    (h5 : (c.maxLocals == mx && c.exceptionTable.isEmpty && decide (c.maxStack ≤ mostOperands) && decide (meth.sig.returnType = rt) && !meth.locks && decide (parseMethodDescriptor y.desc = some meth.sig)) = true) : (Jvm.Cond.code y bytes mx rt).before a s = true := by
  simp only [Bool.and_eq_true, beq_iff_eq, Bool.not_eq_true', decide_eq_true_eq] at h5
  obtain ⟨⟨⟨⟨⟨g1, g2⟩, g3⟩, g4⟩, g5⟩, g6⟩ := h5
  simp [Cond.before, Cond.holds, Cond.value, h1, h2, h3, h4, g1, g2, g3, g4, g5, g6]
def isCode : Jvm.Cond → Bool
  | .code _ _ _ _ => true
  | _ => false
theorem all_split {L : List Jvm.Cond} {P : Jvm.Cond → Bool} (h1 : L.all (fun c => isCode c || P c) = true) (h2 : ∀ c ∈ L.filter isCode, P c = true) : L.all P = true := by
  refine List.all_eq_true.mpr fun c hc => ?_
  have h := List.all_eq_true.mp h1 c hc
  rcases Bool.eq_false_or_eq_true (isCode c) with hi | hi
  · exact h2 c (List.mem_filter.mpr ⟨hc, hi⟩)
  · simpa [hi] using h
set_option maxRecDepth 65536 in
theorem w_c0 : (Jvm.Cond.code x code maxLocals ret).before args0 about1 = true := code_word (m := ⟨1, 1⟩) (meth := k1m1) (c := k1c1) (by decide +kernel) rfl rfl rfl (by decide +kernel)
set_option maxRecDepth 65536 in
theorem w_c1 : (Jvm.Cond.code ({ cls := "com/example/nimble_contract/nimblecontract/decision/Effect", name := "opposite", desc := "()Lcom/example/nimble_contract/nimblecontract/decision/Effect;" } : Jvm.MethodName) prog_54_method_6_code (1 : Nat) (Option.some (Jvm.ClassFile.FieldType.object "com/example/nimble_contract/nimblecontract/decision/Effect"))).before args0 about1 = true := code_word (m := ⟨6, 0⟩) (meth := k6m0) (c := k6c0) (by decide +kernel) rfl rfl rfl (by decide +kernel)
def codes1 : List Jvm.Cond := [Jvm.Cond.code x code maxLocals ret, Jvm.Cond.code ({ cls := "com/example/nimble_contract/nimblecontract/decision/Effect", name := "opposite", desc := "()Lcom/example/nimble_contract/nimblecontract/decision/Effect;" } : Jvm.MethodName) prog_54_method_6_code (1 : Nat) (Option.some (Jvm.ClassFile.FieldType.object "com/example/nimble_contract/nimblecontract/decision/Effect"))]
set_option maxRecDepth 65536 in
theorem codes_eq : words1.filter isCode = codes1 := rfl
theorem w_codes : ∀ c ∈ words1.filter isCode, c.before args0 about1 = true := by
  rw [codes_eq]
  intro c hc
  simp only [codes1, List.mem_cons, List.not_mem_nil, or_false] at hc
  rcases hc with rfl | rfl
  · exact w_c0
  · exact w_c1
set_option maxRecDepth 65536 in
theorem w_t1 : words1.all (fun c => isCode c || c.before args0 about1) = true := by decide +kernel
theorem w_tables : (allAtoms (Jvm.Cond.code x code maxLocals ret :: tables_1)).before args0 about1 = true := by
  rw [allAtoms_all]
  show words1.all (fun c => c.before args0 about1) = true
  refine all_split ?_ w_codes
  rw [w_t1]
set_option maxRecDepth 65536 in
theorem w_case : (Jvm.Cond.and given_1 narrow_1).before args0 about1 = true := by decide +kernel
theorem w_applies : (headSpec (Jvm.Cond.code x code maxLocals ret :: tables_1) room_1).applies x e0.platform about1 = true :=
  (Spec.applies_iff w_frames).mpr ⟨w_running, w_runnable, w_alone, w_named, w_hears, w_ripe, w_room, w_tables⟩
theorem atStart : AtStart classFile x code maxLocals ret World_1 tables_1 room_1 Calls_1 rest_1 Pre_1 launch0 p0 e0 about1 theMethod args0 below0 :=
  ⟨lists_1, trivial, launch0.admits_env _ _ _, launch0.least_env, fairChoices_fair.cas, fairChoices_fair.clock, w_frames, w_args, w_heap, w_applies, trivial, trivial, w_case⟩
end start1
theorem witness_1 : WitnessClaimed_1 := ⟨start1.p0, start1.e0, start1.about1, start1.theMethod, start1.args0, start1.below0, start1.atStart⟩
end Jvm.Pilot.@@N@@
