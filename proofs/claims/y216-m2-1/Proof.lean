import JvmDerived
import JvmDerived.Pilot.@@N@@Statement
import JvmDerived.Pilot.@@N@@Code
set_option linter.unusedVariables false
set_option linter.unusedSimpArgs false
namespace Jvm.RoadKit
open Sem ClassFile Op Lib Jvm.Stand Jvm.Free Jvm.LawKit
section New
variable {p : Program} {l : Launch} {e : Env} {R : Room} {s : State} {m : MethodId} {args : Array Value} {below : List Frame} {meth : Method} {c : Code} {T : State} {locs : List Loc} {cells slots : Nat}
theorem retI (X : Stand p l e R s m args below meth c T locs cells slots) (hx : p.tables.exec = Jvm.exec) {pc : Nat} {Ls : Array Slot} {z : Int32} {rest : List Value} (hret : meth.sig.returnType = some .int) (hd : decode c.code pc = .ok (.ireturn, 1)) {fs : List Frame}
    (hl : ∀ (f : JFrame) (acts : List Action), f.method = m → f.locked = none → f.entered = [] → (doReturn e (T.setTop f) acts (some (.int z))).1 = T.setFrames fs) : Steps p.tables e below (T.setTop (mkF m pc Ls (.int z :: rest))) (T.setFrames fs) := by
  have hm' : T.vm.method? m = some meth := X.method'
  have hn : narrow .int (.int z) = .int z := rfl
  show Steps p.tables e below (T.setTop { method := m, pc := pc, locals := Ls, stack := _ :: rest, locked := none }) _
  jvm_step X.here [X.here.top, hx, hd, hm', hret, hn]
  first | (intro acts; rw [hl _ acts rfl rfl rfl]) | rw [hl _ _ rfl rfl rfl]
  exact Steps.refl _
/-- the run comes from S to a state of which Φ holds -/
def ownGo (tb : Tables) (e : Env) (below : List Frame) (S : State) (Φ : State → Prop) : Prop := ∃ t, Steps tb e below S t ∧ Φ t
theorem ownStep {tb : Tables} {S S' : State} {Φ : State → Prop} (h : ∀ t, Steps tb e below S' t → Steps tb e below S t) (k : ownGo tb e below S' Φ) : ownGo tb e below S Φ := by
  obtain ⟨t, a, b⟩ := k; exact ⟨t, h t a, b⟩
/-- a body's end: what its contract says -/
def ownEnd (below : List Frame) (s : State) (Q : Option Value → Heap → List Loc → Prop) (k n : Nat) (t : State) : Prop :=
  t.status = .running ∧ ∃ v L, Ended t below (.returned v) ∧ Q v t.heap L ∧ FrameEnd s (.returned v) t L k n
theorem ownFin {tb : Tables} {S : State} {Q : Option Value → Heap → List Loc → Prop} {k n : Nat} (h : ownGo tb e below S (ownEnd below s Q k n)) :
    ∃ s₂ o, Steps tb e below S s₂ ∧ s₂.status = .running ∧ Ended s₂ below o ∧ ∃ v L, o = .returned v ∧ Q v s₂.heap L ∧ FrameEnd s o s₂ L k n := by
  obtain ⟨t, a, b, v, L, c1, d, f⟩ := h; exact ⟨t, _, a, b, c1, v, L, rfl, d, f⟩
theorem ownRet (X : Stand p l e R s m args below meth c T locs cells slots) {g : JFrame} {v : Option Value} {Q : Option Value → Heap → List Loc → Prop} {k n : Nat} (hlocks : meth.locks = false) (hv : meth.sig.returnType = none → v = none)
    (hs : ∀ fs, (∀ (f : JFrame) (acts : List Action), f.method = m → f.locked = none → f.entered = [] → (doReturn e (T.setTop f) acts v).1 = T.setFrames fs) → Steps p.tables e below (T.setTop g) (T.setFrames fs))
    (hQ : Q v T.heap locs) (hc : cells ≤ k) (hn : slots ≤ n) : ownGo p.tables e below (T.setTop g) (ownEnd below s Q k n) := by
  obtain ⟨fs, hr, hrun, hended, hW, hsame⟩ := X.leave hv hlocks
  exact ⟨_, hs fs hr, hrun, v, locs, hended, hQ, ⟨_, rfl⟩, hW, hsame.mono hc hn⟩
end New
section Heaps
variable {Z : State} {h h' h0 : Heap} {ws : List Addr}
theorem own_extOf (K : Keep h h' []) : Ext h h' := ⟨K.1, fun a c q => K.2.1 a c q nin0⟩
theorem own_extRefl (h : Heap) : Ext h h := ⟨Nat.le_refl _, fun _ _ q => q⟩
theorem own_extTrans {h2 : Heap} (E : Ext h h') (F : Ext h' h2) : Ext h h2 := ⟨Nat.le_trans E.1 F.1, fun a c q => F.2 a c (E.2 a c q)⟩
theorem own_staKeep {C n d : String} {w : Value} (F : Sta Z h C n d w) (K : Keep h h' ws) (q : ∀ x ∈ ws, ∀ cell : Cell, h[x]? = some cell → cell.vm.isStatics = false) : Sta Z h' C n d w := by
  obtain ⟨cf, i, k, f, st, cell, h1, h2, h3, h4, h5, h6, h7⟩ := F
  exact ⟨cf, i, k, f, st, cell, h1, h2, h3, h4, K.2.1 st cell h5 (fun z => by rw [q st z cell h5] at h6; cases h6), h6, h7⟩
theorem own_insKeep {a : Addr} {C : String} {b : Bool} (F : Ins Z h a C b) (K : Keep h h' ws) : Ins Z h' a C b := by
  obtain ⟨cell, cT, h1, h2, h3⟩ := F
  obtain ⟨c', e1, e2, e3, -⟩ := K.2.2 a cell h1
  exact ⟨c', cT, e1, h2, by rw [e2, e3]; exact h3⟩
theorem own_scrSet {a : Addr} {cl : Cell} {z j x : Int32} (F : Scr Z h a cl z) (hj : ¬ (j < 0 ∨ cl.slots.size ≤ j.toNatClampNeg)) (W : Wr h h' a j.toNatClampNeg (.int x)) : ∃ cl', Scr Z h' a cl' z := by
  obtain ⟨A, S, N, H⟩ := F
  refine ⟨_, A.same W, by rw [sz_set]; exact S, N, fun i hi => ?_⟩
  rw [sz_set] at hi
  by_cases e : i = j
  · have q := get_hit (v := Value.int x) hj e
    rw [q, atv_of q]
  · have q := get_miss (c := cl) (v := Value.int x) (fun y => hj (Or.inl y)) (fun y => hi (Or.inl y)) e
    have r := H i hi
    rw [← q] at r
    rw [r, atv_of r]
theorem own_scrOf {a : Addr} {k : ClassId} {z : Int32} {vs : List Value} {d : Value} (F : Arv Z h a k .int z vs d) : ∃ cl, Scr Z h a cl z := by
  obtain ⟨c, A, q, S, N, H, G⟩ := F
  refine ⟨c, A, S, N, fun i hi => ?_⟩
  have lt : i.toNatClampNeg < c.slots.size := Nat.lt_of_not_le fun y => hi (Or.inr y)
  obtain ⟨w, hw⟩ := fit_I (G _ lt) (Or.inl rfl)
  have e := H _ lt
  rw [hw] at e
  rw [e, atv_of e]
end Heaps
section Start
variable {args : Array Value} {first s : State} {o : Option Outcome} {idx : List Nat} {t : Term}
theorem own_eqI {k : Int32} (h : (Cond.eq t (.int k)).value args first o s idx = some true) : t.eval args first o idx s = some (.int k) := by
  simp only [Cond.value, Term.eval] at h
  cases ht : t.eval args first o idx s with
  | none => simp [ht] at h
  | some x => cases x <;> simp [ht] at h ⊢; exact h
theorem own_len0 {k : Int32} {a : Addr} {cl : Cell} {ty : FieldType} (h : (Term.length t).eval args first o idx s = some (.int k)) (ht : t.eval args first o idx s = some (.ref a)) (A : Arr s s.heap a cl ty) : cl.slots.size < 2 ^ 31 ∧ cl.slots.size.toInt32 = k := by
  have e5 := A.fin (U := s) (Vm.Alike.refl _)
  simp only [Term.eval, ht, Option.bind_eq_bind, Option.bind_some, e5] at h
  by_cases q : cl.slots.size < 2 ^ 31
  · rw [if_pos q] at h; exact ⟨q, Value.int.inj (Option.some.inj h)⟩
  · rw [if_neg q] at h; cases h
theorem own_idxsub {k j : Int32} (hj : ¬ j < 0) : (Term.sub (.index 0) (.int k)).eval args s o [j.toNatClampNeg] s = some (.int (j - k)) := by
  have q : (Term.index 0).eval args s o [j.toNatClampNeg] s = some (.int j) := idx_at hj
  simp only [Term.eval] at q ⊢
  simpa using q
theorem own_arv0 {Z : State} {a : Addr} {cl : Cell} {ty : FieldType} {d : Value} (A : Arr Z s.heap a cl ty) (h : cl.slots.size < 2 ^ 31 ∧ cl.slots.size.toInt32 = (0 : Int32)) : Arv Z s.heap a cl.cls ty (0 : Int32) [] d := by
  have z : cl.slots.size = 0 := by
    have q := len_toInt h.1
    rw [h.2] at q
    have e0 : (0 : Int32).toInt = 0 := by decide
    omega
  exact ⟨cl, A, rfl, z, by decide, fun k hk => absurd hk (by omega), fun k hk => absurd hk (by omega)⟩
end Start
end Jvm.RoadKit
namespace Jvm.Pilot.@@N@@
open Jvm Jvm.ClassFile Sem Op Lib Jvm.Free Jvm.Stand Jvm.LawKit Jvm.RoadKit Bundle Jvm.Pilot.@@N@@.Jvm.D
theorem own_pick0_d0 : decode method_2_code 0 = .ok (.iload_n 0, 1) := by decide +kernel
theorem own_pick0_d1 : decode method_2_code 1 = .ok (.ifCond .ne 7, 3) := by decide +kernel
theorem own_pick0_d4 : decode method_2_code 4 = .ok (.getstatic 7, 3) := by decide +kernel
theorem own_pick0_d7 : decode method_2_code 7 = .ok (.areturn, 1) := by decide +kernel
theorem own_pick0_pn : plainName "com/example/fixd/fixd/client/LocationProviderStatusPinLaw" = true := by first | (simp [plainName, overriddenIn]; done) | decide +kernel
theorem own_pick0_ef (m : MethodId) (x0 : Int32) : entryFrame m #[(.int x0)] 1 = mkF m 0 #[.val (.int x0)] [] := by first | (simp [entryFrame, mkF, argsToLocals, Value.category]; done) | rfl
def own_pick0_Q (Z : State) (w0 : Addr) (w1 : Addr) (w2 : Addr) (sw : Addr) (cl : Cell) (h0 : Heap) (n0 : Nat) (vv_ : Option Value) (hh_ : Heap) (LL_ : List Loc) : Prop := vv_ = some (.ref w0) ∧ Fr n0 LL_ ∧ hh_ = h0
set_option maxRecDepth 65536 in
set_option maxHeartbeats 40000000 in
theorem own_pick0 (l : Launch) (Z : State) (a0 : Array Value) (hw : ∀ d ∈ tables_1, d.before a0 Z = true) (ws : List Jvm.Cond) (w0 : Addr) (w1 : Addr) (w2 : Addr) (sw : Addr) (cl : Cell) (h0 : Heap) (n0 : Nat) (Z0 : n0 ≤ h0.size) (S0 : Sta Z h0 "com/example/fixd/fixd/location/Provider$Status" "OUT_OF_SERVICE" "Lcom/example/fixd/fixd/location/Provider$Status;" (.ref w0)) (S1 : Sta Z h0 "com/example/fixd/fixd/location/Provider$Status" "TEMPORARILY_UNAVAILABLE" "Lcom/example/fixd/fixd/location/Provider$Status;" (.ref w1)) (S2 : Sta Z h0 "com/example/fixd/fixd/location/Provider$Status" "AVAILABLE" "Lcom/example/fixd/fixd/location/Provider$Status;" (.ref w2)) :
    MetFree l (⟨"com/example/fixd/fixd/client/LocationProviderStatusPinLaw", "pick", "(I)Lcom/example/fixd/fixd/location/Provider$Status;"⟩ : MethodName) (head1 (Jvm.Cond.code (⟨"com/example/fixd/fixd/client/LocationProviderStatusPinLaw", "pick", "(I)Lcom/example/fixd/fixd/location/Provider$Status;"⟩ : MethodName) method_2_code 1 (some (.object "com/example/fixd/fixd/location/Provider$Status")) :: ws) ({ frames := 0, cells := 0, slots := 0, locals := 0 } : Room)) (fun aa_ UU_ => aa_ = #[(.int (0 : Int32))] ∧ Z.Warmed39 UU_.vm ∧ UU_.heap = h0) (fun _ _ _ _ _ => True) (fun _ UU_ oo_ UV_ => ∃ vv_ LL_, oo_ = .returned vv_ ∧ own_pick0_Q Z w0 w1 w2 sw cl h0 n0 vv_ UV_.heap LL_ ∧ FrameEnd UU_ oo_ UV_ LL_ ({ frames := 0, cells := 0, slots := 0, locals := 0 } : Room).cells ({ frames := 0, cells := 0, slots := 0, locals := 0 } : Room).slots) := by
  refine MetFree.of_bodySF (plainFor_of_name own_pick0_pn) hisR ?_
  intro p e s m args below meth c s₁ Bd hml0 hP hK
  obtain ⟨rfl, hZ, hh⟩ := hP
  have hx := Bd.exec
  have hby := Bd.bytes
  have hml : c.maxLocals = 1 := hml0
  have hown : s.vm.findClass "com/example/fixd/fixd/client/LocationProviderStatusPinLaw" = some m.cls := findClass_of_methodNamed Bd.named
  have hnm := (name_of_methodNamed Bd.named Bd.method).1
  have X0 : Stand p l e ({ frames := 0, cells := 0, slots := 0, locals := 0 } : Room) s m #[(.int (0 : Int32))] below meth c s₁ [] 0 0 := Stand.of_body Bd
  have e0 : s₁.heap = h0 := by rw [← hh, Bd.state]; rfl
  have N0 := Fr.nil n0
  have KP0 : Keep h0 h0 [] := Keep.refl _ _
  refine ownFin (Q := own_pick0_Q Z w0 w1 w2 sw cl h0 n0) ?_
  refine ownStep (fun _ k => castTop (own_pick0_ef m (0 : Int32)) k) ?_
  show ownGo p.tables e below (s₁.setTop (mkF m 0 #[.val (.int (0 : Int32))] [])) _
  refine ownStep (fun _ k => XS.iloadN X0.here hx rfl (hb hby own_pick0_d0) rfl  k) ?_
  refine ownStep (fun _ k => XS.ifNo X0.here hx rfl (hb hby own_pick0_d1) rfl ((if0 _ _).trans (teq (by decide : (0 : Int32) = (0 : Int32))).2) k) ?_
  show ownGo p.tables e below (s₁.setTop (mkF m 4 #[.val (.int (0 : Int32))] [])) _
  obtain ⟨T1, X1, e1, st1⟩ := getS2 X0 hx hZ hown (host := "") (Or.inl (hw _ (List.mem_of_getElem? (i := 5) rfl))) Via.refl e0 S0 (g := (mkF m 4 #[.val (.int (0 : Int32))] [])) rfl (hb hby own_pick0_d4)
  refine ownStep st1 ?_
  show ownGo p.tables e below (T1.setTop (mkF m 7 #[.val (.int (0 : Int32))] [(.ref w0)])) _
  exact ownRet X1 (v := some (.ref w0)) Bd.notSynchronized (fun h => by rw [Bd.returns] at h; cases h) (fun _ hr => retOut X1 hx (t := (.object "com/example/fixd/fixd/location/Provider$Status")) Bd.returns rfl (Or.inr (Or.inr (Or.inr (Or.inr ⟨rfl, rfl, rfl⟩)))) (hb hby own_pick0_d7) hr) (by rw [e1]; exact ⟨rfl, N0, rfl⟩) (by decide) (by decide)
theorem own_exp0_d0 : decode method_3_code 0 = .ok (.iload_n 0, 1) := by decide +kernel
theorem own_exp0_d1 : decode method_3_code 1 = .ok (.ifCond .ne 5, 3) := by decide +kernel
theorem own_exp0_d4 : decode method_3_code 4 = .ok (.iconst 0, 1) := by decide +kernel
theorem own_exp0_d5 : decode method_3_code 5 = .ok (.ireturn, 1) := by decide +kernel
theorem own_exp0_pn : plainName "com/example/fixd/fixd/client/LocationProviderStatusPinLaw" = true := by first | (simp [plainName, overriddenIn]; done) | decide +kernel
theorem own_exp0_ef (m : MethodId) (x0 : Int32) : entryFrame m #[(.int x0)] 1 = mkF m 0 #[.val (.int x0)] [] := by first | (simp [entryFrame, mkF, argsToLocals, Value.category]; done) | rfl
def own_exp0_Q (Z : State)  (h0 : Heap) (n0 : Nat) (vv_ : Option Value) (hh_ : Heap) (LL_ : List Loc) : Prop := vv_ = some (.int (0 : Int32)) ∧ Fr n0 LL_ ∧ hh_ = h0
set_option maxRecDepth 65536 in
set_option maxHeartbeats 40000000 in
theorem own_exp0 (l : Launch) (Z : State) (a0 : Array Value) (hw : ∀ d ∈ tables_1, d.before a0 Z = true) (ws : List Jvm.Cond)  (h0 : Heap) (n0 : Nat) (Z0 : n0 ≤ h0.size) :
    MetFree l (⟨"com/example/fixd/fixd/client/LocationProviderStatusPinLaw", "expected", "(I)I"⟩ : MethodName) (head1 (Jvm.Cond.code (⟨"com/example/fixd/fixd/client/LocationProviderStatusPinLaw", "expected", "(I)I"⟩ : MethodName) method_3_code 1 (some .int) :: ws) ({ frames := 0, cells := 0, slots := 0, locals := 0 } : Room)) (fun aa_ UU_ => aa_ = #[(.int (0 : Int32))] ∧ Z.Warmed39 UU_.vm ∧ UU_.heap = h0) (fun _ _ _ _ _ => True) (fun _ UU_ oo_ UV_ => ∃ vv_ LL_, oo_ = .returned vv_ ∧ own_exp0_Q Z  h0 n0 vv_ UV_.heap LL_ ∧ FrameEnd UU_ oo_ UV_ LL_ ({ frames := 0, cells := 0, slots := 0, locals := 0 } : Room).cells ({ frames := 0, cells := 0, slots := 0, locals := 0 } : Room).slots) := by
  refine MetFree.of_bodySF (plainFor_of_name own_exp0_pn) hisR ?_
  intro p e s m args below meth c s₁ Bd hml0 hP hK
  obtain ⟨rfl, hZ, hh⟩ := hP
  have hx := Bd.exec
  have hby := Bd.bytes
  have hml : c.maxLocals = 1 := hml0
  have hown : s.vm.findClass "com/example/fixd/fixd/client/LocationProviderStatusPinLaw" = some m.cls := findClass_of_methodNamed Bd.named
  have hnm := (name_of_methodNamed Bd.named Bd.method).1
  have X0 : Stand p l e ({ frames := 0, cells := 0, slots := 0, locals := 0 } : Room) s m #[(.int (0 : Int32))] below meth c s₁ [] 0 0 := Stand.of_body Bd
  have e0 : s₁.heap = h0 := by rw [← hh, Bd.state]; rfl
  have N0 := Fr.nil n0
  have KP0 : Keep h0 h0 [] := Keep.refl _ _
  refine ownFin (Q := own_exp0_Q Z  h0 n0) ?_
  refine ownStep (fun _ k => castTop (own_exp0_ef m (0 : Int32)) k) ?_
  show ownGo p.tables e below (s₁.setTop (mkF m 0 #[.val (.int (0 : Int32))] [])) _
  refine ownStep (fun _ k => XS.iloadN X0.here hx rfl (hb hby own_exp0_d0) rfl  k) ?_
  refine ownStep (fun _ k => XS.ifNo X0.here hx rfl (hb hby own_exp0_d1) rfl ((if0 _ _).trans (teq (by decide : (0 : Int32) = (0 : Int32))).2) k) ?_
  refine ownStep (fun _ k => XS.iconst X0.here hx rfl (hb hby own_exp0_d4) k) ?_
  show ownGo p.tables e below (s₁.setTop (mkF m 5 #[.val (.int (0 : Int32))] [(.int (0 : Int32))])) _
  exact ownRet X0 (v := some (.int (0 : Int32))) Bd.notSynchronized (fun h => by rw [Bd.returns] at h; cases h) (fun _ hr => retI X0 hx Bd.returns (hb hby own_exp0_d5) hr) (by rw [e0]; exact ⟨rfl, N0, rfl⟩) (by decide) (by decide)
theorem own_named0_d0 : decode method_4_code 0 = .ok (.iload_n 0, 1) := by decide +kernel
theorem own_named0_d1 : decode method_4_code 1 = .ok (.ifCond .ne 5, 3) := by decide +kernel
theorem own_named0_d4 : decode method_4_code 4 = .ok (.iconst 0, 1) := by decide +kernel
theorem own_named0_d5 : decode method_4_code 5 = .ok (.ireturn, 1) := by decide +kernel
theorem own_named0_pn : plainName "com/example/fixd/fixd/client/LocationProviderStatusPinLaw" = true := by first | (simp [plainName, overriddenIn]; done) | decide +kernel
theorem own_named0_ef (m : MethodId) (x0 : Int32) : entryFrame m #[(.int x0)] 1 = mkF m 0 #[.val (.int x0)] [] := by first | (simp [entryFrame, mkF, argsToLocals, Value.category]; done) | rfl
def own_named0_Q (Z : State)  (h0 : Heap) (n0 : Nat) (vv_ : Option Value) (hh_ : Heap) (LL_ : List Loc) : Prop := vv_ = some (.int (0 : Int32)) ∧ Fr n0 LL_ ∧ hh_ = h0
set_option maxRecDepth 65536 in
set_option maxHeartbeats 40000000 in
theorem own_named0 (l : Launch) (Z : State) (a0 : Array Value) (hw : ∀ d ∈ tables_1, d.before a0 Z = true) (ws : List Jvm.Cond)  (h0 : Heap) (n0 : Nat) (Z0 : n0 ≤ h0.size) :
    MetFree l (⟨"com/example/fixd/fixd/client/LocationProviderStatusPinLaw", "named", "(I)I"⟩ : MethodName) (head1 (Jvm.Cond.code (⟨"com/example/fixd/fixd/client/LocationProviderStatusPinLaw", "named", "(I)I"⟩ : MethodName) method_4_code 1 (some .int) :: ws) ({ frames := 0, cells := 0, slots := 0, locals := 0 } : Room)) (fun aa_ UU_ => aa_ = #[(.int (0 : Int32))] ∧ Z.Warmed39 UU_.vm ∧ UU_.heap = h0) (fun _ _ _ _ _ => True) (fun _ UU_ oo_ UV_ => ∃ vv_ LL_, oo_ = .returned vv_ ∧ own_named0_Q Z  h0 n0 vv_ UV_.heap LL_ ∧ FrameEnd UU_ oo_ UV_ LL_ ({ frames := 0, cells := 0, slots := 0, locals := 0 } : Room).cells ({ frames := 0, cells := 0, slots := 0, locals := 0 } : Room).slots) := by
  refine MetFree.of_bodySF (plainFor_of_name own_named0_pn) hisR ?_
  intro p e s m args below meth c s₁ Bd hml0 hP hK
  obtain ⟨rfl, hZ, hh⟩ := hP
  have hx := Bd.exec
  have hby := Bd.bytes
  have hml : c.maxLocals = 1 := hml0
  have hown : s.vm.findClass "com/example/fixd/fixd/client/LocationProviderStatusPinLaw" = some m.cls := findClass_of_methodNamed Bd.named
  have hnm := (name_of_methodNamed Bd.named Bd.method).1
  have X0 : Stand p l e ({ frames := 0, cells := 0, slots := 0, locals := 0 } : Room) s m #[(.int (0 : Int32))] below meth c s₁ [] 0 0 := Stand.of_body Bd
  have e0 : s₁.heap = h0 := by rw [← hh, Bd.state]; rfl
  have N0 := Fr.nil n0
  have KP0 : Keep h0 h0 [] := Keep.refl _ _
  refine ownFin (Q := own_named0_Q Z  h0 n0) ?_
  refine ownStep (fun _ k => castTop (own_named0_ef m (0 : Int32)) k) ?_
  show ownGo p.tables e below (s₁.setTop (mkF m 0 #[.val (.int (0 : Int32))] [])) _
  refine ownStep (fun _ k => XS.iloadN X0.here hx rfl (hb hby own_named0_d0) rfl  k) ?_
  refine ownStep (fun _ k => XS.ifNo X0.here hx rfl (hb hby own_named0_d1) rfl ((if0 _ _).trans (teq (by decide : (0 : Int32) = (0 : Int32))).2) k) ?_
  refine ownStep (fun _ k => XS.iconst X0.here hx rfl (hb hby own_named0_d4) k) ?_
  show ownGo p.tables e below (s₁.setTop (mkF m 5 #[.val (.int (0 : Int32))] [(.int (0 : Int32))])) _
  exact ownRet X0 (v := some (.int (0 : Int32))) Bd.notSynchronized (fun h => by rw [Bd.returns] at h; cases h) (fun _ hr => retI X0 hx Bd.returns (hb hby own_named0_d5) hr) (by rw [e0]; exact ⟨rfl, N0, rfl⟩) (by decide) (by decide)
theorem own_ord0_d0 : decode jdk_37_method_2_code 0 = .ok (.aload_n 0, 1) := by decide +kernel
theorem own_ord0_d1 : decode jdk_37_method_2_code 1 = .ok (.getfield 7, 3) := by decide +kernel
theorem own_ord0_d4 : decode jdk_37_method_2_code 4 = .ok (.ireturn, 1) := by decide +kernel
theorem own_ord0_pn : plainName "java/lang/Enum" = true := by first | (simp [plainName, overriddenIn]; done) | decide +kernel
theorem own_ord0_ef (m : MethodId) (x0 : Addr) : entryFrame m #[(.ref x0)] 1 = mkF m 0 #[.val (.ref x0)] [] := by first | (simp [entryFrame, mkF, argsToLocals, Value.category]; done) | rfl
def own_ord0_Q (Z : State) (a : Addr) (h0 : Heap) (n0 : Nat) (vv_ : Option Value) (hh_ : Heap) (LL_ : List Loc) : Prop := vv_ = some (.int (0 : Int32)) ∧ Fr n0 LL_ ∧ hh_ = h0
set_option maxRecDepth 65536 in
set_option maxHeartbeats 40000000 in
theorem own_ord0 (l : Launch) (Z : State) (a0 : Array Value) (hw : ∀ d ∈ tables_1, d.before a0 Z = true) (ws : List Jvm.Cond) (a : Addr) (h0 : Heap) (n0 : Nat) (Z0 : n0 ≤ h0.size) (F : Fld Z h0 a "java/lang/Enum" "ordinal" "I" (.int (0 : Int32))) :
    MetFree l (⟨"java/lang/Enum", "ordinal", "()I"⟩ : MethodName) (head1 (Jvm.Cond.code (⟨"java/lang/Enum", "ordinal", "()I"⟩ : MethodName) jdk_37_method_2_code 1 (some .int) :: ws) ({ frames := 0, cells := 0, slots := 0, locals := 0 } : Room)) (fun aa_ UU_ => aa_ = #[(.ref a)] ∧ Z.Warmed39 UU_.vm ∧ UU_.heap = h0) (fun _ _ _ _ _ => True) (fun _ UU_ oo_ UV_ => ∃ vv_ LL_, oo_ = .returned vv_ ∧ own_ord0_Q Z a h0 n0 vv_ UV_.heap LL_ ∧ FrameEnd UU_ oo_ UV_ LL_ ({ frames := 0, cells := 0, slots := 0, locals := 0 } : Room).cells ({ frames := 0, cells := 0, slots := 0, locals := 0 } : Room).slots) := by
  refine MetFree.of_bodySF (plainFor_of_name own_ord0_pn) hisR ?_
  intro p e s m args below meth c s₁ Bd hml0 hP hK
  obtain ⟨rfl, hZ, hh⟩ := hP
  have hx := Bd.exec
  have hby := Bd.bytes
  have hml : c.maxLocals = 1 := hml0
  have hown : s.vm.findClass "java/lang/Enum" = some m.cls := findClass_of_methodNamed Bd.named
  have hnm := (name_of_methodNamed Bd.named Bd.method).1
  have X0 : Stand p l e ({ frames := 0, cells := 0, slots := 0, locals := 0 } : Room) s m #[(.ref a)] below meth c s₁ [] 0 0 := Stand.of_body Bd
  have e0 : s₁.heap = h0 := by rw [← hh, Bd.state]; rfl
  have N0 := Fr.nil n0
  have KP0 : Keep h0 h0 [] := Keep.refl _ _
  refine ownFin (Q := own_ord0_Q Z a h0 n0) ?_
  refine ownStep (fun _ k => castTop (own_ord0_ef m a) k) ?_
  show ownGo p.tables e below (s₁.setTop (mkF m 0 #[.val (.ref a)] [])) _
  refine ownStep (fun _ k => XS.aloadN X0.here hx rfl (hb hby own_ord0_d0) rfl rfl k) ?_
  show ownGo p.tables e below (s₁.setTop (mkF m 1 #[.val (.ref a)] [(.ref a)])) _
  obtain ⟨T1, X1, e1, st1⟩ := getF X0 hx hZ hown (host := "") (Or.inl (hw _ (List.mem_of_getElem? (i := 22) rfl))) Via.refl e0 F (g := (mkF m 1 #[.val (.ref a)] [(.ref a)])) rfl rfl (hb hby own_ord0_d1)
  refine ownStep st1 ?_
  show ownGo p.tables e below (T1.setTop (mkF m 4 #[.val (.ref a)] [(.int (0 : Int32))])) _
  exact ownRet X1 (v := some (.int (0 : Int32))) Bd.notSynchronized (fun h => by rw [Bd.returns] at h; cases h) (fun _ hr => retI X1 hx Bd.returns (hb hby own_ord0_d4) hr) (by rw [e1]; exact ⟨rfl, N0, rfl⟩) (by decide) (by decide)
theorem own_stat0_d0 : decode prog_7_method_12_code 0 = .ok (.getstatic 64, 3) := by decide +kernel
theorem own_stat0_d3 : decode prog_7_method_12_code 3 = .ok (.aload_n 0, 1) := by decide +kernel
theorem own_stat0_d4 : decode prog_7_method_12_code 4 = .ok (.invokevirtual 70, 3) := by decide +kernel
theorem own_stat0_d7 : decode prog_7_method_12_code 7 = .ok (.iaload, 1) := by decide +kernel
theorem own_stat0_d8 : decode prog_7_method_12_code 8 = .ok (.tableswitch 28 1 3 #[38, 42, 46], 28) := by decide +kernel
theorem own_stat0_d46 : decode prog_7_method_12_code 46 = .ok (.iconst 0, 1) := by decide +kernel
theorem own_stat0_d47 : decode prog_7_method_12_code 47 = .ok (.goto 8, 3) := by decide +kernel
theorem own_stat0_d55 : decode prog_7_method_12_code 55 = .ok (.ireturn, 1) := by decide +kernel
theorem own_stat0_pn : plainName "com/example/fixd/fixd/client/LocationProvider" = true := by first | (simp [plainName, overriddenIn]; done) | decide +kernel
theorem own_stat0_pd0 : parseMethodDescriptor "()I" = some ⟨[], some .int⟩ := by decide +kernel
theorem own_stat0_ef (m : MethodId) (x0 : Addr) : entryFrame m #[(.ref x0)] 1 = mkF m 0 #[.val (.ref x0)] [] := by first | (simp [entryFrame, mkF, argsToLocals, Value.category]; done) | rfl
def own_stat0_Q (Z : State) (w0 : Addr) (w1 : Addr) (w2 : Addr) (sw : Addr) (cl : Cell) (h0 : Heap) (n0 : Nat) (vv_ : Option Value) (hh_ : Heap) (LL_ : List Loc) : Prop := vv_ = some (.int (0 : Int32)) ∧ Fr n0 LL_ ∧ hh_ = h0
set_option maxRecDepth 65536 in
set_option maxHeartbeats 40000000 in
theorem own_stat0 (l : Launch) (Z : State) (a0 : Array Value) (hw : ∀ d ∈ tables_1, d.before a0 Z = true) (ws : List Jvm.Cond) (w0 : Addr) (w1 : Addr) (w2 : Addr) (sw : Addr) (cl : Cell) (h0 : Heap) (n0 : Nat) (Z0 : n0 ≤ h0.size) (S0 : Sta Z h0 "com/example/fixd/fixd/location/Provider$Status" "OUT_OF_SERVICE" "Lcom/example/fixd/fixd/location/Provider$Status;" (.ref w0)) (S1 : Sta Z h0 "com/example/fixd/fixd/location/Provider$Status" "TEMPORARILY_UNAVAILABLE" "Lcom/example/fixd/fixd/location/Provider$Status;" (.ref w1)) (S2 : Sta Z h0 "com/example/fixd/fixd/location/Provider$Status" "AVAILABLE" "Lcom/example/fixd/fixd/location/Provider$Status;" (.ref w2)) (E0 : Exa Z h0 w0 "com/example/fixd/fixd/location/Provider$Status") (E1 : Exa Z h0 w1 "com/example/fixd/fixd/location/Provider$Status") (E2 : Exa Z h0 w2 "com/example/fixd/fixd/location/Provider$Status") (F0 : Fld Z h0 w0 "java/lang/Enum" "ordinal" "I" (.int (0 : Int32))) (F1 : Fld Z h0 w1 "java/lang/Enum" "ordinal" "I" (.int (1 : Int32))) (F2 : Fld Z h0 w2 "java/lang/Enum" "ordinal" "I" (.int (2 : Int32))) (Ssw : Sta Z h0 "com/example/fixd/fixd/client/LocationProvider$1" "$SwitchMap$com$example$fixd$fixd$location$Provider$Status" "[I" (.ref sw)) (Asw : Arr Z h0 sw cl .int) (El0 : ¬ ((0 : Int32) < 0 ∨ cl.slots.size ≤ (0 : Int32).toNatClampNeg) ∧ cl.slots[(0 : Int32).toNatClampNeg]? = some (.int (1 : Int32))) (El1 : ¬ ((1 : Int32) < 0 ∨ cl.slots.size ≤ (1 : Int32).toNatClampNeg) ∧ cl.slots[(1 : Int32).toNatClampNeg]? = some (.int (2 : Int32))) (El2 : ¬ ((2 : Int32) < 0 ∨ cl.slots.size ≤ (2 : Int32).toNatClampNeg) ∧ cl.slots[(2 : Int32).toNatClampNeg]? = some (.int (3 : Int32))) :
    MetFree l (⟨"com/example/fixd/fixd/client/LocationProvider", "status", "(Lcom/example/fixd/fixd/location/Provider$Status;)I"⟩ : MethodName) (head1 (Jvm.Cond.code (⟨"com/example/fixd/fixd/client/LocationProvider", "status", "(Lcom/example/fixd/fixd/location/Provider$Status;)I"⟩ : MethodName) prog_7_method_12_code 1 (some .int) :: ws) ({ frames := 1, cells := 0, slots := 0, locals := 13 } : Room)) (fun aa_ UU_ => aa_ = #[(.ref w0)] ∧ Z.Warmed39 UU_.vm ∧ UU_.heap = h0) (fun _ _ _ _ _ => True) (fun _ UU_ oo_ UV_ => ∃ vv_ LL_, oo_ = .returned vv_ ∧ own_stat0_Q Z w0 w1 w2 sw cl h0 n0 vv_ UV_.heap LL_ ∧ FrameEnd UU_ oo_ UV_ LL_ ({ frames := 1, cells := 0, slots := 0, locals := 13 } : Room).cells ({ frames := 1, cells := 0, slots := 0, locals := 13 } : Room).slots) := by
  refine MetFree.of_bodySF (plainFor_of_name own_stat0_pn) hisR ?_
  intro p e s m args below meth c s₁ Bd hml0 hP hK
  obtain ⟨rfl, hZ, hh⟩ := hP
  have hx := Bd.exec
  have hby := Bd.bytes
  have hml : c.maxLocals = 1 := hml0
  have hown : s.vm.findClass "com/example/fixd/fixd/client/LocationProvider" = some m.cls := findClass_of_methodNamed Bd.named
  have hnm := (name_of_methodNamed Bd.named Bd.method).1
  have X0 : Stand p l e ({ frames := 1, cells := 0, slots := 0, locals := 13 } : Room) s m #[(.ref w0)] below meth c s₁ [] 0 0 := Stand.of_body Bd
  have e0 : s₁.heap = h0 := by rw [← hh, Bd.state]; rfl
  have N0 := Fr.nil n0
  have KP0 : Keep h0 h0 [] := Keep.refl _ _
  refine ownFin (Q := own_stat0_Q Z w0 w1 w2 sw cl h0 n0) ?_
  refine ownStep (fun _ k => castTop (own_stat0_ef m w0) k) ?_
  show ownGo p.tables e below (s₁.setTop (mkF m 0 #[.val (.ref w0)] [])) _
  obtain ⟨T1, X1, e1, st1⟩ := getS2 X0 hx hZ hown (host := "") (Or.inl (hw _ (List.mem_of_getElem? (i := 12) rfl))) Via.refl e0 Ssw (g := (mkF m 0 #[.val (.ref w0)] [])) rfl (hb hby own_stat0_d0)
  refine ownStep st1 ?_
  refine ownStep (fun _ k => XS.aloadN X1.here hx rfl (hb hby own_stat0_d3) rfl rfl k) ?_
  show ownGo p.tables e below (T1.setTop (mkF m 4 #[.val (.ref w0)] [(.ref w0), (.ref sw)])) _
  have Zs3 : n0 ≤ h0.size := Nat.le_trans Z0 KP0.1
  obtain ⟨cq2, kq2, q2a, q2b, q2c⟩ := isOf hZ e1 E0
  obtain ⟨_, _, ⟨T2, L2, k2, n2⟩, -, X2, ⟨Lc2, hQ2, l2, y2, z2⟩, st2⟩ := X1.virtualBackUp hx (x := (⟨"com/example/fixd/fixd/location/Provider$Status", "ordinal", "()I"⟩ : MethodName)) (y := (⟨"java/lang/Enum", "ordinal", "()I"⟩ : MethodName)) hown (mvT hZ (hw _ (List.mem_of_getElem? (i := 15) rfl))) (mvT hZ (hw _ (List.mem_of_getElem? (i := 16) rfl))) (mvT hZ (hw _ (List.mem_of_getElem? (i := 17) rfl))) (by decide) (mvT hZ (hw _ (List.mem_of_getElem? (i := 19) rfl))) (mvT hZ (hw _ (List.mem_of_getElem? (i := 18) rfl))) (backOf (W := 1) (own_ord0 l Z a0 hw [] w0 h0 n0 Zs3 F0) hZ (hw _ (List.mem_of_getElem? (i := 21) rfl)) (hw _ (List.mem_of_getElem? (i := 20) rfl)) (by decide) (by decide)) q2a q2c (g := (mkF m 4 #[.val (.ref w0)] [(.ref w0), (.ref sw)])) rfl (by rw [hml]; rfl) (Steps.refl _) (argsL := []) (rest := [(.ref sw)]) (lenOf own_stat0_pd0 rfl) rfl (by show 2 * 0 + _ ≤ _; exact Nat.le_of_eq rfl) (hb hby own_stat0_d4) (fun _ _ => ⟨rfl, e1, (by decide : 0 + 0 ≤ _), (by decide : 0 + 0 ≤ _)⟩)
  dsimp only [Pt.U, Pt.locs, Pt.cells, Pt.slots] at X2 l2 y2 z2 st2 hQ2
  subst l2 y2 z2
  obtain ⟨rfl, N2q, R2⟩ := hQ2
  have N2 := Fr.app N0 N2q
  refine ownStep (fun _ k => st2.trans k) ?_
  show ownGo p.tables e below (T2.setTop (mkF m 7 #[.val (.ref w0)] [(.int (0 : Int32)), (.ref sw)])) _
  refine ownStep (X2.iaload hx (j := (0 : Int32)) (v := (.int (1 : Int32))) (by rw [R2]; exact Asw.1) (State.isArrayOf_alike hZ.alike Asw.2.1) Asw.2.2 El0.1 El0.2 (g := (mkF m 7 #[.val (.ref w0)] [(.int (0 : Int32)), (.ref sw)])) rfl rfl (hb hby own_stat0_d7)) ?_
  refine ownStep (fun _ k => XS.tswIn X2.here hx rfl (pc0 := 8) (pc' := 46) rfl (hb hby own_stat0_d8) rfl (by decide) (o := 38) (by decide) (by decide) (by decide) k) ?_
  refine ownStep (fun _ k => XS.iconst X2.here hx rfl (hb hby own_stat0_d46) k) ?_
  refine ownStep (fun _ k => XS.goto X2.here hx rfl (pc0 := 47) (pc' := 55) rfl (hb hby own_stat0_d47) (by decide) (by decide) k) ?_
  show ownGo p.tables e below (T2.setTop (mkF m 55 #[.val (.ref w0)] [(.int (0 : Int32))])) _
  exact ownRet X2 (v := some (.int (0 : Int32))) Bd.notSynchronized (fun h => by rw [Bd.returns] at h; cases h) (fun _ hr => retI X2 hx Bd.returns (hb hby own_stat0_d55) hr) (by rw [R2]; exact ⟨rfl, N2, rfl⟩) (by decide) (by decide)
theorem own_pick1_d0 : decode method_2_code 0 = .ok (.iload_n 0, 1) := by decide +kernel
theorem own_pick1_d1 : decode method_2_code 1 = .ok (.ifCond .ne 7, 3) := by decide +kernel
theorem own_pick1_d8 : decode method_2_code 8 = .ok (.iload_n 0, 1) := by decide +kernel
theorem own_pick1_d9 : decode method_2_code 9 = .ok (.iconst 1, 1) := by decide +kernel
theorem own_pick1_d10 : decode method_2_code 10 = .ok (.if_icmp .ne 7, 3) := by decide +kernel
theorem own_pick1_d13 : decode method_2_code 13 = .ok (.getstatic 13, 3) := by decide +kernel
theorem own_pick1_d16 : decode method_2_code 16 = .ok (.areturn, 1) := by decide +kernel
theorem own_pick1_pn : plainName "com/example/fixd/fixd/client/LocationProviderStatusPinLaw" = true := by first | (simp [plainName, overriddenIn]; done) | decide +kernel
theorem own_pick1_ef (m : MethodId) (x0 : Int32) : entryFrame m #[(.int x0)] 1 = mkF m 0 #[.val (.int x0)] [] := by first | (simp [entryFrame, mkF, argsToLocals, Value.category]; done) | rfl
def own_pick1_Q (Z : State) (w0 : Addr) (w1 : Addr) (w2 : Addr) (sw : Addr) (cl : Cell) (h0 : Heap) (n0 : Nat) (vv_ : Option Value) (hh_ : Heap) (LL_ : List Loc) : Prop := vv_ = some (.ref w1) ∧ Fr n0 LL_ ∧ hh_ = h0
set_option maxRecDepth 65536 in
set_option maxHeartbeats 40000000 in
theorem own_pick1 (l : Launch) (Z : State) (a0 : Array Value) (hw : ∀ d ∈ tables_1, d.before a0 Z = true) (ws : List Jvm.Cond) (w0 : Addr) (w1 : Addr) (w2 : Addr) (sw : Addr) (cl : Cell) (h0 : Heap) (n0 : Nat) (Z0 : n0 ≤ h0.size) (S0 : Sta Z h0 "com/example/fixd/fixd/location/Provider$Status" "OUT_OF_SERVICE" "Lcom/example/fixd/fixd/location/Provider$Status;" (.ref w0)) (S1 : Sta Z h0 "com/example/fixd/fixd/location/Provider$Status" "TEMPORARILY_UNAVAILABLE" "Lcom/example/fixd/fixd/location/Provider$Status;" (.ref w1)) (S2 : Sta Z h0 "com/example/fixd/fixd/location/Provider$Status" "AVAILABLE" "Lcom/example/fixd/fixd/location/Provider$Status;" (.ref w2)) :
    MetFree l (⟨"com/example/fixd/fixd/client/LocationProviderStatusPinLaw", "pick", "(I)Lcom/example/fixd/fixd/location/Provider$Status;"⟩ : MethodName) (head1 (Jvm.Cond.code (⟨"com/example/fixd/fixd/client/LocationProviderStatusPinLaw", "pick", "(I)Lcom/example/fixd/fixd/location/Provider$Status;"⟩ : MethodName) method_2_code 1 (some (.object "com/example/fixd/fixd/location/Provider$Status")) :: ws) ({ frames := 0, cells := 0, slots := 0, locals := 0 } : Room)) (fun aa_ UU_ => aa_ = #[(.int (1 : Int32))] ∧ Z.Warmed39 UU_.vm ∧ UU_.heap = h0) (fun _ _ _ _ _ => True) (fun _ UU_ oo_ UV_ => ∃ vv_ LL_, oo_ = .returned vv_ ∧ own_pick1_Q Z w0 w1 w2 sw cl h0 n0 vv_ UV_.heap LL_ ∧ FrameEnd UU_ oo_ UV_ LL_ ({ frames := 0, cells := 0, slots := 0, locals := 0 } : Room).cells ({ frames := 0, cells := 0, slots := 0, locals := 0 } : Room).slots) := by
  refine MetFree.of_bodySF (plainFor_of_name own_pick1_pn) hisR ?_
  intro p e s m args below meth c s₁ Bd hml0 hP hK
  obtain ⟨rfl, hZ, hh⟩ := hP
  have hx := Bd.exec
  have hby := Bd.bytes
  have hml : c.maxLocals = 1 := hml0
  have hown : s.vm.findClass "com/example/fixd/fixd/client/LocationProviderStatusPinLaw" = some m.cls := findClass_of_methodNamed Bd.named
  have hnm := (name_of_methodNamed Bd.named Bd.method).1
  have X0 : Stand p l e ({ frames := 0, cells := 0, slots := 0, locals := 0 } : Room) s m #[(.int (1 : Int32))] below meth c s₁ [] 0 0 := Stand.of_body Bd
  have e0 : s₁.heap = h0 := by rw [← hh, Bd.state]; rfl
  have N0 := Fr.nil n0
  have KP0 : Keep h0 h0 [] := Keep.refl _ _
  refine ownFin (Q := own_pick1_Q Z w0 w1 w2 sw cl h0 n0) ?_
  refine ownStep (fun _ k => castTop (own_pick1_ef m (1 : Int32)) k) ?_
  show ownGo p.tables e below (s₁.setTop (mkF m 0 #[.val (.int (1 : Int32))] [])) _
  refine ownStep (fun _ k => XS.iloadN X0.here hx rfl (hb hby own_pick1_d0) rfl  k) ?_
  refine ownStep (fun _ k => XS.ifYes X0.here hx rfl (pc0 := 1) (pc' := 8) rfl (hb hby own_pick1_d1) rfl ((if0 _ _).trans (feq (by decide : ¬ (1 : Int32) = (0 : Int32))).2) (by decide) (by decide) k) ?_
  refine ownStep (fun _ k => XS.iloadN X0.here hx rfl (hb hby own_pick1_d8) rfl  k) ?_
  refine ownStep (fun _ k => XS.iconst X0.here hx rfl (hb hby own_pick1_d9) k) ?_
  refine ownStep (fun _ k => XS.icmpNo X0.here hx rfl (hb hby own_pick1_d10) rfl (teq (by decide : (1 : Int32) = (1 : Int32))).2 k) ?_
  show ownGo p.tables e below (s₁.setTop (mkF m 13 #[.val (.int (1 : Int32))] [])) _
  obtain ⟨T1, X1, e1, st1⟩ := getS2 X0 hx hZ hown (host := "") (Or.inl (hw _ (List.mem_of_getElem? (i := 32) rfl))) Via.refl e0 S1 (g := (mkF m 13 #[.val (.int (1 : Int32))] [])) rfl (hb hby own_pick1_d13)
  refine ownStep st1 ?_
  show ownGo p.tables e below (T1.setTop (mkF m 16 #[.val (.int (1 : Int32))] [(.ref w1)])) _
  exact ownRet X1 (v := some (.ref w1)) Bd.notSynchronized (fun h => by rw [Bd.returns] at h; cases h) (fun _ hr => retOut X1 hx (t := (.object "com/example/fixd/fixd/location/Provider$Status")) Bd.returns rfl (Or.inr (Or.inr (Or.inr (Or.inr ⟨rfl, rfl, rfl⟩)))) (hb hby own_pick1_d16) hr) (by rw [e1]; exact ⟨rfl, N0, rfl⟩) (by decide) (by decide)
theorem own_exp1_d0 : decode method_3_code 0 = .ok (.iload_n 0, 1) := by decide +kernel
theorem own_exp1_d1 : decode method_3_code 1 = .ok (.ifCond .ne 5, 3) := by decide +kernel
theorem own_exp1_d6 : decode method_3_code 6 = .ok (.iload_n 0, 1) := by decide +kernel
theorem own_exp1_d7 : decode method_3_code 7 = .ok (.iconst 1, 1) := by decide +kernel
theorem own_exp1_d8 : decode method_3_code 8 = .ok (.if_icmp .ne 5, 3) := by decide +kernel
theorem own_exp1_d11 : decode method_3_code 11 = .ok (.iconst 1, 1) := by decide +kernel
theorem own_exp1_d12 : decode method_3_code 12 = .ok (.ireturn, 1) := by decide +kernel
theorem own_exp1_pn : plainName "com/example/fixd/fixd/client/LocationProviderStatusPinLaw" = true := by first | (simp [plainName, overriddenIn]; done) | decide +kernel
theorem own_exp1_ef (m : MethodId) (x0 : Int32) : entryFrame m #[(.int x0)] 1 = mkF m 0 #[.val (.int x0)] [] := by first | (simp [entryFrame, mkF, argsToLocals, Value.category]; done) | rfl
def own_exp1_Q (Z : State)  (h0 : Heap) (n0 : Nat) (vv_ : Option Value) (hh_ : Heap) (LL_ : List Loc) : Prop := vv_ = some (.int (1 : Int32)) ∧ Fr n0 LL_ ∧ hh_ = h0
set_option maxRecDepth 65536 in
set_option maxHeartbeats 40000000 in
theorem own_exp1 (l : Launch) (Z : State) (a0 : Array Value) (hw : ∀ d ∈ tables_1, d.before a0 Z = true) (ws : List Jvm.Cond)  (h0 : Heap) (n0 : Nat) (Z0 : n0 ≤ h0.size) :
    MetFree l (⟨"com/example/fixd/fixd/client/LocationProviderStatusPinLaw", "expected", "(I)I"⟩ : MethodName) (head1 (Jvm.Cond.code (⟨"com/example/fixd/fixd/client/LocationProviderStatusPinLaw", "expected", "(I)I"⟩ : MethodName) method_3_code 1 (some .int) :: ws) ({ frames := 0, cells := 0, slots := 0, locals := 0 } : Room)) (fun aa_ UU_ => aa_ = #[(.int (1 : Int32))] ∧ Z.Warmed39 UU_.vm ∧ UU_.heap = h0) (fun _ _ _ _ _ => True) (fun _ UU_ oo_ UV_ => ∃ vv_ LL_, oo_ = .returned vv_ ∧ own_exp1_Q Z  h0 n0 vv_ UV_.heap LL_ ∧ FrameEnd UU_ oo_ UV_ LL_ ({ frames := 0, cells := 0, slots := 0, locals := 0 } : Room).cells ({ frames := 0, cells := 0, slots := 0, locals := 0 } : Room).slots) := by
  refine MetFree.of_bodySF (plainFor_of_name own_exp1_pn) hisR ?_
  intro p e s m args below meth c s₁ Bd hml0 hP hK
  obtain ⟨rfl, hZ, hh⟩ := hP
  have hx := Bd.exec
  have hby := Bd.bytes
  have hml : c.maxLocals = 1 := hml0
  have hown : s.vm.findClass "com/example/fixd/fixd/client/LocationProviderStatusPinLaw" = some m.cls := findClass_of_methodNamed Bd.named
  have hnm := (name_of_methodNamed Bd.named Bd.method).1
  have X0 : Stand p l e ({ frames := 0, cells := 0, slots := 0, locals := 0 } : Room) s m #[(.int (1 : Int32))] below meth c s₁ [] 0 0 := Stand.of_body Bd
  have e0 : s₁.heap = h0 := by rw [← hh, Bd.state]; rfl
  have N0 := Fr.nil n0
  have KP0 : Keep h0 h0 [] := Keep.refl _ _
  refine ownFin (Q := own_exp1_Q Z  h0 n0) ?_
  refine ownStep (fun _ k => castTop (own_exp1_ef m (1 : Int32)) k) ?_
  show ownGo p.tables e below (s₁.setTop (mkF m 0 #[.val (.int (1 : Int32))] [])) _
  refine ownStep (fun _ k => XS.iloadN X0.here hx rfl (hb hby own_exp1_d0) rfl  k) ?_
  refine ownStep (fun _ k => XS.ifYes X0.here hx rfl (pc0 := 1) (pc' := 6) rfl (hb hby own_exp1_d1) rfl ((if0 _ _).trans (feq (by decide : ¬ (1 : Int32) = (0 : Int32))).2) (by decide) (by decide) k) ?_
  refine ownStep (fun _ k => XS.iloadN X0.here hx rfl (hb hby own_exp1_d6) rfl  k) ?_
  refine ownStep (fun _ k => XS.iconst X0.here hx rfl (hb hby own_exp1_d7) k) ?_
  refine ownStep (fun _ k => XS.icmpNo X0.here hx rfl (hb hby own_exp1_d8) rfl (teq (by decide : (1 : Int32) = (1 : Int32))).2 k) ?_
  show ownGo p.tables e below (s₁.setTop (mkF m 11 #[.val (.int (1 : Int32))] [])) _
  refine ownStep (fun _ k => XS.iconst X0.here hx rfl (hb hby own_exp1_d11) k) ?_
  show ownGo p.tables e below (s₁.setTop (mkF m 12 #[.val (.int (1 : Int32))] [(.int (1 : Int32))])) _
  exact ownRet X0 (v := some (.int (1 : Int32))) Bd.notSynchronized (fun h => by rw [Bd.returns] at h; cases h) (fun _ hr => retI X0 hx Bd.returns (hb hby own_exp1_d12) hr) (by rw [e0]; exact ⟨rfl, N0, rfl⟩) (by decide) (by decide)
theorem own_named1_d0 : decode method_4_code 0 = .ok (.iload_n 0, 1) := by decide +kernel
theorem own_named1_d1 : decode method_4_code 1 = .ok (.ifCond .ne 5, 3) := by decide +kernel
theorem own_named1_d6 : decode method_4_code 6 = .ok (.iload_n 0, 1) := by decide +kernel
theorem own_named1_d7 : decode method_4_code 7 = .ok (.iconst 1, 1) := by decide +kernel
theorem own_named1_d8 : decode method_4_code 8 = .ok (.if_icmp .ne 5, 3) := by decide +kernel
theorem own_named1_d11 : decode method_4_code 11 = .ok (.iconst 1, 1) := by decide +kernel
theorem own_named1_d12 : decode method_4_code 12 = .ok (.ireturn, 1) := by decide +kernel
theorem own_named1_pn : plainName "com/example/fixd/fixd/client/LocationProviderStatusPinLaw" = true := by first | (simp [plainName, overriddenIn]; done) | decide +kernel
theorem own_named1_ef (m : MethodId) (x0 : Int32) : entryFrame m #[(.int x0)] 1 = mkF m 0 #[.val (.int x0)] [] := by first | (simp [entryFrame, mkF, argsToLocals, Value.category]; done) | rfl
def own_named1_Q (Z : State)  (h0 : Heap) (n0 : Nat) (vv_ : Option Value) (hh_ : Heap) (LL_ : List Loc) : Prop := vv_ = some (.int (1 : Int32)) ∧ Fr n0 LL_ ∧ hh_ = h0
set_option maxRecDepth 65536 in
set_option maxHeartbeats 40000000 in
theorem own_named1 (l : Launch) (Z : State) (a0 : Array Value) (hw : ∀ d ∈ tables_1, d.before a0 Z = true) (ws : List Jvm.Cond)  (h0 : Heap) (n0 : Nat) (Z0 : n0 ≤ h0.size) :
    MetFree l (⟨"com/example/fixd/fixd/client/LocationProviderStatusPinLaw", "named", "(I)I"⟩ : MethodName) (head1 (Jvm.Cond.code (⟨"com/example/fixd/fixd/client/LocationProviderStatusPinLaw", "named", "(I)I"⟩ : MethodName) method_4_code 1 (some .int) :: ws) ({ frames := 0, cells := 0, slots := 0, locals := 0 } : Room)) (fun aa_ UU_ => aa_ = #[(.int (1 : Int32))] ∧ Z.Warmed39 UU_.vm ∧ UU_.heap = h0) (fun _ _ _ _ _ => True) (fun _ UU_ oo_ UV_ => ∃ vv_ LL_, oo_ = .returned vv_ ∧ own_named1_Q Z  h0 n0 vv_ UV_.heap LL_ ∧ FrameEnd UU_ oo_ UV_ LL_ ({ frames := 0, cells := 0, slots := 0, locals := 0 } : Room).cells ({ frames := 0, cells := 0, slots := 0, locals := 0 } : Room).slots) := by
  refine MetFree.of_bodySF (plainFor_of_name own_named1_pn) hisR ?_
  intro p e s m args below meth c s₁ Bd hml0 hP hK
  obtain ⟨rfl, hZ, hh⟩ := hP
  have hx := Bd.exec
  have hby := Bd.bytes
  have hml : c.maxLocals = 1 := hml0
  have hown : s.vm.findClass "com/example/fixd/fixd/client/LocationProviderStatusPinLaw" = some m.cls := findClass_of_methodNamed Bd.named
  have hnm := (name_of_methodNamed Bd.named Bd.method).1
  have X0 : Stand p l e ({ frames := 0, cells := 0, slots := 0, locals := 0 } : Room) s m #[(.int (1 : Int32))] below meth c s₁ [] 0 0 := Stand.of_body Bd
  have e0 : s₁.heap = h0 := by rw [← hh, Bd.state]; rfl
  have N0 := Fr.nil n0
  have KP0 : Keep h0 h0 [] := Keep.refl _ _
  refine ownFin (Q := own_named1_Q Z  h0 n0) ?_
  refine ownStep (fun _ k => castTop (own_named1_ef m (1 : Int32)) k) ?_
  show ownGo p.tables e below (s₁.setTop (mkF m 0 #[.val (.int (1 : Int32))] [])) _
  refine ownStep (fun _ k => XS.iloadN X0.here hx rfl (hb hby own_named1_d0) rfl  k) ?_
  refine ownStep (fun _ k => XS.ifYes X0.here hx rfl (pc0 := 1) (pc' := 6) rfl (hb hby own_named1_d1) rfl ((if0 _ _).trans (feq (by decide : ¬ (1 : Int32) = (0 : Int32))).2) (by decide) (by decide) k) ?_
  refine ownStep (fun _ k => XS.iloadN X0.here hx rfl (hb hby own_named1_d6) rfl  k) ?_
  refine ownStep (fun _ k => XS.iconst X0.here hx rfl (hb hby own_named1_d7) k) ?_
  refine ownStep (fun _ k => XS.icmpNo X0.here hx rfl (hb hby own_named1_d8) rfl (teq (by decide : (1 : Int32) = (1 : Int32))).2 k) ?_
  show ownGo p.tables e below (s₁.setTop (mkF m 11 #[.val (.int (1 : Int32))] [])) _
  refine ownStep (fun _ k => XS.iconst X0.here hx rfl (hb hby own_named1_d11) k) ?_
  show ownGo p.tables e below (s₁.setTop (mkF m 12 #[.val (.int (1 : Int32))] [(.int (1 : Int32))])) _
  exact ownRet X0 (v := some (.int (1 : Int32))) Bd.notSynchronized (fun h => by rw [Bd.returns] at h; cases h) (fun _ hr => retI X0 hx Bd.returns (hb hby own_named1_d12) hr) (by rw [e0]; exact ⟨rfl, N0, rfl⟩) (by decide) (by decide)
theorem own_ord1_d0 : decode jdk_37_method_2_code 0 = .ok (.aload_n 0, 1) := by decide +kernel
theorem own_ord1_d1 : decode jdk_37_method_2_code 1 = .ok (.getfield 7, 3) := by decide +kernel
theorem own_ord1_d4 : decode jdk_37_method_2_code 4 = .ok (.ireturn, 1) := by decide +kernel
theorem own_ord1_pn : plainName "java/lang/Enum" = true := by first | (simp [plainName, overriddenIn]; done) | decide +kernel
theorem own_ord1_ef (m : MethodId) (x0 : Addr) : entryFrame m #[(.ref x0)] 1 = mkF m 0 #[.val (.ref x0)] [] := by first | (simp [entryFrame, mkF, argsToLocals, Value.category]; done) | rfl
def own_ord1_Q (Z : State) (a : Addr) (h0 : Heap) (n0 : Nat) (vv_ : Option Value) (hh_ : Heap) (LL_ : List Loc) : Prop := vv_ = some (.int (1 : Int32)) ∧ Fr n0 LL_ ∧ hh_ = h0
set_option maxRecDepth 65536 in
set_option maxHeartbeats 40000000 in
theorem own_ord1 (l : Launch) (Z : State) (a0 : Array Value) (hw : ∀ d ∈ tables_1, d.before a0 Z = true) (ws : List Jvm.Cond) (a : Addr) (h0 : Heap) (n0 : Nat) (Z0 : n0 ≤ h0.size) (F : Fld Z h0 a "java/lang/Enum" "ordinal" "I" (.int (1 : Int32))) :
    MetFree l (⟨"java/lang/Enum", "ordinal", "()I"⟩ : MethodName) (head1 (Jvm.Cond.code (⟨"java/lang/Enum", "ordinal", "()I"⟩ : MethodName) jdk_37_method_2_code 1 (some .int) :: ws) ({ frames := 0, cells := 0, slots := 0, locals := 0 } : Room)) (fun aa_ UU_ => aa_ = #[(.ref a)] ∧ Z.Warmed39 UU_.vm ∧ UU_.heap = h0) (fun _ _ _ _ _ => True) (fun _ UU_ oo_ UV_ => ∃ vv_ LL_, oo_ = .returned vv_ ∧ own_ord1_Q Z a h0 n0 vv_ UV_.heap LL_ ∧ FrameEnd UU_ oo_ UV_ LL_ ({ frames := 0, cells := 0, slots := 0, locals := 0 } : Room).cells ({ frames := 0, cells := 0, slots := 0, locals := 0 } : Room).slots) := by
  refine MetFree.of_bodySF (plainFor_of_name own_ord1_pn) hisR ?_
  intro p e s m args below meth c s₁ Bd hml0 hP hK
  obtain ⟨rfl, hZ, hh⟩ := hP
  have hx := Bd.exec
  have hby := Bd.bytes
  have hml : c.maxLocals = 1 := hml0
  have hown : s.vm.findClass "java/lang/Enum" = some m.cls := findClass_of_methodNamed Bd.named
  have hnm := (name_of_methodNamed Bd.named Bd.method).1
  have X0 : Stand p l e ({ frames := 0, cells := 0, slots := 0, locals := 0 } : Room) s m #[(.ref a)] below meth c s₁ [] 0 0 := Stand.of_body Bd
  have e0 : s₁.heap = h0 := by rw [← hh, Bd.state]; rfl
  have N0 := Fr.nil n0
  have KP0 : Keep h0 h0 [] := Keep.refl _ _
  refine ownFin (Q := own_ord1_Q Z a h0 n0) ?_
  refine ownStep (fun _ k => castTop (own_ord1_ef m a) k) ?_
  show ownGo p.tables e below (s₁.setTop (mkF m 0 #[.val (.ref a)] [])) _
  refine ownStep (fun _ k => XS.aloadN X0.here hx rfl (hb hby own_ord1_d0) rfl rfl k) ?_
  show ownGo p.tables e below (s₁.setTop (mkF m 1 #[.val (.ref a)] [(.ref a)])) _
  obtain ⟨T1, X1, e1, st1⟩ := getF X0 hx hZ hown (host := "") (Or.inl (hw _ (List.mem_of_getElem? (i := 22) rfl))) Via.refl e0 F (g := (mkF m 1 #[.val (.ref a)] [(.ref a)])) rfl rfl (hb hby own_ord1_d1)
  refine ownStep st1 ?_
  show ownGo p.tables e below (T1.setTop (mkF m 4 #[.val (.ref a)] [(.int (1 : Int32))])) _
  exact ownRet X1 (v := some (.int (1 : Int32))) Bd.notSynchronized (fun h => by rw [Bd.returns] at h; cases h) (fun _ hr => retI X1 hx Bd.returns (hb hby own_ord1_d4) hr) (by rw [e1]; exact ⟨rfl, N0, rfl⟩) (by decide) (by decide)
theorem own_stat1_d0 : decode prog_7_method_12_code 0 = .ok (.getstatic 64, 3) := by decide +kernel
theorem own_stat1_d3 : decode prog_7_method_12_code 3 = .ok (.aload_n 0, 1) := by decide +kernel
theorem own_stat1_d4 : decode prog_7_method_12_code 4 = .ok (.invokevirtual 70, 3) := by decide +kernel
theorem own_stat1_d7 : decode prog_7_method_12_code 7 = .ok (.iaload, 1) := by decide +kernel
theorem own_stat1_d8 : decode prog_7_method_12_code 8 = .ok (.tableswitch 28 1 3 #[38, 42, 46], 28) := by decide +kernel
theorem own_stat1_d50 : decode prog_7_method_12_code 50 = .ok (.iconst 1, 1) := by decide +kernel
theorem own_stat1_d51 : decode prog_7_method_12_code 51 = .ok (.goto 4, 3) := by decide +kernel
theorem own_stat1_d55 : decode prog_7_method_12_code 55 = .ok (.ireturn, 1) := by decide +kernel
theorem own_stat1_pn : plainName "com/example/fixd/fixd/client/LocationProvider" = true := by first | (simp [plainName, overriddenIn]; done) | decide +kernel
theorem own_stat1_pd0 : parseMethodDescriptor "()I" = some ⟨[], some .int⟩ := by decide +kernel
theorem own_stat1_ef (m : MethodId) (x0 : Addr) : entryFrame m #[(.ref x0)] 1 = mkF m 0 #[.val (.ref x0)] [] := by first | (simp [entryFrame, mkF, argsToLocals, Value.category]; done) | rfl
def own_stat1_Q (Z : State) (w0 : Addr) (w1 : Addr) (w2 : Addr) (sw : Addr) (cl : Cell) (h0 : Heap) (n0 : Nat) (vv_ : Option Value) (hh_ : Heap) (LL_ : List Loc) : Prop := vv_ = some (.int (1 : Int32)) ∧ Fr n0 LL_ ∧ hh_ = h0
set_option maxRecDepth 65536 in
set_option maxHeartbeats 40000000 in
theorem own_stat1 (l : Launch) (Z : State) (a0 : Array Value) (hw : ∀ d ∈ tables_1, d.before a0 Z = true) (ws : List Jvm.Cond) (w0 : Addr) (w1 : Addr) (w2 : Addr) (sw : Addr) (cl : Cell) (h0 : Heap) (n0 : Nat) (Z0 : n0 ≤ h0.size) (S0 : Sta Z h0 "com/example/fixd/fixd/location/Provider$Status" "OUT_OF_SERVICE" "Lcom/example/fixd/fixd/location/Provider$Status;" (.ref w0)) (S1 : Sta Z h0 "com/example/fixd/fixd/location/Provider$Status" "TEMPORARILY_UNAVAILABLE" "Lcom/example/fixd/fixd/location/Provider$Status;" (.ref w1)) (S2 : Sta Z h0 "com/example/fixd/fixd/location/Provider$Status" "AVAILABLE" "Lcom/example/fixd/fixd/location/Provider$Status;" (.ref w2)) (E0 : Exa Z h0 w0 "com/example/fixd/fixd/location/Provider$Status") (E1 : Exa Z h0 w1 "com/example/fixd/fixd/location/Provider$Status") (E2 : Exa Z h0 w2 "com/example/fixd/fixd/location/Provider$Status") (F0 : Fld Z h0 w0 "java/lang/Enum" "ordinal" "I" (.int (0 : Int32))) (F1 : Fld Z h0 w1 "java/lang/Enum" "ordinal" "I" (.int (1 : Int32))) (F2 : Fld Z h0 w2 "java/lang/Enum" "ordinal" "I" (.int (2 : Int32))) (Ssw : Sta Z h0 "com/example/fixd/fixd/client/LocationProvider$1" "$SwitchMap$com$example$fixd$fixd$location$Provider$Status" "[I" (.ref sw)) (Asw : Arr Z h0 sw cl .int) (El0 : ¬ ((0 : Int32) < 0 ∨ cl.slots.size ≤ (0 : Int32).toNatClampNeg) ∧ cl.slots[(0 : Int32).toNatClampNeg]? = some (.int (1 : Int32))) (El1 : ¬ ((1 : Int32) < 0 ∨ cl.slots.size ≤ (1 : Int32).toNatClampNeg) ∧ cl.slots[(1 : Int32).toNatClampNeg]? = some (.int (2 : Int32))) (El2 : ¬ ((2 : Int32) < 0 ∨ cl.slots.size ≤ (2 : Int32).toNatClampNeg) ∧ cl.slots[(2 : Int32).toNatClampNeg]? = some (.int (3 : Int32))) :
    MetFree l (⟨"com/example/fixd/fixd/client/LocationProvider", "status", "(Lcom/example/fixd/fixd/location/Provider$Status;)I"⟩ : MethodName) (head1 (Jvm.Cond.code (⟨"com/example/fixd/fixd/client/LocationProvider", "status", "(Lcom/example/fixd/fixd/location/Provider$Status;)I"⟩ : MethodName) prog_7_method_12_code 1 (some .int) :: ws) ({ frames := 1, cells := 0, slots := 0, locals := 13 } : Room)) (fun aa_ UU_ => aa_ = #[(.ref w1)] ∧ Z.Warmed39 UU_.vm ∧ UU_.heap = h0) (fun _ _ _ _ _ => True) (fun _ UU_ oo_ UV_ => ∃ vv_ LL_, oo_ = .returned vv_ ∧ own_stat1_Q Z w0 w1 w2 sw cl h0 n0 vv_ UV_.heap LL_ ∧ FrameEnd UU_ oo_ UV_ LL_ ({ frames := 1, cells := 0, slots := 0, locals := 13 } : Room).cells ({ frames := 1, cells := 0, slots := 0, locals := 13 } : Room).slots) := by
  refine MetFree.of_bodySF (plainFor_of_name own_stat1_pn) hisR ?_
  intro p e s m args below meth c s₁ Bd hml0 hP hK
  obtain ⟨rfl, hZ, hh⟩ := hP
  have hx := Bd.exec
  have hby := Bd.bytes
  have hml : c.maxLocals = 1 := hml0
  have hown : s.vm.findClass "com/example/fixd/fixd/client/LocationProvider" = some m.cls := findClass_of_methodNamed Bd.named
  have hnm := (name_of_methodNamed Bd.named Bd.method).1
  have X0 : Stand p l e ({ frames := 1, cells := 0, slots := 0, locals := 13 } : Room) s m #[(.ref w1)] below meth c s₁ [] 0 0 := Stand.of_body Bd
  have e0 : s₁.heap = h0 := by rw [← hh, Bd.state]; rfl
  have N0 := Fr.nil n0
  have KP0 : Keep h0 h0 [] := Keep.refl _ _
  refine ownFin (Q := own_stat1_Q Z w0 w1 w2 sw cl h0 n0) ?_
  refine ownStep (fun _ k => castTop (own_stat1_ef m w1) k) ?_
  show ownGo p.tables e below (s₁.setTop (mkF m 0 #[.val (.ref w1)] [])) _
  obtain ⟨T1, X1, e1, st1⟩ := getS2 X0 hx hZ hown (host := "") (Or.inl (hw _ (List.mem_of_getElem? (i := 12) rfl))) Via.refl e0 Ssw (g := (mkF m 0 #[.val (.ref w1)] [])) rfl (hb hby own_stat1_d0)
  refine ownStep st1 ?_
  refine ownStep (fun _ k => XS.aloadN X1.here hx rfl (hb hby own_stat1_d3) rfl rfl k) ?_
  show ownGo p.tables e below (T1.setTop (mkF m 4 #[.val (.ref w1)] [(.ref w1), (.ref sw)])) _
  have Zs3 : n0 ≤ h0.size := Nat.le_trans Z0 KP0.1
  obtain ⟨cq2, kq2, q2a, q2b, q2c⟩ := isOf hZ e1 E1
  obtain ⟨_, _, ⟨T2, L2, k2, n2⟩, -, X2, ⟨Lc2, hQ2, l2, y2, z2⟩, st2⟩ := X1.virtualBackUp hx (x := (⟨"com/example/fixd/fixd/location/Provider$Status", "ordinal", "()I"⟩ : MethodName)) (y := (⟨"java/lang/Enum", "ordinal", "()I"⟩ : MethodName)) hown (mvT hZ (hw _ (List.mem_of_getElem? (i := 15) rfl))) (mvT hZ (hw _ (List.mem_of_getElem? (i := 16) rfl))) (mvT hZ (hw _ (List.mem_of_getElem? (i := 17) rfl))) (by decide) (mvT hZ (hw _ (List.mem_of_getElem? (i := 19) rfl))) (mvT hZ (hw _ (List.mem_of_getElem? (i := 18) rfl))) (backOf (W := 1) (own_ord1 l Z a0 hw [] w1 h0 n0 Zs3 F1) hZ (hw _ (List.mem_of_getElem? (i := 21) rfl)) (hw _ (List.mem_of_getElem? (i := 20) rfl)) (by decide) (by decide)) q2a q2c (g := (mkF m 4 #[.val (.ref w1)] [(.ref w1), (.ref sw)])) rfl (by rw [hml]; rfl) (Steps.refl _) (argsL := []) (rest := [(.ref sw)]) (lenOf own_stat1_pd0 rfl) rfl (by show 2 * 0 + _ ≤ _; exact Nat.le_of_eq rfl) (hb hby own_stat1_d4) (fun _ _ => ⟨rfl, e1, (by decide : 0 + 0 ≤ _), (by decide : 0 + 0 ≤ _)⟩)
  dsimp only [Pt.U, Pt.locs, Pt.cells, Pt.slots] at X2 l2 y2 z2 st2 hQ2
  subst l2 y2 z2
  obtain ⟨rfl, N2q, R2⟩ := hQ2
  have N2 := Fr.app N0 N2q
  refine ownStep (fun _ k => st2.trans k) ?_
  show ownGo p.tables e below (T2.setTop (mkF m 7 #[.val (.ref w1)] [(.int (1 : Int32)), (.ref sw)])) _
  refine ownStep (X2.iaload hx (j := (1 : Int32)) (v := (.int (2 : Int32))) (by rw [R2]; exact Asw.1) (State.isArrayOf_alike hZ.alike Asw.2.1) Asw.2.2 El1.1 El1.2 (g := (mkF m 7 #[.val (.ref w1)] [(.int (1 : Int32)), (.ref sw)])) rfl rfl (hb hby own_stat1_d7)) ?_
  refine ownStep (fun _ k => XS.tswIn X2.here hx rfl (pc0 := 8) (pc' := 50) rfl (hb hby own_stat1_d8) rfl (by decide) (o := 42) (by decide) (by decide) (by decide) k) ?_
  refine ownStep (fun _ k => XS.iconst X2.here hx rfl (hb hby own_stat1_d50) k) ?_
  refine ownStep (fun _ k => XS.goto X2.here hx rfl (pc0 := 51) (pc' := 55) rfl (hb hby own_stat1_d51) (by decide) (by decide) k) ?_
  show ownGo p.tables e below (T2.setTop (mkF m 55 #[.val (.ref w1)] [(.int (1 : Int32))])) _
  exact ownRet X2 (v := some (.int (1 : Int32))) Bd.notSynchronized (fun h => by rw [Bd.returns] at h; cases h) (fun _ hr => retI X2 hx Bd.returns (hb hby own_stat1_d55) hr) (by rw [R2]; exact ⟨rfl, N2, rfl⟩) (by decide) (by decide)
theorem own_pick2_d0 : decode method_2_code 0 = .ok (.iload_n 0, 1) := by decide +kernel
theorem own_pick2_d1 : decode method_2_code 1 = .ok (.ifCond .ne 7, 3) := by decide +kernel
theorem own_pick2_d8 : decode method_2_code 8 = .ok (.iload_n 0, 1) := by decide +kernel
theorem own_pick2_d9 : decode method_2_code 9 = .ok (.iconst 1, 1) := by decide +kernel
theorem own_pick2_d10 : decode method_2_code 10 = .ok (.if_icmp .ne 7, 3) := by decide +kernel
theorem own_pick2_d17 : decode method_2_code 17 = .ok (.getstatic 16, 3) := by decide +kernel
theorem own_pick2_d20 : decode method_2_code 20 = .ok (.areturn, 1) := by decide +kernel
theorem own_pick2_pn : plainName "com/example/fixd/fixd/client/LocationProviderStatusPinLaw" = true := by first | (simp [plainName, overriddenIn]; done) | decide +kernel
theorem own_pick2_ef (m : MethodId) (x0 : Int32) : entryFrame m #[(.int x0)] 1 = mkF m 0 #[.val (.int x0)] [] := by first | (simp [entryFrame, mkF, argsToLocals, Value.category]; done) | rfl
def own_pick2_Q (Z : State) (w0 : Addr) (w1 : Addr) (w2 : Addr) (sw : Addr) (cl : Cell) (h0 : Heap) (n0 : Nat) (vv_ : Option Value) (hh_ : Heap) (LL_ : List Loc) : Prop := vv_ = some (.ref w2) ∧ Fr n0 LL_ ∧ hh_ = h0
set_option maxRecDepth 65536 in
set_option maxHeartbeats 40000000 in
theorem own_pick2 (l : Launch) (Z : State) (a0 : Array Value) (hw : ∀ d ∈ tables_1, d.before a0 Z = true) (ws : List Jvm.Cond) (w0 : Addr) (w1 : Addr) (w2 : Addr) (sw : Addr) (cl : Cell) (h0 : Heap) (n0 : Nat) (Z0 : n0 ≤ h0.size) (S0 : Sta Z h0 "com/example/fixd/fixd/location/Provider$Status" "OUT_OF_SERVICE" "Lcom/example/fixd/fixd/location/Provider$Status;" (.ref w0)) (S1 : Sta Z h0 "com/example/fixd/fixd/location/Provider$Status" "TEMPORARILY_UNAVAILABLE" "Lcom/example/fixd/fixd/location/Provider$Status;" (.ref w1)) (S2 : Sta Z h0 "com/example/fixd/fixd/location/Provider$Status" "AVAILABLE" "Lcom/example/fixd/fixd/location/Provider$Status;" (.ref w2)) :
    MetFree l (⟨"com/example/fixd/fixd/client/LocationProviderStatusPinLaw", "pick", "(I)Lcom/example/fixd/fixd/location/Provider$Status;"⟩ : MethodName) (head1 (Jvm.Cond.code (⟨"com/example/fixd/fixd/client/LocationProviderStatusPinLaw", "pick", "(I)Lcom/example/fixd/fixd/location/Provider$Status;"⟩ : MethodName) method_2_code 1 (some (.object "com/example/fixd/fixd/location/Provider$Status")) :: ws) ({ frames := 0, cells := 0, slots := 0, locals := 0 } : Room)) (fun aa_ UU_ => aa_ = #[(.int (2 : Int32))] ∧ Z.Warmed39 UU_.vm ∧ UU_.heap = h0) (fun _ _ _ _ _ => True) (fun _ UU_ oo_ UV_ => ∃ vv_ LL_, oo_ = .returned vv_ ∧ own_pick2_Q Z w0 w1 w2 sw cl h0 n0 vv_ UV_.heap LL_ ∧ FrameEnd UU_ oo_ UV_ LL_ ({ frames := 0, cells := 0, slots := 0, locals := 0 } : Room).cells ({ frames := 0, cells := 0, slots := 0, locals := 0 } : Room).slots) := by
  refine MetFree.of_bodySF (plainFor_of_name own_pick2_pn) hisR ?_
  intro p e s m args below meth c s₁ Bd hml0 hP hK
  obtain ⟨rfl, hZ, hh⟩ := hP
  have hx := Bd.exec
  have hby := Bd.bytes
  have hml : c.maxLocals = 1 := hml0
  have hown : s.vm.findClass "com/example/fixd/fixd/client/LocationProviderStatusPinLaw" = some m.cls := findClass_of_methodNamed Bd.named
  have hnm := (name_of_methodNamed Bd.named Bd.method).1
  have X0 : Stand p l e ({ frames := 0, cells := 0, slots := 0, locals := 0 } : Room) s m #[(.int (2 : Int32))] below meth c s₁ [] 0 0 := Stand.of_body Bd
  have e0 : s₁.heap = h0 := by rw [← hh, Bd.state]; rfl
  have N0 := Fr.nil n0
  have KP0 : Keep h0 h0 [] := Keep.refl _ _
  refine ownFin (Q := own_pick2_Q Z w0 w1 w2 sw cl h0 n0) ?_
  refine ownStep (fun _ k => castTop (own_pick2_ef m (2 : Int32)) k) ?_
  show ownGo p.tables e below (s₁.setTop (mkF m 0 #[.val (.int (2 : Int32))] [])) _
  refine ownStep (fun _ k => XS.iloadN X0.here hx rfl (hb hby own_pick2_d0) rfl  k) ?_
  refine ownStep (fun _ k => XS.ifYes X0.here hx rfl (pc0 := 1) (pc' := 8) rfl (hb hby own_pick2_d1) rfl ((if0 _ _).trans (feq (by decide : ¬ (2 : Int32) = (0 : Int32))).2) (by decide) (by decide) k) ?_
  refine ownStep (fun _ k => XS.iloadN X0.here hx rfl (hb hby own_pick2_d8) rfl  k) ?_
  refine ownStep (fun _ k => XS.iconst X0.here hx rfl (hb hby own_pick2_d9) k) ?_
  refine ownStep (fun _ k => XS.icmpYes X0.here hx rfl (pc0 := 10) (pc' := 17) rfl (hb hby own_pick2_d10) rfl (feq (by decide : ¬ (2 : Int32) = (1 : Int32))).2 (by decide) (by decide) k) ?_
  show ownGo p.tables e below (s₁.setTop (mkF m 17 #[.val (.int (2 : Int32))] [])) _
  obtain ⟨T1, X1, e1, st1⟩ := getS2 X0 hx hZ hown (host := "") (Or.inl (hw _ (List.mem_of_getElem? (i := 30) rfl))) Via.refl e0 S2 (g := (mkF m 17 #[.val (.int (2 : Int32))] [])) rfl (hb hby own_pick2_d17)
  refine ownStep st1 ?_
  show ownGo p.tables e below (T1.setTop (mkF m 20 #[.val (.int (2 : Int32))] [(.ref w2)])) _
  exact ownRet X1 (v := some (.ref w2)) Bd.notSynchronized (fun h => by rw [Bd.returns] at h; cases h) (fun _ hr => retOut X1 hx (t := (.object "com/example/fixd/fixd/location/Provider$Status")) Bd.returns rfl (Or.inr (Or.inr (Or.inr (Or.inr ⟨rfl, rfl, rfl⟩)))) (hb hby own_pick2_d20) hr) (by rw [e1]; exact ⟨rfl, N0, rfl⟩) (by decide) (by decide)
theorem own_exp2_d0 : decode method_3_code 0 = .ok (.iload_n 0, 1) := by decide +kernel
theorem own_exp2_d1 : decode method_3_code 1 = .ok (.ifCond .ne 5, 3) := by decide +kernel
theorem own_exp2_d6 : decode method_3_code 6 = .ok (.iload_n 0, 1) := by decide +kernel
theorem own_exp2_d7 : decode method_3_code 7 = .ok (.iconst 1, 1) := by decide +kernel
theorem own_exp2_d8 : decode method_3_code 8 = .ok (.if_icmp .ne 5, 3) := by decide +kernel
theorem own_exp2_d13 : decode method_3_code 13 = .ok (.iconst 2, 1) := by decide +kernel
theorem own_exp2_d14 : decode method_3_code 14 = .ok (.ireturn, 1) := by decide +kernel
theorem own_exp2_pn : plainName "com/example/fixd/fixd/client/LocationProviderStatusPinLaw" = true := by first | (simp [plainName, overriddenIn]; done) | decide +kernel
theorem own_exp2_ef (m : MethodId) (x0 : Int32) : entryFrame m #[(.int x0)] 1 = mkF m 0 #[.val (.int x0)] [] := by first | (simp [entryFrame, mkF, argsToLocals, Value.category]; done) | rfl
def own_exp2_Q (Z : State)  (h0 : Heap) (n0 : Nat) (vv_ : Option Value) (hh_ : Heap) (LL_ : List Loc) : Prop := vv_ = some (.int (2 : Int32)) ∧ Fr n0 LL_ ∧ hh_ = h0
set_option maxRecDepth 65536 in
set_option maxHeartbeats 40000000 in
theorem own_exp2 (l : Launch) (Z : State) (a0 : Array Value) (hw : ∀ d ∈ tables_1, d.before a0 Z = true) (ws : List Jvm.Cond)  (h0 : Heap) (n0 : Nat) (Z0 : n0 ≤ h0.size) :
    MetFree l (⟨"com/example/fixd/fixd/client/LocationProviderStatusPinLaw", "expected", "(I)I"⟩ : MethodName) (head1 (Jvm.Cond.code (⟨"com/example/fixd/fixd/client/LocationProviderStatusPinLaw", "expected", "(I)I"⟩ : MethodName) method_3_code 1 (some .int) :: ws) ({ frames := 0, cells := 0, slots := 0, locals := 0 } : Room)) (fun aa_ UU_ => aa_ = #[(.int (2 : Int32))] ∧ Z.Warmed39 UU_.vm ∧ UU_.heap = h0) (fun _ _ _ _ _ => True) (fun _ UU_ oo_ UV_ => ∃ vv_ LL_, oo_ = .returned vv_ ∧ own_exp2_Q Z  h0 n0 vv_ UV_.heap LL_ ∧ FrameEnd UU_ oo_ UV_ LL_ ({ frames := 0, cells := 0, slots := 0, locals := 0 } : Room).cells ({ frames := 0, cells := 0, slots := 0, locals := 0 } : Room).slots) := by
  refine MetFree.of_bodySF (plainFor_of_name own_exp2_pn) hisR ?_
  intro p e s m args below meth c s₁ Bd hml0 hP hK
  obtain ⟨rfl, hZ, hh⟩ := hP
  have hx := Bd.exec
  have hby := Bd.bytes
  have hml : c.maxLocals = 1 := hml0
  have hown : s.vm.findClass "com/example/fixd/fixd/client/LocationProviderStatusPinLaw" = some m.cls := findClass_of_methodNamed Bd.named
  have hnm := (name_of_methodNamed Bd.named Bd.method).1
  have X0 : Stand p l e ({ frames := 0, cells := 0, slots := 0, locals := 0 } : Room) s m #[(.int (2 : Int32))] below meth c s₁ [] 0 0 := Stand.of_body Bd
  have e0 : s₁.heap = h0 := by rw [← hh, Bd.state]; rfl
  have N0 := Fr.nil n0
  have KP0 : Keep h0 h0 [] := Keep.refl _ _
  refine ownFin (Q := own_exp2_Q Z  h0 n0) ?_
  refine ownStep (fun _ k => castTop (own_exp2_ef m (2 : Int32)) k) ?_
  show ownGo p.tables e below (s₁.setTop (mkF m 0 #[.val (.int (2 : Int32))] [])) _
  refine ownStep (fun _ k => XS.iloadN X0.here hx rfl (hb hby own_exp2_d0) rfl  k) ?_
  refine ownStep (fun _ k => XS.ifYes X0.here hx rfl (pc0 := 1) (pc' := 6) rfl (hb hby own_exp2_d1) rfl ((if0 _ _).trans (feq (by decide : ¬ (2 : Int32) = (0 : Int32))).2) (by decide) (by decide) k) ?_
  refine ownStep (fun _ k => XS.iloadN X0.here hx rfl (hb hby own_exp2_d6) rfl  k) ?_
  refine ownStep (fun _ k => XS.iconst X0.here hx rfl (hb hby own_exp2_d7) k) ?_
  refine ownStep (fun _ k => XS.icmpYes X0.here hx rfl (pc0 := 8) (pc' := 13) rfl (hb hby own_exp2_d8) rfl (feq (by decide : ¬ (2 : Int32) = (1 : Int32))).2 (by decide) (by decide) k) ?_
  show ownGo p.tables e below (s₁.setTop (mkF m 13 #[.val (.int (2 : Int32))] [])) _
  refine ownStep (fun _ k => XS.iconst X0.here hx rfl (hb hby own_exp2_d13) k) ?_
  show ownGo p.tables e below (s₁.setTop (mkF m 14 #[.val (.int (2 : Int32))] [(.int (2 : Int32))])) _
  exact ownRet X0 (v := some (.int (2 : Int32))) Bd.notSynchronized (fun h => by rw [Bd.returns] at h; cases h) (fun _ hr => retI X0 hx Bd.returns (hb hby own_exp2_d14) hr) (by rw [e0]; exact ⟨rfl, N0, rfl⟩) (by decide) (by decide)
theorem own_named2_d0 : decode method_4_code 0 = .ok (.iload_n 0, 1) := by decide +kernel
theorem own_named2_d1 : decode method_4_code 1 = .ok (.ifCond .ne 5, 3) := by decide +kernel
theorem own_named2_d6 : decode method_4_code 6 = .ok (.iload_n 0, 1) := by decide +kernel
theorem own_named2_d7 : decode method_4_code 7 = .ok (.iconst 1, 1) := by decide +kernel
theorem own_named2_d8 : decode method_4_code 8 = .ok (.if_icmp .ne 5, 3) := by decide +kernel
theorem own_named2_d13 : decode method_4_code 13 = .ok (.iconst 2, 1) := by decide +kernel
theorem own_named2_d14 : decode method_4_code 14 = .ok (.ireturn, 1) := by decide +kernel
theorem own_named2_pn : plainName "com/example/fixd/fixd/client/LocationProviderStatusPinLaw" = true := by first | (simp [plainName, overriddenIn]; done) | decide +kernel
theorem own_named2_ef (m : MethodId) (x0 : Int32) : entryFrame m #[(.int x0)] 1 = mkF m 0 #[.val (.int x0)] [] := by first | (simp [entryFrame, mkF, argsToLocals, Value.category]; done) | rfl
def own_named2_Q (Z : State)  (h0 : Heap) (n0 : Nat) (vv_ : Option Value) (hh_ : Heap) (LL_ : List Loc) : Prop := vv_ = some (.int (2 : Int32)) ∧ Fr n0 LL_ ∧ hh_ = h0
set_option maxRecDepth 65536 in
set_option maxHeartbeats 40000000 in
theorem own_named2 (l : Launch) (Z : State) (a0 : Array Value) (hw : ∀ d ∈ tables_1, d.before a0 Z = true) (ws : List Jvm.Cond)  (h0 : Heap) (n0 : Nat) (Z0 : n0 ≤ h0.size) :
    MetFree l (⟨"com/example/fixd/fixd/client/LocationProviderStatusPinLaw", "named", "(I)I"⟩ : MethodName) (head1 (Jvm.Cond.code (⟨"com/example/fixd/fixd/client/LocationProviderStatusPinLaw", "named", "(I)I"⟩ : MethodName) method_4_code 1 (some .int) :: ws) ({ frames := 0, cells := 0, slots := 0, locals := 0 } : Room)) (fun aa_ UU_ => aa_ = #[(.int (2 : Int32))] ∧ Z.Warmed39 UU_.vm ∧ UU_.heap = h0) (fun _ _ _ _ _ => True) (fun _ UU_ oo_ UV_ => ∃ vv_ LL_, oo_ = .returned vv_ ∧ own_named2_Q Z  h0 n0 vv_ UV_.heap LL_ ∧ FrameEnd UU_ oo_ UV_ LL_ ({ frames := 0, cells := 0, slots := 0, locals := 0 } : Room).cells ({ frames := 0, cells := 0, slots := 0, locals := 0 } : Room).slots) := by
  refine MetFree.of_bodySF (plainFor_of_name own_named2_pn) hisR ?_
  intro p e s m args below meth c s₁ Bd hml0 hP hK
  obtain ⟨rfl, hZ, hh⟩ := hP
  have hx := Bd.exec
  have hby := Bd.bytes
  have hml : c.maxLocals = 1 := hml0
  have hown : s.vm.findClass "com/example/fixd/fixd/client/LocationProviderStatusPinLaw" = some m.cls := findClass_of_methodNamed Bd.named
  have hnm := (name_of_methodNamed Bd.named Bd.method).1
  have X0 : Stand p l e ({ frames := 0, cells := 0, slots := 0, locals := 0 } : Room) s m #[(.int (2 : Int32))] below meth c s₁ [] 0 0 := Stand.of_body Bd
  have e0 : s₁.heap = h0 := by rw [← hh, Bd.state]; rfl
  have N0 := Fr.nil n0
  have KP0 : Keep h0 h0 [] := Keep.refl _ _
  refine ownFin (Q := own_named2_Q Z  h0 n0) ?_
  refine ownStep (fun _ k => castTop (own_named2_ef m (2 : Int32)) k) ?_
  show ownGo p.tables e below (s₁.setTop (mkF m 0 #[.val (.int (2 : Int32))] [])) _
  refine ownStep (fun _ k => XS.iloadN X0.here hx rfl (hb hby own_named2_d0) rfl  k) ?_
  refine ownStep (fun _ k => XS.ifYes X0.here hx rfl (pc0 := 1) (pc' := 6) rfl (hb hby own_named2_d1) rfl ((if0 _ _).trans (feq (by decide : ¬ (2 : Int32) = (0 : Int32))).2) (by decide) (by decide) k) ?_
  refine ownStep (fun _ k => XS.iloadN X0.here hx rfl (hb hby own_named2_d6) rfl  k) ?_
  refine ownStep (fun _ k => XS.iconst X0.here hx rfl (hb hby own_named2_d7) k) ?_
  refine ownStep (fun _ k => XS.icmpYes X0.here hx rfl (pc0 := 8) (pc' := 13) rfl (hb hby own_named2_d8) rfl (feq (by decide : ¬ (2 : Int32) = (1 : Int32))).2 (by decide) (by decide) k) ?_
  show ownGo p.tables e below (s₁.setTop (mkF m 13 #[.val (.int (2 : Int32))] [])) _
  refine ownStep (fun _ k => XS.iconst X0.here hx rfl (hb hby own_named2_d13) k) ?_
  show ownGo p.tables e below (s₁.setTop (mkF m 14 #[.val (.int (2 : Int32))] [(.int (2 : Int32))])) _
  exact ownRet X0 (v := some (.int (2 : Int32))) Bd.notSynchronized (fun h => by rw [Bd.returns] at h; cases h) (fun _ hr => retI X0 hx Bd.returns (hb hby own_named2_d14) hr) (by rw [e0]; exact ⟨rfl, N0, rfl⟩) (by decide) (by decide)
theorem own_ord2_d0 : decode jdk_37_method_2_code 0 = .ok (.aload_n 0, 1) := by decide +kernel
theorem own_ord2_d1 : decode jdk_37_method_2_code 1 = .ok (.getfield 7, 3) := by decide +kernel
theorem own_ord2_d4 : decode jdk_37_method_2_code 4 = .ok (.ireturn, 1) := by decide +kernel
theorem own_ord2_pn : plainName "java/lang/Enum" = true := by first | (simp [plainName, overriddenIn]; done) | decide +kernel
theorem own_ord2_ef (m : MethodId) (x0 : Addr) : entryFrame m #[(.ref x0)] 1 = mkF m 0 #[.val (.ref x0)] [] := by first | (simp [entryFrame, mkF, argsToLocals, Value.category]; done) | rfl
def own_ord2_Q (Z : State) (a : Addr) (h0 : Heap) (n0 : Nat) (vv_ : Option Value) (hh_ : Heap) (LL_ : List Loc) : Prop := vv_ = some (.int (2 : Int32)) ∧ Fr n0 LL_ ∧ hh_ = h0
set_option maxRecDepth 65536 in
set_option maxHeartbeats 40000000 in
theorem own_ord2 (l : Launch) (Z : State) (a0 : Array Value) (hw : ∀ d ∈ tables_1, d.before a0 Z = true) (ws : List Jvm.Cond) (a : Addr) (h0 : Heap) (n0 : Nat) (Z0 : n0 ≤ h0.size) (F : Fld Z h0 a "java/lang/Enum" "ordinal" "I" (.int (2 : Int32))) :
    MetFree l (⟨"java/lang/Enum", "ordinal", "()I"⟩ : MethodName) (head1 (Jvm.Cond.code (⟨"java/lang/Enum", "ordinal", "()I"⟩ : MethodName) jdk_37_method_2_code 1 (some .int) :: ws) ({ frames := 0, cells := 0, slots := 0, locals := 0 } : Room)) (fun aa_ UU_ => aa_ = #[(.ref a)] ∧ Z.Warmed39 UU_.vm ∧ UU_.heap = h0) (fun _ _ _ _ _ => True) (fun _ UU_ oo_ UV_ => ∃ vv_ LL_, oo_ = .returned vv_ ∧ own_ord2_Q Z a h0 n0 vv_ UV_.heap LL_ ∧ FrameEnd UU_ oo_ UV_ LL_ ({ frames := 0, cells := 0, slots := 0, locals := 0 } : Room).cells ({ frames := 0, cells := 0, slots := 0, locals := 0 } : Room).slots) := by
  refine MetFree.of_bodySF (plainFor_of_name own_ord2_pn) hisR ?_
  intro p e s m args below meth c s₁ Bd hml0 hP hK
  obtain ⟨rfl, hZ, hh⟩ := hP
  have hx := Bd.exec
  have hby := Bd.bytes
  have hml : c.maxLocals = 1 := hml0
  have hown : s.vm.findClass "java/lang/Enum" = some m.cls := findClass_of_methodNamed Bd.named
  have hnm := (name_of_methodNamed Bd.named Bd.method).1
  have X0 : Stand p l e ({ frames := 0, cells := 0, slots := 0, locals := 0 } : Room) s m #[(.ref a)] below meth c s₁ [] 0 0 := Stand.of_body Bd
  have e0 : s₁.heap = h0 := by rw [← hh, Bd.state]; rfl
  have N0 := Fr.nil n0
  have KP0 : Keep h0 h0 [] := Keep.refl _ _
  refine ownFin (Q := own_ord2_Q Z a h0 n0) ?_
  refine ownStep (fun _ k => castTop (own_ord2_ef m a) k) ?_
  show ownGo p.tables e below (s₁.setTop (mkF m 0 #[.val (.ref a)] [])) _
  refine ownStep (fun _ k => XS.aloadN X0.here hx rfl (hb hby own_ord2_d0) rfl rfl k) ?_
  show ownGo p.tables e below (s₁.setTop (mkF m 1 #[.val (.ref a)] [(.ref a)])) _
  obtain ⟨T1, X1, e1, st1⟩ := getF X0 hx hZ hown (host := "") (Or.inl (hw _ (List.mem_of_getElem? (i := 22) rfl))) Via.refl e0 F (g := (mkF m 1 #[.val (.ref a)] [(.ref a)])) rfl rfl (hb hby own_ord2_d1)
  refine ownStep st1 ?_
  show ownGo p.tables e below (T1.setTop (mkF m 4 #[.val (.ref a)] [(.int (2 : Int32))])) _
  exact ownRet X1 (v := some (.int (2 : Int32))) Bd.notSynchronized (fun h => by rw [Bd.returns] at h; cases h) (fun _ hr => retI X1 hx Bd.returns (hb hby own_ord2_d4) hr) (by rw [e1]; exact ⟨rfl, N0, rfl⟩) (by decide) (by decide)
theorem own_stat2_d0 : decode prog_7_method_12_code 0 = .ok (.getstatic 64, 3) := by decide +kernel
theorem own_stat2_d3 : decode prog_7_method_12_code 3 = .ok (.aload_n 0, 1) := by decide +kernel
theorem own_stat2_d4 : decode prog_7_method_12_code 4 = .ok (.invokevirtual 70, 3) := by decide +kernel
theorem own_stat2_d7 : decode prog_7_method_12_code 7 = .ok (.iaload, 1) := by decide +kernel
theorem own_stat2_d8 : decode prog_7_method_12_code 8 = .ok (.tableswitch 28 1 3 #[38, 42, 46], 28) := by decide +kernel
theorem own_stat2_d54 : decode prog_7_method_12_code 54 = .ok (.iconst 2, 1) := by decide +kernel
theorem own_stat2_d55 : decode prog_7_method_12_code 55 = .ok (.ireturn, 1) := by decide +kernel
theorem own_stat2_pn : plainName "com/example/fixd/fixd/client/LocationProvider" = true := by first | (simp [plainName, overriddenIn]; done) | decide +kernel
theorem own_stat2_pd0 : parseMethodDescriptor "()I" = some ⟨[], some .int⟩ := by decide +kernel
theorem own_stat2_ef (m : MethodId) (x0 : Addr) : entryFrame m #[(.ref x0)] 1 = mkF m 0 #[.val (.ref x0)] [] := by first | (simp [entryFrame, mkF, argsToLocals, Value.category]; done) | rfl
def own_stat2_Q (Z : State) (w0 : Addr) (w1 : Addr) (w2 : Addr) (sw : Addr) (cl : Cell) (h0 : Heap) (n0 : Nat) (vv_ : Option Value) (hh_ : Heap) (LL_ : List Loc) : Prop := vv_ = some (.int (2 : Int32)) ∧ Fr n0 LL_ ∧ hh_ = h0
set_option maxRecDepth 65536 in
set_option maxHeartbeats 40000000 in
theorem own_stat2 (l : Launch) (Z : State) (a0 : Array Value) (hw : ∀ d ∈ tables_1, d.before a0 Z = true) (ws : List Jvm.Cond) (w0 : Addr) (w1 : Addr) (w2 : Addr) (sw : Addr) (cl : Cell) (h0 : Heap) (n0 : Nat) (Z0 : n0 ≤ h0.size) (S0 : Sta Z h0 "com/example/fixd/fixd/location/Provider$Status" "OUT_OF_SERVICE" "Lcom/example/fixd/fixd/location/Provider$Status;" (.ref w0)) (S1 : Sta Z h0 "com/example/fixd/fixd/location/Provider$Status" "TEMPORARILY_UNAVAILABLE" "Lcom/example/fixd/fixd/location/Provider$Status;" (.ref w1)) (S2 : Sta Z h0 "com/example/fixd/fixd/location/Provider$Status" "AVAILABLE" "Lcom/example/fixd/fixd/location/Provider$Status;" (.ref w2)) (E0 : Exa Z h0 w0 "com/example/fixd/fixd/location/Provider$Status") (E1 : Exa Z h0 w1 "com/example/fixd/fixd/location/Provider$Status") (E2 : Exa Z h0 w2 "com/example/fixd/fixd/location/Provider$Status") (F0 : Fld Z h0 w0 "java/lang/Enum" "ordinal" "I" (.int (0 : Int32))) (F1 : Fld Z h0 w1 "java/lang/Enum" "ordinal" "I" (.int (1 : Int32))) (F2 : Fld Z h0 w2 "java/lang/Enum" "ordinal" "I" (.int (2 : Int32))) (Ssw : Sta Z h0 "com/example/fixd/fixd/client/LocationProvider$1" "$SwitchMap$com$example$fixd$fixd$location$Provider$Status" "[I" (.ref sw)) (Asw : Arr Z h0 sw cl .int) (El0 : ¬ ((0 : Int32) < 0 ∨ cl.slots.size ≤ (0 : Int32).toNatClampNeg) ∧ cl.slots[(0 : Int32).toNatClampNeg]? = some (.int (1 : Int32))) (El1 : ¬ ((1 : Int32) < 0 ∨ cl.slots.size ≤ (1 : Int32).toNatClampNeg) ∧ cl.slots[(1 : Int32).toNatClampNeg]? = some (.int (2 : Int32))) (El2 : ¬ ((2 : Int32) < 0 ∨ cl.slots.size ≤ (2 : Int32).toNatClampNeg) ∧ cl.slots[(2 : Int32).toNatClampNeg]? = some (.int (3 : Int32))) :
    MetFree l (⟨"com/example/fixd/fixd/client/LocationProvider", "status", "(Lcom/example/fixd/fixd/location/Provider$Status;)I"⟩ : MethodName) (head1 (Jvm.Cond.code (⟨"com/example/fixd/fixd/client/LocationProvider", "status", "(Lcom/example/fixd/fixd/location/Provider$Status;)I"⟩ : MethodName) prog_7_method_12_code 1 (some .int) :: ws) ({ frames := 1, cells := 0, slots := 0, locals := 13 } : Room)) (fun aa_ UU_ => aa_ = #[(.ref w2)] ∧ Z.Warmed39 UU_.vm ∧ UU_.heap = h0) (fun _ _ _ _ _ => True) (fun _ UU_ oo_ UV_ => ∃ vv_ LL_, oo_ = .returned vv_ ∧ own_stat2_Q Z w0 w1 w2 sw cl h0 n0 vv_ UV_.heap LL_ ∧ FrameEnd UU_ oo_ UV_ LL_ ({ frames := 1, cells := 0, slots := 0, locals := 13 } : Room).cells ({ frames := 1, cells := 0, slots := 0, locals := 13 } : Room).slots) := by
  refine MetFree.of_bodySF (plainFor_of_name own_stat2_pn) hisR ?_
  intro p e s m args below meth c s₁ Bd hml0 hP hK
  obtain ⟨rfl, hZ, hh⟩ := hP
  have hx := Bd.exec
  have hby := Bd.bytes
  have hml : c.maxLocals = 1 := hml0
  have hown : s.vm.findClass "com/example/fixd/fixd/client/LocationProvider" = some m.cls := findClass_of_methodNamed Bd.named
  have hnm := (name_of_methodNamed Bd.named Bd.method).1
  have X0 : Stand p l e ({ frames := 1, cells := 0, slots := 0, locals := 13 } : Room) s m #[(.ref w2)] below meth c s₁ [] 0 0 := Stand.of_body Bd
  have e0 : s₁.heap = h0 := by rw [← hh, Bd.state]; rfl
  have N0 := Fr.nil n0
  have KP0 : Keep h0 h0 [] := Keep.refl _ _
  refine ownFin (Q := own_stat2_Q Z w0 w1 w2 sw cl h0 n0) ?_
  refine ownStep (fun _ k => castTop (own_stat2_ef m w2) k) ?_
  show ownGo p.tables e below (s₁.setTop (mkF m 0 #[.val (.ref w2)] [])) _
  obtain ⟨T1, X1, e1, st1⟩ := getS2 X0 hx hZ hown (host := "") (Or.inl (hw _ (List.mem_of_getElem? (i := 12) rfl))) Via.refl e0 Ssw (g := (mkF m 0 #[.val (.ref w2)] [])) rfl (hb hby own_stat2_d0)
  refine ownStep st1 ?_
  refine ownStep (fun _ k => XS.aloadN X1.here hx rfl (hb hby own_stat2_d3) rfl rfl k) ?_
  show ownGo p.tables e below (T1.setTop (mkF m 4 #[.val (.ref w2)] [(.ref w2), (.ref sw)])) _
  have Zs3 : n0 ≤ h0.size := Nat.le_trans Z0 KP0.1
  obtain ⟨cq2, kq2, q2a, q2b, q2c⟩ := isOf hZ e1 E2
  obtain ⟨_, _, ⟨T2, L2, k2, n2⟩, -, X2, ⟨Lc2, hQ2, l2, y2, z2⟩, st2⟩ := X1.virtualBackUp hx (x := (⟨"com/example/fixd/fixd/location/Provider$Status", "ordinal", "()I"⟩ : MethodName)) (y := (⟨"java/lang/Enum", "ordinal", "()I"⟩ : MethodName)) hown (mvT hZ (hw _ (List.mem_of_getElem? (i := 15) rfl))) (mvT hZ (hw _ (List.mem_of_getElem? (i := 16) rfl))) (mvT hZ (hw _ (List.mem_of_getElem? (i := 17) rfl))) (by decide) (mvT hZ (hw _ (List.mem_of_getElem? (i := 19) rfl))) (mvT hZ (hw _ (List.mem_of_getElem? (i := 18) rfl))) (backOf (W := 1) (own_ord2 l Z a0 hw [] w2 h0 n0 Zs3 F2) hZ (hw _ (List.mem_of_getElem? (i := 21) rfl)) (hw _ (List.mem_of_getElem? (i := 20) rfl)) (by decide) (by decide)) q2a q2c (g := (mkF m 4 #[.val (.ref w2)] [(.ref w2), (.ref sw)])) rfl (by rw [hml]; rfl) (Steps.refl _) (argsL := []) (rest := [(.ref sw)]) (lenOf own_stat2_pd0 rfl) rfl (by show 2 * 0 + _ ≤ _; exact Nat.le_of_eq rfl) (hb hby own_stat2_d4) (fun _ _ => ⟨rfl, e1, (by decide : 0 + 0 ≤ _), (by decide : 0 + 0 ≤ _)⟩)
  dsimp only [Pt.U, Pt.locs, Pt.cells, Pt.slots] at X2 l2 y2 z2 st2 hQ2
  subst l2 y2 z2
  obtain ⟨rfl, N2q, R2⟩ := hQ2
  have N2 := Fr.app N0 N2q
  refine ownStep (fun _ k => st2.trans k) ?_
  show ownGo p.tables e below (T2.setTop (mkF m 7 #[.val (.ref w2)] [(.int (2 : Int32)), (.ref sw)])) _
  refine ownStep (X2.iaload hx (j := (2 : Int32)) (v := (.int (3 : Int32))) (by rw [R2]; exact Asw.1) (State.isArrayOf_alike hZ.alike Asw.2.1) Asw.2.2 El2.1 El2.2 (g := (mkF m 7 #[.val (.ref w2)] [(.int (2 : Int32)), (.ref sw)])) rfl rfl (hb hby own_stat2_d7)) ?_
  refine ownStep (fun _ k => XS.tswIn X2.here hx rfl (pc0 := 8) (pc' := 54) rfl (hb hby own_stat2_d8) rfl (by decide) (o := 46) (by decide) (by decide) (by decide) k) ?_
  refine ownStep (fun _ k => XS.iconst X2.here hx rfl (hb hby own_stat2_d54) k) ?_
  show ownGo p.tables e below (T2.setTop (mkF m 55 #[.val (.ref w2)] [(.int (2 : Int32))])) _
  exact ownRet X2 (v := some (.int (2 : Int32))) Bd.notSynchronized (fun h => by rw [Bd.returns] at h; cases h) (fun _ hr => retI X2 hx Bd.returns (hb hby own_stat2_d55) hr) (by rw [R2]; exact ⟨rfl, N2, rfl⟩) (by decide) (by decide)
theorem own_mod3 (x : Int32) : (x &&& (2147483647 : Int32)) % (3 : Int32) = (0 : Int32) ∨ (x &&& (2147483647 : Int32)) % (3 : Int32) = (1 : Int32) ∨ (x &&& (2147483647 : Int32)) % (3 : Int32) = (2 : Int32) := by
  have h1 := (c_and x (2147483647 : Int32) (by decide)).1
  have h2 := (c_irem (x &&& (2147483647 : Int32)) (3 : Int32) 3 (by decide)).1 h1
  have e0 : (0 : Int32).toInt = 0 := by decide
  have e1 : (1 : Int32).toInt = 1 := by decide
  have e2 : (2 : Int32).toInt = 2 := by decide
  rw [← Int32.toInt_inj, ← Int32.toInt_inj, ← Int32.toInt_inj, h2, e0, e1, e2]
  omega
theorem own_law_pn : plainName "com/example/fixd/fixd/client/LocationProviderStatusPinLaw" = true := by first | (simp [plainName, overriddenIn]; done) | decide +kernel
theorem own_law_pd0 : parseMethodDescriptor "(I)Lcom/example/fixd/fixd/location/Provider$Status;" = some ⟨[.int], some (.object "com/example/fixd/fixd/location/Provider$Status")⟩ := by decide +kernel
theorem own_law_pd1 : parseMethodDescriptor "(Lcom/example/fixd/fixd/location/Provider$Status;)I" = some ⟨[(.object "com/example/fixd/fixd/location/Provider$Status")], some .int⟩ := by decide +kernel
theorem own_law_pd2 : parseMethodDescriptor "(I)I" = some ⟨[.int], some .int⟩ := by decide +kernel
theorem own_law_ef (m : MethodId) (x0 : Int32) (x1 : Int32) : entryFrame m #[(.int x0), (.int x1)] maxLocals = mkF m 0 #[.val (.int x0), .val (.int x1), .unset, .unset, .unset, .unset, .unset, .unset, .unset, .unset] [] := by first | (simp [entryFrame, mkF, argsToLocals, Value.category, maxLocals]; done) | rfl
def own_law_Q (Z : State) (px : Int32) (py : Int32) (w0 : Addr) (w1 : Addr) (w2 : Addr) (sw : Addr) (cl : Cell) (h0 : Heap) (n0 : Nat) (vv_ : Option Value) (hh_ : Heap) (LL_ : List Loc) : Prop := vv_ = some (.int (1 : Int32)) ∧ Fr n0 LL_ ∧ hh_ = h0
set_option maxRecDepth 65536 in
set_option maxHeartbeats 40000000 in
theorem own_law (l : Launch) (Z : State) (a0 : Array Value) (hw : ∀ d ∈ tables_1, d.before a0 Z = true) (ws : List Jvm.Cond) (px : Int32) (py : Int32) (w0 : Addr) (w1 : Addr) (w2 : Addr) (sw : Addr) (cl : Cell) (h0 : Heap) (n0 : Nat) (Z0 : n0 ≤ h0.size) (S0 : Sta Z h0 "com/example/fixd/fixd/location/Provider$Status" "OUT_OF_SERVICE" "Lcom/example/fixd/fixd/location/Provider$Status;" (.ref w0)) (S1 : Sta Z h0 "com/example/fixd/fixd/location/Provider$Status" "TEMPORARILY_UNAVAILABLE" "Lcom/example/fixd/fixd/location/Provider$Status;" (.ref w1)) (S2 : Sta Z h0 "com/example/fixd/fixd/location/Provider$Status" "AVAILABLE" "Lcom/example/fixd/fixd/location/Provider$Status;" (.ref w2)) (E0 : Exa Z h0 w0 "com/example/fixd/fixd/location/Provider$Status") (E1 : Exa Z h0 w1 "com/example/fixd/fixd/location/Provider$Status") (E2 : Exa Z h0 w2 "com/example/fixd/fixd/location/Provider$Status") (F0 : Fld Z h0 w0 "java/lang/Enum" "ordinal" "I" (.int (0 : Int32))) (F1 : Fld Z h0 w1 "java/lang/Enum" "ordinal" "I" (.int (1 : Int32))) (F2 : Fld Z h0 w2 "java/lang/Enum" "ordinal" "I" (.int (2 : Int32))) (Ssw : Sta Z h0 "com/example/fixd/fixd/client/LocationProvider$1" "$SwitchMap$com$example$fixd$fixd$location$Provider$Status" "[I" (.ref sw)) (Asw : Arr Z h0 sw cl .int) (El0 : ¬ ((0 : Int32) < 0 ∨ cl.slots.size ≤ (0 : Int32).toNatClampNeg) ∧ cl.slots[(0 : Int32).toNatClampNeg]? = some (.int (1 : Int32))) (El1 : ¬ ((1 : Int32) < 0 ∨ cl.slots.size ≤ (1 : Int32).toNatClampNeg) ∧ cl.slots[(1 : Int32).toNatClampNeg]? = some (.int (2 : Int32))) (El2 : ¬ ((2 : Int32) < 0 ∨ cl.slots.size ≤ (2 : Int32).toNatClampNeg) ∧ cl.slots[(2 : Int32).toNatClampNeg]? = some (.int (3 : Int32))) :
    MetFree l x (head1 (Jvm.Cond.code x code maxLocals ret :: ws) room_1) (fun aa_ UU_ => aa_ = #[(.int px), (.int py)] ∧ Z.Warmed39 UU_.vm ∧ UU_.heap = h0) (fun _ _ _ _ _ => True) (fun _ UU_ oo_ UV_ => ∃ vv_ LL_, oo_ = .returned vv_ ∧ own_law_Q Z px py w0 w1 w2 sw cl h0 n0 vv_ UV_.heap LL_ ∧ FrameEnd UU_ oo_ UV_ LL_ room_1.cells room_1.slots) := by
  refine MetFree.of_bodySF (plainFor_of_name own_law_pn) hisR ?_
  intro p e s m args below meth c s₁ Bd hml0 hP hK
  obtain ⟨rfl, hZ, hh⟩ := hP
  have hx := Bd.exec
  have hby := Bd.bytes
  have hml : c.maxLocals = 10 := hml0
  have hown : s.vm.findClass "com/example/fixd/fixd/client/LocationProviderStatusPinLaw" = some m.cls := findClass_of_methodNamed Bd.named
  have hnm := (name_of_methodNamed Bd.named Bd.method).1
  have X0 : Stand p l e room_1 s m #[(.int px), (.int py)] below meth c s₁ [] 0 0 := Stand.of_body Bd
  have e0 : s₁.heap = h0 := by rw [← hh, Bd.state]; rfl
  have N0 := Fr.nil n0
  have KP0 : Keep h0 h0 [] := Keep.refl _ _
  refine ownFin (Q := own_law_Q Z px py w0 w1 w2 sw cl h0 n0) ?_
  refine ownStep (fun _ k => castTop (own_law_ef m px py) k) ?_
  show ownGo p.tables e below (s₁.setTop (mkF m 0 #[.val (.int px), .val (.int py), .unset, .unset, .unset, .unset, .unset, .unset, .unset, .unset] [])) _
  refine ownStep (fun _ k => XS.iloadN X0.here hx rfl (hb hby at_0) rfl  k) ?_
  show ownGo p.tables e below (s₁.setTop (mkF m 1 #[.val (.int px), .val (.int py), .unset, .unset, .unset, .unset, .unset, .unset, .unset, .unset] [(.int px)])) _
  refine ownStep (X0.ldcInt hx hown (mvT hZ (hw _ (List.mem_of_getElem? (i := 0) rfl))) (g := (mkF m 1 #[.val (.int px), .val (.int py), .unset, .unset, .unset, .unset, .unset, .unset, .unset, .unset] [(.int px)])) rfl (hb hby at_1)) ?_
  refine ownStep (fun _ k => XS.iand X0.here hx rfl (hb hby at_3) rfl k) ?_
  refine ownStep (fun _ k => XS.iconst X0.here hx rfl (hb hby at_4) k) ?_
  show ownGo p.tables e below (s₁.setTop (mkF m 5 #[.val (.int px), .val (.int py), .unset, .unset, .unset, .unset, .unset, .unset, .unset, .unset] [(.int (3 : Int32)), (.int (px &&& (2147483647 : Int32)))])) _
  refine ownStep (fun _ k => iremM X0 hx rfl (hb hby at_5) rfl (by decide) k) ?_
  show ownGo p.tables e below (s₁.setTop (mkF m 6 #[.val (.int px), .val (.int py), .unset, .unset, .unset, .unset, .unset, .unset, .unset, .unset] [(.int ((px &&& (2147483647 : Int32)) % (3 : Int32)))])) _
  obtain hi := own_mod3 px
  obtain hj := own_mod3 py
  rcases hi with hi | hi | hi
  · rcases hj with hj | hj | hj
    · rw [hi]
      refine ownStep (fun _ k => XS.istoreN X0.here hx rfl (hb hby at_6) rfl (l' := #[.val (.int px), .val (.int py), .val (.int (0 : Int32)), .unset, .unset, .unset, .unset, .unset, .unset, .unset]) rfl k) ?_
      refine ownStep (fun _ k => XS.iloadN X0.here hx rfl (hb hby at_7) rfl  k) ?_
      show ownGo p.tables e below (s₁.setTop (mkF m 8 #[.val (.int px), .val (.int py), .val (.int (0 : Int32)), .unset, .unset, .unset, .unset, .unset, .unset, .unset] [(.int py)])) _
      refine ownStep (X0.ldcInt hx hown (mvT hZ (hw _ (List.mem_of_getElem? (i := 0) rfl))) (g := (mkF m 8 #[.val (.int px), .val (.int py), .val (.int (0 : Int32)), .unset, .unset, .unset, .unset, .unset, .unset, .unset] [(.int py)])) rfl (hb hby at_8)) ?_
      refine ownStep (fun _ k => XS.iand X0.here hx rfl (hb hby at_10) rfl k) ?_
      refine ownStep (fun _ k => XS.iconst X0.here hx rfl (hb hby at_11) k) ?_
      show ownGo p.tables e below (s₁.setTop (mkF m 12 #[.val (.int px), .val (.int py), .val (.int (0 : Int32)), .unset, .unset, .unset, .unset, .unset, .unset, .unset] [(.int (3 : Int32)), (.int (py &&& (2147483647 : Int32)))])) _
      refine ownStep (fun _ k => iremM X0 hx rfl (hb hby at_12) rfl (by decide) k) ?_
      show ownGo p.tables e below (s₁.setTop (mkF m 13 #[.val (.int px), .val (.int py), .val (.int (0 : Int32)), .unset, .unset, .unset, .unset, .unset, .unset, .unset] [(.int ((py &&& (2147483647 : Int32)) % (3 : Int32)))])) _
      rw [hj]
      refine ownStep (fun _ k => XS.istoreN X0.here hx rfl (hb hby at_13) rfl (l' := #[.val (.int px), .val (.int py), .val (.int (0 : Int32)), .val (.int (0 : Int32)), .unset, .unset, .unset, .unset, .unset, .unset]) rfl k) ?_
      refine ownStep (fun _ k => XS.iloadN X0.here hx rfl (hb hby at_14) rfl  k) ?_
      show ownGo p.tables e below (s₁.setTop (mkF m 15 #[.val (.int px), .val (.int py), .val (.int (0 : Int32)), .val (.int (0 : Int32)), .unset, .unset, .unset, .unset, .unset, .unset] [(.int (0 : Int32))])) _
      have Zs2 : n0 ≤ h0.size := Nat.le_trans Z0 KP0.1
      obtain ⟨_, _, ⟨T1, L1, k1, n1⟩, -, X1, ⟨Lc1, hQ1, l1, y1, z1⟩, st1⟩ := Jvm.LawKit.callS X0 hx (y := (⟨"com/example/fixd/fixd/client/LocationProviderStatusPinLaw", "pick", "(I)Lcom/example/fixd/fixd/location/Provider$Status;"⟩ : MethodName)) hown (mvT hZ (hw _ (List.mem_of_getElem? (i := 1) rfl))) (mvT hZ (hw _ (List.mem_of_getElem? (i := 2) rfl))) (mvT hZ (hw _ (List.mem_of_getElem? (i := 3) rfl))) (mvT hZ (hw _ (List.mem_of_getElem? (i := 4) rfl))) (by decide) (backOf (W := 0) (own_pick0 l Z a0 hw [] w0 w1 w2 sw cl h0 n0 Zs2 S0 S1 S2) hZ (hw _ (List.mem_of_getElem? (i := 4) rfl)) (hw _ (List.mem_of_getElem? (i := 3) rfl)) (by decide) (by decide)) (g := (mkF m 15 #[.val (.int px), .val (.int py), .val (.int (0 : Int32)), .val (.int (0 : Int32)), .unset, .unset, .unset, .unset, .unset, .unset] [(.int (0 : Int32))])) rfl (by rw [hml]; rfl) (argsL := [(.int (0 : Int32))]) (rest := []) (lenOf own_law_pd0 rfl) rfl (by show 2 * 0 + _ ≤ _; exact Nat.le_of_eq rfl) (hb hby at_15) (fun _ _ => ⟨rfl, e0, (by decide : 0 + 0 ≤ _), (by decide : 0 + 0 ≤ _)⟩)
      dsimp only [Pt.U, Pt.locs, Pt.cells, Pt.slots] at X1 l1 y1 z1 st1 hQ1
      subst l1 y1 z1
      obtain ⟨rfl, N1q, R1⟩ := hQ1
      have N1 := Fr.app N0 N1q
      refine ownStep (fun _ k => st1 _ k) ?_
      refine ownStep (fun _ k => XS.astore X1.here hx rfl (hb hby at_18) rfl rfl (l' := #[.val (.int px), .val (.int py), .val (.int (0 : Int32)), .val (.int (0 : Int32)), .val (.ref w0), .unset, .unset, .unset, .unset, .unset]) rfl k) ?_
      refine ownStep (fun _ k => XS.iloadN X1.here hx rfl (hb hby at_20) rfl  k) ?_
      show ownGo p.tables e below (T1.setTop (mkF m 21 #[.val (.int px), .val (.int py), .val (.int (0 : Int32)), .val (.int (0 : Int32)), .val (.ref w0), .unset, .unset, .unset, .unset, .unset] [(.int (0 : Int32))])) _
      have Zs4 : n0 ≤ h0.size := Nat.le_trans Z0 KP0.1
      obtain ⟨_, _, ⟨T3, L3, k3, n3⟩, -, X3, ⟨Lc3, hQ3, l3, y3, z3⟩, st3⟩ := Jvm.LawKit.callS X1 hx (y := (⟨"com/example/fixd/fixd/client/LocationProviderStatusPinLaw", "pick", "(I)Lcom/example/fixd/fixd/location/Provider$Status;"⟩ : MethodName)) hown (mvT hZ (hw _ (List.mem_of_getElem? (i := 1) rfl))) (mvT hZ (hw _ (List.mem_of_getElem? (i := 2) rfl))) (mvT hZ (hw _ (List.mem_of_getElem? (i := 3) rfl))) (mvT hZ (hw _ (List.mem_of_getElem? (i := 4) rfl))) (by decide) (backOf (W := 0) (own_pick0 l Z a0 hw [] w0 w1 w2 sw cl h0 n0 Zs4 S0 S1 S2) hZ (hw _ (List.mem_of_getElem? (i := 4) rfl)) (hw _ (List.mem_of_getElem? (i := 3) rfl)) (by decide) (by decide)) (g := (mkF m 21 #[.val (.int px), .val (.int py), .val (.int (0 : Int32)), .val (.int (0 : Int32)), .val (.ref w0), .unset, .unset, .unset, .unset, .unset] [(.int (0 : Int32))])) rfl (by rw [hml]; rfl) (argsL := [(.int (0 : Int32))]) (rest := []) (lenOf own_law_pd0 rfl) rfl (by show 2 * 0 + _ ≤ _; exact Nat.le_of_eq rfl) (hb hby at_21) (fun _ _ => ⟨rfl, R1, (by decide : 0 + 0 ≤ _), (by decide : 0 + 0 ≤ _)⟩)
      dsimp only [Pt.U, Pt.locs, Pt.cells, Pt.slots] at X3 l3 y3 z3 st3 hQ3
      subst l3 y3 z3
      obtain ⟨rfl, N3q, R3⟩ := hQ3
      have N3 := Fr.app N1 N3q
      refine ownStep (fun _ k => st3 _ k) ?_
      refine ownStep (fun _ k => XS.astore X3.here hx rfl (hb hby at_24) rfl rfl (l' := #[.val (.int px), .val (.int py), .val (.int (0 : Int32)), .val (.int (0 : Int32)), .val (.ref w0), .val (.ref w0), .unset, .unset, .unset, .unset]) rfl k) ?_
      refine ownStep (fun _ k => XS.aload X3.here hx rfl (hb hby at_26) rfl rfl k) ?_
      show ownGo p.tables e below (T3.setTop (mkF m 28 #[.val (.int px), .val (.int py), .val (.int (0 : Int32)), .val (.int (0 : Int32)), .val (.ref w0), .val (.ref w0), .unset, .unset, .unset, .unset] [(.ref w0)])) _
      have Zs6 : n0 ≤ h0.size := Nat.le_trans Z0 KP0.1
      obtain ⟨_, _, ⟨T5, L5, k5, n5⟩, -, X5, ⟨Lc5, hQ5, l5, y5, z5⟩, st5⟩ := Jvm.LawKit.callS X3 hx (y := (⟨"com/example/fixd/fixd/client/LocationProvider", "status", "(Lcom/example/fixd/fixd/location/Provider$Status;)I"⟩ : MethodName)) hown (mvT hZ (hw _ (List.mem_of_getElem? (i := 8) rfl))) (mvT hZ (hw _ (List.mem_of_getElem? (i := 9) rfl))) (mvT hZ (hw _ (List.mem_of_getElem? (i := 10) rfl))) (mvT hZ (hw _ (List.mem_of_getElem? (i := 11) rfl))) (by decide) (backOf (W := 0) (own_stat0 l Z a0 hw [] w0 w1 w2 sw cl h0 n0 Zs6 S0 S1 S2 E0 E1 E2 F0 F1 F2 Ssw Asw El0 El1 El2) hZ (hw _ (List.mem_of_getElem? (i := 11) rfl)) (hw _ (List.mem_of_getElem? (i := 10) rfl)) (by decide) (by decide)) (g := (mkF m 28 #[.val (.int px), .val (.int py), .val (.int (0 : Int32)), .val (.int (0 : Int32)), .val (.ref w0), .val (.ref w0), .unset, .unset, .unset, .unset] [(.ref w0)])) rfl (by rw [hml]; rfl) (argsL := [(.ref w0)]) (rest := []) (lenOf own_law_pd1 rfl) rfl (by show 2 * 0 + _ ≤ _; exact Nat.le_of_eq rfl) (hb hby at_28) (fun _ _ => ⟨rfl, R3, (by decide : 0 + 0 ≤ _), (by decide : 0 + 0 ≤ _)⟩)
      dsimp only [Pt.U, Pt.locs, Pt.cells, Pt.slots] at X5 l5 y5 z5 st5 hQ5
      subst l5 y5 z5
      obtain ⟨rfl, N5q, R5⟩ := hQ5
      have N5 := Fr.app N3 N5q
      refine ownStep (fun _ k => st5 _ k) ?_
      refine ownStep (fun _ k => XS.istore X5.here hx rfl (hb hby at_31) rfl (l' := #[.val (.int px), .val (.int py), .val (.int (0 : Int32)), .val (.int (0 : Int32)), .val (.ref w0), .val (.ref w0), .val (.int (0 : Int32)), .unset, .unset, .unset]) rfl k) ?_
      refine ownStep (fun _ k => XS.aload X5.here hx rfl (hb hby at_33) rfl rfl k) ?_
      show ownGo p.tables e below (T5.setTop (mkF m 35 #[.val (.int px), .val (.int py), .val (.int (0 : Int32)), .val (.int (0 : Int32)), .val (.ref w0), .val (.ref w0), .val (.int (0 : Int32)), .unset, .unset, .unset] [(.ref w0)])) _
      have Zs8 : n0 ≤ h0.size := Nat.le_trans Z0 KP0.1
      obtain ⟨_, _, ⟨T7, L7, k7, n7⟩, -, X7, ⟨Lc7, hQ7, l7, y7, z7⟩, st7⟩ := Jvm.LawKit.callS X5 hx (y := (⟨"com/example/fixd/fixd/client/LocationProvider", "status", "(Lcom/example/fixd/fixd/location/Provider$Status;)I"⟩ : MethodName)) hown (mvT hZ (hw _ (List.mem_of_getElem? (i := 8) rfl))) (mvT hZ (hw _ (List.mem_of_getElem? (i := 9) rfl))) (mvT hZ (hw _ (List.mem_of_getElem? (i := 10) rfl))) (mvT hZ (hw _ (List.mem_of_getElem? (i := 11) rfl))) (by decide) (backOf (W := 0) (own_stat0 l Z a0 hw [] w0 w1 w2 sw cl h0 n0 Zs8 S0 S1 S2 E0 E1 E2 F0 F1 F2 Ssw Asw El0 El1 El2) hZ (hw _ (List.mem_of_getElem? (i := 11) rfl)) (hw _ (List.mem_of_getElem? (i := 10) rfl)) (by decide) (by decide)) (g := (mkF m 35 #[.val (.int px), .val (.int py), .val (.int (0 : Int32)), .val (.int (0 : Int32)), .val (.ref w0), .val (.ref w0), .val (.int (0 : Int32)), .unset, .unset, .unset] [(.ref w0)])) rfl (by rw [hml]; rfl) (argsL := [(.ref w0)]) (rest := []) (lenOf own_law_pd1 rfl) rfl (by show 2 * 0 + _ ≤ _; exact Nat.le_of_eq rfl) (hb hby at_35) (fun _ _ => ⟨rfl, R5, (by decide : 0 + 0 ≤ _), (by decide : 0 + 0 ≤ _)⟩)
      dsimp only [Pt.U, Pt.locs, Pt.cells, Pt.slots] at X7 l7 y7 z7 st7 hQ7
      subst l7 y7 z7
      obtain ⟨rfl, N7q, R7⟩ := hQ7
      have N7 := Fr.app N5 N7q
      refine ownStep (fun _ k => st7 _ k) ?_
      refine ownStep (fun _ k => XS.istore X7.here hx rfl (hb hby at_38) rfl (l' := #[.val (.int px), .val (.int py), .val (.int (0 : Int32)), .val (.int (0 : Int32)), .val (.ref w0), .val (.ref w0), .val (.int (0 : Int32)), .val (.int (0 : Int32)), .unset, .unset]) rfl k) ?_
      refine ownStep (fun _ k => XS.iload X7.here hx rfl (hb hby at_40) rfl  k) ?_
      refine ownStep (fun _ k => XS.iloadN X7.here hx rfl (hb hby at_42) rfl  k) ?_
      show ownGo p.tables e below (T7.setTop (mkF m 43 #[.val (.int px), .val (.int py), .val (.int (0 : Int32)), .val (.int (0 : Int32)), .val (.ref w0), .val (.ref w0), .val (.int (0 : Int32)), .val (.int (0 : Int32)), .unset, .unset] [(.int (0 : Int32)), (.int (0 : Int32))])) _
      have Zs10 : n0 ≤ h0.size := Nat.le_trans Z0 KP0.1
      obtain ⟨_, _, ⟨T9, L9, k9, n9⟩, -, X9, ⟨Lc9, hQ9, l9, y9, z9⟩, st9⟩ := Jvm.LawKit.callS X7 hx (y := (⟨"com/example/fixd/fixd/client/LocationProviderStatusPinLaw", "expected", "(I)I"⟩ : MethodName)) hown (mvT hZ (hw _ (List.mem_of_getElem? (i := 24) rfl))) (mvT hZ (hw _ (List.mem_of_getElem? (i := 25) rfl))) (mvT hZ (hw _ (List.mem_of_getElem? (i := 3) rfl))) (mvT hZ (hw _ (List.mem_of_getElem? (i := 26) rfl))) (by decide) (backOf (W := 1) (own_exp0 l Z a0 hw []  h0 n0 Zs10 ) hZ (hw _ (List.mem_of_getElem? (i := 26) rfl)) (hw _ (List.mem_of_getElem? (i := 3) rfl)) (by decide) (by decide)) (g := (mkF m 43 #[.val (.int px), .val (.int py), .val (.int (0 : Int32)), .val (.int (0 : Int32)), .val (.ref w0), .val (.ref w0), .val (.int (0 : Int32)), .val (.int (0 : Int32)), .unset, .unset] [(.int (0 : Int32)), (.int (0 : Int32))])) rfl (by rw [hml]; rfl) (argsL := [(.int (0 : Int32))]) (rest := [(.int (0 : Int32))]) (lenOf own_law_pd2 rfl) rfl (by show 2 * 0 + _ ≤ _; exact Nat.le_of_eq rfl) (hb hby at_43) (fun _ _ => ⟨rfl, R7, (by decide : 0 + 0 ≤ _), (by decide : 0 + 0 ≤ _)⟩)
      dsimp only [Pt.U, Pt.locs, Pt.cells, Pt.slots] at X9 l9 y9 z9 st9 hQ9
      subst l9 y9 z9
      obtain ⟨rfl, N9q, R9⟩ := hQ9
      have N9 := Fr.app N7 N9q
      refine ownStep (fun _ k => st9 _ k) ?_
      refine ownStep (fun _ k => XS.icmpNo X9.here hx rfl (hb hby at_46) rfl (teq (by decide : (0 : Int32) = (0 : Int32))).2 k) ?_
      refine ownStep (fun _ k => XS.iload X9.here hx rfl (hb hby at_49) rfl  k) ?_
      refine ownStep (fun _ k => XS.iloadN X9.here hx rfl (hb hby at_51) rfl  k) ?_
      show ownGo p.tables e below (T9.setTop (mkF m 52 #[.val (.int px), .val (.int py), .val (.int (0 : Int32)), .val (.int (0 : Int32)), .val (.ref w0), .val (.ref w0), .val (.int (0 : Int32)), .val (.int (0 : Int32)), .unset, .unset] [(.int (0 : Int32)), (.int (0 : Int32))])) _
      have Zs12 : n0 ≤ h0.size := Nat.le_trans Z0 KP0.1
      obtain ⟨_, _, ⟨T11, L11, k11, n11⟩, -, X11, ⟨Lc11, hQ11, l11, y11, z11⟩, st11⟩ := Jvm.LawKit.callS X9 hx (y := (⟨"com/example/fixd/fixd/client/LocationProviderStatusPinLaw", "named", "(I)I"⟩ : MethodName)) hown (mvT hZ (hw _ (List.mem_of_getElem? (i := 27) rfl))) (mvT hZ (hw _ (List.mem_of_getElem? (i := 28) rfl))) (mvT hZ (hw _ (List.mem_of_getElem? (i := 3) rfl))) (mvT hZ (hw _ (List.mem_of_getElem? (i := 29) rfl))) (by decide) (backOf (W := 1) (own_named0 l Z a0 hw []  h0 n0 Zs12 ) hZ (hw _ (List.mem_of_getElem? (i := 29) rfl)) (hw _ (List.mem_of_getElem? (i := 3) rfl)) (by decide) (by decide)) (g := (mkF m 52 #[.val (.int px), .val (.int py), .val (.int (0 : Int32)), .val (.int (0 : Int32)), .val (.ref w0), .val (.ref w0), .val (.int (0 : Int32)), .val (.int (0 : Int32)), .unset, .unset] [(.int (0 : Int32)), (.int (0 : Int32))])) rfl (by rw [hml]; rfl) (argsL := [(.int (0 : Int32))]) (rest := [(.int (0 : Int32))]) (lenOf own_law_pd2 rfl) rfl (by show 2 * 0 + _ ≤ _; exact Nat.le_of_eq rfl) (hb hby at_52) (fun _ _ => ⟨rfl, R9, (by decide : 0 + 0 ≤ _), (by decide : 0 + 0 ≤ _)⟩)
      dsimp only [Pt.U, Pt.locs, Pt.cells, Pt.slots] at X11 l11 y11 z11 st11 hQ11
      subst l11 y11 z11
      obtain ⟨rfl, N11q, R11⟩ := hQ11
      have N11 := Fr.app N9 N11q
      refine ownStep (fun _ k => st11 _ k) ?_
      refine ownStep (fun _ k => XS.icmpNo X11.here hx rfl (hb hby at_55) rfl (teq (by decide : (0 : Int32) = (0 : Int32))).2 k) ?_
      refine ownStep (fun _ k => XS.iload X11.here hx rfl (hb hby at_58) rfl  k) ?_
      refine ownStep (fun _ k => XS.iloadN X11.here hx rfl (hb hby at_60) rfl  k) ?_
      show ownGo p.tables e below (T11.setTop (mkF m 61 #[.val (.int px), .val (.int py), .val (.int (0 : Int32)), .val (.int (0 : Int32)), .val (.ref w0), .val (.ref w0), .val (.int (0 : Int32)), .val (.int (0 : Int32)), .unset, .unset] [(.int (0 : Int32)), (.int (0 : Int32))])) _
      have Zs14 : n0 ≤ h0.size := Nat.le_trans Z0 KP0.1
      obtain ⟨_, _, ⟨T13, L13, k13, n13⟩, -, X13, ⟨Lc13, hQ13, l13, y13, z13⟩, st13⟩ := Jvm.LawKit.callS X11 hx (y := (⟨"com/example/fixd/fixd/client/LocationProviderStatusPinLaw", "expected", "(I)I"⟩ : MethodName)) hown (mvT hZ (hw _ (List.mem_of_getElem? (i := 24) rfl))) (mvT hZ (hw _ (List.mem_of_getElem? (i := 25) rfl))) (mvT hZ (hw _ (List.mem_of_getElem? (i := 3) rfl))) (mvT hZ (hw _ (List.mem_of_getElem? (i := 26) rfl))) (by decide) (backOf (W := 1) (own_exp0 l Z a0 hw []  h0 n0 Zs14 ) hZ (hw _ (List.mem_of_getElem? (i := 26) rfl)) (hw _ (List.mem_of_getElem? (i := 3) rfl)) (by decide) (by decide)) (g := (mkF m 61 #[.val (.int px), .val (.int py), .val (.int (0 : Int32)), .val (.int (0 : Int32)), .val (.ref w0), .val (.ref w0), .val (.int (0 : Int32)), .val (.int (0 : Int32)), .unset, .unset] [(.int (0 : Int32)), (.int (0 : Int32))])) rfl (by rw [hml]; rfl) (argsL := [(.int (0 : Int32))]) (rest := [(.int (0 : Int32))]) (lenOf own_law_pd2 rfl) rfl (by show 2 * 0 + _ ≤ _; exact Nat.le_of_eq rfl) (hb hby at_61) (fun _ _ => ⟨rfl, R11, (by decide : 0 + 0 ≤ _), (by decide : 0 + 0 ≤ _)⟩)
      dsimp only [Pt.U, Pt.locs, Pt.cells, Pt.slots] at X13 l13 y13 z13 st13 hQ13
      subst l13 y13 z13
      obtain ⟨rfl, N13q, R13⟩ := hQ13
      have N13 := Fr.app N11 N13q
      refine ownStep (fun _ k => st13 _ k) ?_
      refine ownStep (fun _ k => XS.icmpNo X13.here hx rfl (hb hby at_64) rfl (teq (by decide : (0 : Int32) = (0 : Int32))).2 k) ?_
      refine ownStep (fun _ k => XS.iload X13.here hx rfl (hb hby at_67) rfl  k) ?_
      refine ownStep (fun _ k => XS.iloadN X13.here hx rfl (hb hby at_69) rfl  k) ?_
      show ownGo p.tables e below (T13.setTop (mkF m 70 #[.val (.int px), .val (.int py), .val (.int (0 : Int32)), .val (.int (0 : Int32)), .val (.ref w0), .val (.ref w0), .val (.int (0 : Int32)), .val (.int (0 : Int32)), .unset, .unset] [(.int (0 : Int32)), (.int (0 : Int32))])) _
      have Zs16 : n0 ≤ h0.size := Nat.le_trans Z0 KP0.1
      obtain ⟨_, _, ⟨T15, L15, k15, n15⟩, -, X15, ⟨Lc15, hQ15, l15, y15, z15⟩, st15⟩ := Jvm.LawKit.callS X13 hx (y := (⟨"com/example/fixd/fixd/client/LocationProviderStatusPinLaw", "named", "(I)I"⟩ : MethodName)) hown (mvT hZ (hw _ (List.mem_of_getElem? (i := 27) rfl))) (mvT hZ (hw _ (List.mem_of_getElem? (i := 28) rfl))) (mvT hZ (hw _ (List.mem_of_getElem? (i := 3) rfl))) (mvT hZ (hw _ (List.mem_of_getElem? (i := 29) rfl))) (by decide) (backOf (W := 1) (own_named0 l Z a0 hw []  h0 n0 Zs16 ) hZ (hw _ (List.mem_of_getElem? (i := 29) rfl)) (hw _ (List.mem_of_getElem? (i := 3) rfl)) (by decide) (by decide)) (g := (mkF m 70 #[.val (.int px), .val (.int py), .val (.int (0 : Int32)), .val (.int (0 : Int32)), .val (.ref w0), .val (.ref w0), .val (.int (0 : Int32)), .val (.int (0 : Int32)), .unset, .unset] [(.int (0 : Int32)), (.int (0 : Int32))])) rfl (by rw [hml]; rfl) (argsL := [(.int (0 : Int32))]) (rest := [(.int (0 : Int32))]) (lenOf own_law_pd2 rfl) rfl (by show 2 * 0 + _ ≤ _; exact Nat.le_of_eq rfl) (hb hby at_70) (fun _ _ => ⟨rfl, R13, (by decide : 0 + 0 ≤ _), (by decide : 0 + 0 ≤ _)⟩)
      dsimp only [Pt.U, Pt.locs, Pt.cells, Pt.slots] at X15 l15 y15 z15 st15 hQ15
      subst l15 y15 z15
      obtain ⟨rfl, N15q, R15⟩ := hQ15
      have N15 := Fr.app N13 N15q
      refine ownStep (fun _ k => st15 _ k) ?_
      refine ownStep (fun _ k => XS.icmpNo X15.here hx rfl (hb hby at_73) rfl (teq (by decide : (0 : Int32) = (0 : Int32))).2 k) ?_
      refine ownStep (fun _ k => XS.iconst X15.here hx rfl (hb hby at_76) k) ?_
      refine ownStep (fun _ k => XS.goto X15.here hx rfl (pc0 := 77) (pc' := 81) rfl (hb hby at_77) (by decide) (by decide) k) ?_
      refine ownStep (fun _ k => XS.istore X15.here hx rfl (hb hby at_81) rfl (l' := #[.val (.int px), .val (.int py), .val (.int (0 : Int32)), .val (.int (0 : Int32)), .val (.ref w0), .val (.ref w0), .val (.int (0 : Int32)), .val (.int (0 : Int32)), .val (.int (1 : Int32)), .unset]) rfl k) ?_
      show ownGo p.tables e below (T15.setTop (mkF m 83 #[.val (.int px), .val (.int py), .val (.int (0 : Int32)), .val (.int (0 : Int32)), .val (.ref w0), .val (.ref w0), .val (.int (0 : Int32)), .val (.int (0 : Int32)), .val (.int (1 : Int32)), .unset] [])) _
      refine ownStep (fun _ k => XS.iload X15.here hx rfl (hb hby at_83) rfl  k) ?_
      refine ownStep (fun _ k => XS.iload X15.here hx rfl (hb hby at_85) rfl  k) ?_
      refine ownStep (fun _ k => XS.icmpNo X15.here hx rfl (hb hby at_87) rfl (teq (by decide : (0 : Int32) = (0 : Int32))).2 k) ?_
      refine ownStep (fun _ k => XS.iconst X15.here hx rfl (hb hby at_90) k) ?_
      refine ownStep (fun _ k => XS.goto X15.here hx rfl (pc0 := 91) (pc' := 95) rfl (hb hby at_91) (by decide) (by decide) k) ?_
      show ownGo p.tables e below (T15.setTop (mkF m 95 #[.val (.int px), .val (.int py), .val (.int (0 : Int32)), .val (.int (0 : Int32)), .val (.ref w0), .val (.ref w0), .val (.int (0 : Int32)), .val (.int (0 : Int32)), .val (.int (1 : Int32)), .unset] [(.int (1 : Int32))])) _
      refine ownStep (fun _ k => XS.iloadN X15.here hx rfl (hb hby at_95) rfl  k) ?_
      refine ownStep (fun _ k => XS.iloadN X15.here hx rfl (hb hby at_96) rfl  k) ?_
      refine ownStep (fun _ k => XS.icmpNo X15.here hx rfl (hb hby at_97) rfl (teq (by decide : (0 : Int32) = (0 : Int32))).2 k) ?_
      refine ownStep (fun _ k => XS.iconst X15.here hx rfl (hb hby at_100) k) ?_
      refine ownStep (fun _ k => XS.goto X15.here hx rfl (pc0 := 101) (pc' := 105) rfl (hb hby at_101) (by decide) (by decide) k) ?_
      show ownGo p.tables e below (T15.setTop (mkF m 105 #[.val (.int px), .val (.int py), .val (.int (0 : Int32)), .val (.int (0 : Int32)), .val (.ref w0), .val (.ref w0), .val (.int (0 : Int32)), .val (.int (0 : Int32)), .val (.int (1 : Int32)), .unset] [(.int (1 : Int32)), (.int (1 : Int32))])) _
      refine ownStep (fun _ k => XS.icmpNo X15.here hx rfl (hb hby at_105) rfl (teq (by decide : (1 : Int32) = (1 : Int32))).2 k) ?_
      refine ownStep (fun _ k => XS.iconst X15.here hx rfl (hb hby at_108) k) ?_
      refine ownStep (fun _ k => XS.goto X15.here hx rfl (pc0 := 109) (pc' := 113) rfl (hb hby at_109) (by decide) (by decide) k) ?_
      refine ownStep (fun _ k => XS.istore X15.here hx rfl (hb hby at_113) rfl (l' := #[.val (.int px), .val (.int py), .val (.int (0 : Int32)), .val (.int (0 : Int32)), .val (.ref w0), .val (.ref w0), .val (.int (0 : Int32)), .val (.int (0 : Int32)), .val (.int (1 : Int32)), .val (.int (1 : Int32))]) rfl k) ?_
      refine ownStep (fun _ k => XS.iload X15.here hx rfl (hb hby at_115) rfl  k) ?_
      show ownGo p.tables e below (T15.setTop (mkF m 117 #[.val (.int px), .val (.int py), .val (.int (0 : Int32)), .val (.int (0 : Int32)), .val (.ref w0), .val (.ref w0), .val (.int (0 : Int32)), .val (.int (0 : Int32)), .val (.int (1 : Int32)), .val (.int (1 : Int32))] [(.int (1 : Int32))])) _
      refine ownStep (fun _ k => XS.ifNo X15.here hx rfl (hb hby at_117) rfl ((if0 _ _).trans (feq (by decide : ¬ (1 : Int32) = (0 : Int32))).1) k) ?_
      refine ownStep (fun _ k => XS.iload X15.here hx rfl (hb hby at_120) rfl  k) ?_
      refine ownStep (fun _ k => XS.ifNo X15.here hx rfl (hb hby at_122) rfl ((if0 _ _).trans (feq (by decide : ¬ (1 : Int32) = (0 : Int32))).1) k) ?_
      refine ownStep (fun _ k => XS.iconst X15.here hx rfl (hb hby at_125) k) ?_
      refine ownStep (fun _ k => XS.goto X15.here hx rfl (pc0 := 126) (pc' := 130) rfl (hb hby at_126) (by decide) (by decide) k) ?_
      show ownGo p.tables e below (T15.setTop (mkF m 130 #[.val (.int px), .val (.int py), .val (.int (0 : Int32)), .val (.int (0 : Int32)), .val (.ref w0), .val (.ref w0), .val (.int (0 : Int32)), .val (.int (0 : Int32)), .val (.int (1 : Int32)), .val (.int (1 : Int32))] [(.int (1 : Int32))])) _
      exact ownRet X15 (v := some (.int (1 : Int32))) Bd.notSynchronized (fun h => by rw [Bd.returns] at h; cases h) (fun _ hr => retN X15 hx (t := .boolean) Bd.returns (by simp) (hb hby at_130) hr) (by rw [R15]; exact ⟨rfl, N15, rfl⟩) (by decide) (by decide)
    · rw [hi]
      refine ownStep (fun _ k => XS.istoreN X0.here hx rfl (hb hby at_6) rfl (l' := #[.val (.int px), .val (.int py), .val (.int (0 : Int32)), .unset, .unset, .unset, .unset, .unset, .unset, .unset]) rfl k) ?_
      refine ownStep (fun _ k => XS.iloadN X0.here hx rfl (hb hby at_7) rfl  k) ?_
      show ownGo p.tables e below (s₁.setTop (mkF m 8 #[.val (.int px), .val (.int py), .val (.int (0 : Int32)), .unset, .unset, .unset, .unset, .unset, .unset, .unset] [(.int py)])) _
      refine ownStep (X0.ldcInt hx hown (mvT hZ (hw _ (List.mem_of_getElem? (i := 0) rfl))) (g := (mkF m 8 #[.val (.int px), .val (.int py), .val (.int (0 : Int32)), .unset, .unset, .unset, .unset, .unset, .unset, .unset] [(.int py)])) rfl (hb hby at_8)) ?_
      refine ownStep (fun _ k => XS.iand X0.here hx rfl (hb hby at_10) rfl k) ?_
      refine ownStep (fun _ k => XS.iconst X0.here hx rfl (hb hby at_11) k) ?_
      show ownGo p.tables e below (s₁.setTop (mkF m 12 #[.val (.int px), .val (.int py), .val (.int (0 : Int32)), .unset, .unset, .unset, .unset, .unset, .unset, .unset] [(.int (3 : Int32)), (.int (py &&& (2147483647 : Int32)))])) _
      refine ownStep (fun _ k => iremM X0 hx rfl (hb hby at_12) rfl (by decide) k) ?_
      show ownGo p.tables e below (s₁.setTop (mkF m 13 #[.val (.int px), .val (.int py), .val (.int (0 : Int32)), .unset, .unset, .unset, .unset, .unset, .unset, .unset] [(.int ((py &&& (2147483647 : Int32)) % (3 : Int32)))])) _
      rw [hj]
      refine ownStep (fun _ k => XS.istoreN X0.here hx rfl (hb hby at_13) rfl (l' := #[.val (.int px), .val (.int py), .val (.int (0 : Int32)), .val (.int (1 : Int32)), .unset, .unset, .unset, .unset, .unset, .unset]) rfl k) ?_
      refine ownStep (fun _ k => XS.iloadN X0.here hx rfl (hb hby at_14) rfl  k) ?_
      show ownGo p.tables e below (s₁.setTop (mkF m 15 #[.val (.int px), .val (.int py), .val (.int (0 : Int32)), .val (.int (1 : Int32)), .unset, .unset, .unset, .unset, .unset, .unset] [(.int (0 : Int32))])) _
      have Zs18 : n0 ≤ h0.size := Nat.le_trans Z0 KP0.1
      obtain ⟨_, _, ⟨T17, L17, k17, n17⟩, -, X17, ⟨Lc17, hQ17, l17, y17, z17⟩, st17⟩ := Jvm.LawKit.callS X0 hx (y := (⟨"com/example/fixd/fixd/client/LocationProviderStatusPinLaw", "pick", "(I)Lcom/example/fixd/fixd/location/Provider$Status;"⟩ : MethodName)) hown (mvT hZ (hw _ (List.mem_of_getElem? (i := 1) rfl))) (mvT hZ (hw _ (List.mem_of_getElem? (i := 2) rfl))) (mvT hZ (hw _ (List.mem_of_getElem? (i := 3) rfl))) (mvT hZ (hw _ (List.mem_of_getElem? (i := 4) rfl))) (by decide) (backOf (W := 0) (own_pick0 l Z a0 hw [] w0 w1 w2 sw cl h0 n0 Zs18 S0 S1 S2) hZ (hw _ (List.mem_of_getElem? (i := 4) rfl)) (hw _ (List.mem_of_getElem? (i := 3) rfl)) (by decide) (by decide)) (g := (mkF m 15 #[.val (.int px), .val (.int py), .val (.int (0 : Int32)), .val (.int (1 : Int32)), .unset, .unset, .unset, .unset, .unset, .unset] [(.int (0 : Int32))])) rfl (by rw [hml]; rfl) (argsL := [(.int (0 : Int32))]) (rest := []) (lenOf own_law_pd0 rfl) rfl (by show 2 * 0 + _ ≤ _; exact Nat.le_of_eq rfl) (hb hby at_15) (fun _ _ => ⟨rfl, e0, (by decide : 0 + 0 ≤ _), (by decide : 0 + 0 ≤ _)⟩)
      dsimp only [Pt.U, Pt.locs, Pt.cells, Pt.slots] at X17 l17 y17 z17 st17 hQ17
      subst l17 y17 z17
      obtain ⟨rfl, N17q, R17⟩ := hQ17
      have N17 := Fr.app N0 N17q
      refine ownStep (fun _ k => st17 _ k) ?_
      refine ownStep (fun _ k => XS.astore X17.here hx rfl (hb hby at_18) rfl rfl (l' := #[.val (.int px), .val (.int py), .val (.int (0 : Int32)), .val (.int (1 : Int32)), .val (.ref w0), .unset, .unset, .unset, .unset, .unset]) rfl k) ?_
      refine ownStep (fun _ k => XS.iloadN X17.here hx rfl (hb hby at_20) rfl  k) ?_
      show ownGo p.tables e below (T17.setTop (mkF m 21 #[.val (.int px), .val (.int py), .val (.int (0 : Int32)), .val (.int (1 : Int32)), .val (.ref w0), .unset, .unset, .unset, .unset, .unset] [(.int (1 : Int32))])) _
      have Zs20 : n0 ≤ h0.size := Nat.le_trans Z0 KP0.1
      obtain ⟨_, _, ⟨T19, L19, k19, n19⟩, -, X19, ⟨Lc19, hQ19, l19, y19, z19⟩, st19⟩ := Jvm.LawKit.callS X17 hx (y := (⟨"com/example/fixd/fixd/client/LocationProviderStatusPinLaw", "pick", "(I)Lcom/example/fixd/fixd/location/Provider$Status;"⟩ : MethodName)) hown (mvT hZ (hw _ (List.mem_of_getElem? (i := 1) rfl))) (mvT hZ (hw _ (List.mem_of_getElem? (i := 2) rfl))) (mvT hZ (hw _ (List.mem_of_getElem? (i := 3) rfl))) (mvT hZ (hw _ (List.mem_of_getElem? (i := 4) rfl))) (by decide) (backOf (W := 0) (own_pick1 l Z a0 hw [] w0 w1 w2 sw cl h0 n0 Zs20 S0 S1 S2) hZ (hw _ (List.mem_of_getElem? (i := 4) rfl)) (hw _ (List.mem_of_getElem? (i := 3) rfl)) (by decide) (by decide)) (g := (mkF m 21 #[.val (.int px), .val (.int py), .val (.int (0 : Int32)), .val (.int (1 : Int32)), .val (.ref w0), .unset, .unset, .unset, .unset, .unset] [(.int (1 : Int32))])) rfl (by rw [hml]; rfl) (argsL := [(.int (1 : Int32))]) (rest := []) (lenOf own_law_pd0 rfl) rfl (by show 2 * 0 + _ ≤ _; exact Nat.le_of_eq rfl) (hb hby at_21) (fun _ _ => ⟨rfl, R17, (by decide : 0 + 0 ≤ _), (by decide : 0 + 0 ≤ _)⟩)
      dsimp only [Pt.U, Pt.locs, Pt.cells, Pt.slots] at X19 l19 y19 z19 st19 hQ19
      subst l19 y19 z19
      obtain ⟨rfl, N19q, R19⟩ := hQ19
      have N19 := Fr.app N17 N19q
      refine ownStep (fun _ k => st19 _ k) ?_
      refine ownStep (fun _ k => XS.astore X19.here hx rfl (hb hby at_24) rfl rfl (l' := #[.val (.int px), .val (.int py), .val (.int (0 : Int32)), .val (.int (1 : Int32)), .val (.ref w0), .val (.ref w1), .unset, .unset, .unset, .unset]) rfl k) ?_
      refine ownStep (fun _ k => XS.aload X19.here hx rfl (hb hby at_26) rfl rfl k) ?_
      show ownGo p.tables e below (T19.setTop (mkF m 28 #[.val (.int px), .val (.int py), .val (.int (0 : Int32)), .val (.int (1 : Int32)), .val (.ref w0), .val (.ref w1), .unset, .unset, .unset, .unset] [(.ref w0)])) _
      have Zs22 : n0 ≤ h0.size := Nat.le_trans Z0 KP0.1
      obtain ⟨_, _, ⟨T21, L21, k21, n21⟩, -, X21, ⟨Lc21, hQ21, l21, y21, z21⟩, st21⟩ := Jvm.LawKit.callS X19 hx (y := (⟨"com/example/fixd/fixd/client/LocationProvider", "status", "(Lcom/example/fixd/fixd/location/Provider$Status;)I"⟩ : MethodName)) hown (mvT hZ (hw _ (List.mem_of_getElem? (i := 8) rfl))) (mvT hZ (hw _ (List.mem_of_getElem? (i := 9) rfl))) (mvT hZ (hw _ (List.mem_of_getElem? (i := 10) rfl))) (mvT hZ (hw _ (List.mem_of_getElem? (i := 11) rfl))) (by decide) (backOf (W := 0) (own_stat0 l Z a0 hw [] w0 w1 w2 sw cl h0 n0 Zs22 S0 S1 S2 E0 E1 E2 F0 F1 F2 Ssw Asw El0 El1 El2) hZ (hw _ (List.mem_of_getElem? (i := 11) rfl)) (hw _ (List.mem_of_getElem? (i := 10) rfl)) (by decide) (by decide)) (g := (mkF m 28 #[.val (.int px), .val (.int py), .val (.int (0 : Int32)), .val (.int (1 : Int32)), .val (.ref w0), .val (.ref w1), .unset, .unset, .unset, .unset] [(.ref w0)])) rfl (by rw [hml]; rfl) (argsL := [(.ref w0)]) (rest := []) (lenOf own_law_pd1 rfl) rfl (by show 2 * 0 + _ ≤ _; exact Nat.le_of_eq rfl) (hb hby at_28) (fun _ _ => ⟨rfl, R19, (by decide : 0 + 0 ≤ _), (by decide : 0 + 0 ≤ _)⟩)
      dsimp only [Pt.U, Pt.locs, Pt.cells, Pt.slots] at X21 l21 y21 z21 st21 hQ21
      subst l21 y21 z21
      obtain ⟨rfl, N21q, R21⟩ := hQ21
      have N21 := Fr.app N19 N21q
      refine ownStep (fun _ k => st21 _ k) ?_
      refine ownStep (fun _ k => XS.istore X21.here hx rfl (hb hby at_31) rfl (l' := #[.val (.int px), .val (.int py), .val (.int (0 : Int32)), .val (.int (1 : Int32)), .val (.ref w0), .val (.ref w1), .val (.int (0 : Int32)), .unset, .unset, .unset]) rfl k) ?_
      refine ownStep (fun _ k => XS.aload X21.here hx rfl (hb hby at_33) rfl rfl k) ?_
      show ownGo p.tables e below (T21.setTop (mkF m 35 #[.val (.int px), .val (.int py), .val (.int (0 : Int32)), .val (.int (1 : Int32)), .val (.ref w0), .val (.ref w1), .val (.int (0 : Int32)), .unset, .unset, .unset] [(.ref w1)])) _
      have Zs24 : n0 ≤ h0.size := Nat.le_trans Z0 KP0.1
      obtain ⟨_, _, ⟨T23, L23, k23, n23⟩, -, X23, ⟨Lc23, hQ23, l23, y23, z23⟩, st23⟩ := Jvm.LawKit.callS X21 hx (y := (⟨"com/example/fixd/fixd/client/LocationProvider", "status", "(Lcom/example/fixd/fixd/location/Provider$Status;)I"⟩ : MethodName)) hown (mvT hZ (hw _ (List.mem_of_getElem? (i := 8) rfl))) (mvT hZ (hw _ (List.mem_of_getElem? (i := 9) rfl))) (mvT hZ (hw _ (List.mem_of_getElem? (i := 10) rfl))) (mvT hZ (hw _ (List.mem_of_getElem? (i := 11) rfl))) (by decide) (backOf (W := 0) (own_stat1 l Z a0 hw [] w0 w1 w2 sw cl h0 n0 Zs24 S0 S1 S2 E0 E1 E2 F0 F1 F2 Ssw Asw El0 El1 El2) hZ (hw _ (List.mem_of_getElem? (i := 11) rfl)) (hw _ (List.mem_of_getElem? (i := 10) rfl)) (by decide) (by decide)) (g := (mkF m 35 #[.val (.int px), .val (.int py), .val (.int (0 : Int32)), .val (.int (1 : Int32)), .val (.ref w0), .val (.ref w1), .val (.int (0 : Int32)), .unset, .unset, .unset] [(.ref w1)])) rfl (by rw [hml]; rfl) (argsL := [(.ref w1)]) (rest := []) (lenOf own_law_pd1 rfl) rfl (by show 2 * 0 + _ ≤ _; exact Nat.le_of_eq rfl) (hb hby at_35) (fun _ _ => ⟨rfl, R21, (by decide : 0 + 0 ≤ _), (by decide : 0 + 0 ≤ _)⟩)
      dsimp only [Pt.U, Pt.locs, Pt.cells, Pt.slots] at X23 l23 y23 z23 st23 hQ23
      subst l23 y23 z23
      obtain ⟨rfl, N23q, R23⟩ := hQ23
      have N23 := Fr.app N21 N23q
      refine ownStep (fun _ k => st23 _ k) ?_
      refine ownStep (fun _ k => XS.istore X23.here hx rfl (hb hby at_38) rfl (l' := #[.val (.int px), .val (.int py), .val (.int (0 : Int32)), .val (.int (1 : Int32)), .val (.ref w0), .val (.ref w1), .val (.int (0 : Int32)), .val (.int (1 : Int32)), .unset, .unset]) rfl k) ?_
      refine ownStep (fun _ k => XS.iload X23.here hx rfl (hb hby at_40) rfl  k) ?_
      refine ownStep (fun _ k => XS.iloadN X23.here hx rfl (hb hby at_42) rfl  k) ?_
      show ownGo p.tables e below (T23.setTop (mkF m 43 #[.val (.int px), .val (.int py), .val (.int (0 : Int32)), .val (.int (1 : Int32)), .val (.ref w0), .val (.ref w1), .val (.int (0 : Int32)), .val (.int (1 : Int32)), .unset, .unset] [(.int (0 : Int32)), (.int (0 : Int32))])) _
      have Zs26 : n0 ≤ h0.size := Nat.le_trans Z0 KP0.1
      obtain ⟨_, _, ⟨T25, L25, k25, n25⟩, -, X25, ⟨Lc25, hQ25, l25, y25, z25⟩, st25⟩ := Jvm.LawKit.callS X23 hx (y := (⟨"com/example/fixd/fixd/client/LocationProviderStatusPinLaw", "expected", "(I)I"⟩ : MethodName)) hown (mvT hZ (hw _ (List.mem_of_getElem? (i := 24) rfl))) (mvT hZ (hw _ (List.mem_of_getElem? (i := 25) rfl))) (mvT hZ (hw _ (List.mem_of_getElem? (i := 3) rfl))) (mvT hZ (hw _ (List.mem_of_getElem? (i := 26) rfl))) (by decide) (backOf (W := 1) (own_exp0 l Z a0 hw []  h0 n0 Zs26 ) hZ (hw _ (List.mem_of_getElem? (i := 26) rfl)) (hw _ (List.mem_of_getElem? (i := 3) rfl)) (by decide) (by decide)) (g := (mkF m 43 #[.val (.int px), .val (.int py), .val (.int (0 : Int32)), .val (.int (1 : Int32)), .val (.ref w0), .val (.ref w1), .val (.int (0 : Int32)), .val (.int (1 : Int32)), .unset, .unset] [(.int (0 : Int32)), (.int (0 : Int32))])) rfl (by rw [hml]; rfl) (argsL := [(.int (0 : Int32))]) (rest := [(.int (0 : Int32))]) (lenOf own_law_pd2 rfl) rfl (by show 2 * 0 + _ ≤ _; exact Nat.le_of_eq rfl) (hb hby at_43) (fun _ _ => ⟨rfl, R23, (by decide : 0 + 0 ≤ _), (by decide : 0 + 0 ≤ _)⟩)
      dsimp only [Pt.U, Pt.locs, Pt.cells, Pt.slots] at X25 l25 y25 z25 st25 hQ25
      subst l25 y25 z25
      obtain ⟨rfl, N25q, R25⟩ := hQ25
      have N25 := Fr.app N23 N25q
      refine ownStep (fun _ k => st25 _ k) ?_
      refine ownStep (fun _ k => XS.icmpNo X25.here hx rfl (hb hby at_46) rfl (teq (by decide : (0 : Int32) = (0 : Int32))).2 k) ?_
      refine ownStep (fun _ k => XS.iload X25.here hx rfl (hb hby at_49) rfl  k) ?_
      refine ownStep (fun _ k => XS.iloadN X25.here hx rfl (hb hby at_51) rfl  k) ?_
      show ownGo p.tables e below (T25.setTop (mkF m 52 #[.val (.int px), .val (.int py), .val (.int (0 : Int32)), .val (.int (1 : Int32)), .val (.ref w0), .val (.ref w1), .val (.int (0 : Int32)), .val (.int (1 : Int32)), .unset, .unset] [(.int (0 : Int32)), (.int (0 : Int32))])) _
      have Zs28 : n0 ≤ h0.size := Nat.le_trans Z0 KP0.1
      obtain ⟨_, _, ⟨T27, L27, k27, n27⟩, -, X27, ⟨Lc27, hQ27, l27, y27, z27⟩, st27⟩ := Jvm.LawKit.callS X25 hx (y := (⟨"com/example/fixd/fixd/client/LocationProviderStatusPinLaw", "named", "(I)I"⟩ : MethodName)) hown (mvT hZ (hw _ (List.mem_of_getElem? (i := 27) rfl))) (mvT hZ (hw _ (List.mem_of_getElem? (i := 28) rfl))) (mvT hZ (hw _ (List.mem_of_getElem? (i := 3) rfl))) (mvT hZ (hw _ (List.mem_of_getElem? (i := 29) rfl))) (by decide) (backOf (W := 1) (own_named0 l Z a0 hw []  h0 n0 Zs28 ) hZ (hw _ (List.mem_of_getElem? (i := 29) rfl)) (hw _ (List.mem_of_getElem? (i := 3) rfl)) (by decide) (by decide)) (g := (mkF m 52 #[.val (.int px), .val (.int py), .val (.int (0 : Int32)), .val (.int (1 : Int32)), .val (.ref w0), .val (.ref w1), .val (.int (0 : Int32)), .val (.int (1 : Int32)), .unset, .unset] [(.int (0 : Int32)), (.int (0 : Int32))])) rfl (by rw [hml]; rfl) (argsL := [(.int (0 : Int32))]) (rest := [(.int (0 : Int32))]) (lenOf own_law_pd2 rfl) rfl (by show 2 * 0 + _ ≤ _; exact Nat.le_of_eq rfl) (hb hby at_52) (fun _ _ => ⟨rfl, R25, (by decide : 0 + 0 ≤ _), (by decide : 0 + 0 ≤ _)⟩)
      dsimp only [Pt.U, Pt.locs, Pt.cells, Pt.slots] at X27 l27 y27 z27 st27 hQ27
      subst l27 y27 z27
      obtain ⟨rfl, N27q, R27⟩ := hQ27
      have N27 := Fr.app N25 N27q
      refine ownStep (fun _ k => st27 _ k) ?_
      refine ownStep (fun _ k => XS.icmpNo X27.here hx rfl (hb hby at_55) rfl (teq (by decide : (0 : Int32) = (0 : Int32))).2 k) ?_
      refine ownStep (fun _ k => XS.iload X27.here hx rfl (hb hby at_58) rfl  k) ?_
      refine ownStep (fun _ k => XS.iloadN X27.here hx rfl (hb hby at_60) rfl  k) ?_
      show ownGo p.tables e below (T27.setTop (mkF m 61 #[.val (.int px), .val (.int py), .val (.int (0 : Int32)), .val (.int (1 : Int32)), .val (.ref w0), .val (.ref w1), .val (.int (0 : Int32)), .val (.int (1 : Int32)), .unset, .unset] [(.int (1 : Int32)), (.int (1 : Int32))])) _
      have Zs30 : n0 ≤ h0.size := Nat.le_trans Z0 KP0.1
      obtain ⟨_, _, ⟨T29, L29, k29, n29⟩, -, X29, ⟨Lc29, hQ29, l29, y29, z29⟩, st29⟩ := Jvm.LawKit.callS X27 hx (y := (⟨"com/example/fixd/fixd/client/LocationProviderStatusPinLaw", "expected", "(I)I"⟩ : MethodName)) hown (mvT hZ (hw _ (List.mem_of_getElem? (i := 24) rfl))) (mvT hZ (hw _ (List.mem_of_getElem? (i := 25) rfl))) (mvT hZ (hw _ (List.mem_of_getElem? (i := 3) rfl))) (mvT hZ (hw _ (List.mem_of_getElem? (i := 26) rfl))) (by decide) (backOf (W := 1) (own_exp1 l Z a0 hw []  h0 n0 Zs30 ) hZ (hw _ (List.mem_of_getElem? (i := 26) rfl)) (hw _ (List.mem_of_getElem? (i := 3) rfl)) (by decide) (by decide)) (g := (mkF m 61 #[.val (.int px), .val (.int py), .val (.int (0 : Int32)), .val (.int (1 : Int32)), .val (.ref w0), .val (.ref w1), .val (.int (0 : Int32)), .val (.int (1 : Int32)), .unset, .unset] [(.int (1 : Int32)), (.int (1 : Int32))])) rfl (by rw [hml]; rfl) (argsL := [(.int (1 : Int32))]) (rest := [(.int (1 : Int32))]) (lenOf own_law_pd2 rfl) rfl (by show 2 * 0 + _ ≤ _; exact Nat.le_of_eq rfl) (hb hby at_61) (fun _ _ => ⟨rfl, R27, (by decide : 0 + 0 ≤ _), (by decide : 0 + 0 ≤ _)⟩)
      dsimp only [Pt.U, Pt.locs, Pt.cells, Pt.slots] at X29 l29 y29 z29 st29 hQ29
      subst l29 y29 z29
      obtain ⟨rfl, N29q, R29⟩ := hQ29
      have N29 := Fr.app N27 N29q
      refine ownStep (fun _ k => st29 _ k) ?_
      refine ownStep (fun _ k => XS.icmpNo X29.here hx rfl (hb hby at_64) rfl (teq (by decide : (1 : Int32) = (1 : Int32))).2 k) ?_
      refine ownStep (fun _ k => XS.iload X29.here hx rfl (hb hby at_67) rfl  k) ?_
      refine ownStep (fun _ k => XS.iloadN X29.here hx rfl (hb hby at_69) rfl  k) ?_
      show ownGo p.tables e below (T29.setTop (mkF m 70 #[.val (.int px), .val (.int py), .val (.int (0 : Int32)), .val (.int (1 : Int32)), .val (.ref w0), .val (.ref w1), .val (.int (0 : Int32)), .val (.int (1 : Int32)), .unset, .unset] [(.int (1 : Int32)), (.int (1 : Int32))])) _
      have Zs32 : n0 ≤ h0.size := Nat.le_trans Z0 KP0.1
      obtain ⟨_, _, ⟨T31, L31, k31, n31⟩, -, X31, ⟨Lc31, hQ31, l31, y31, z31⟩, st31⟩ := Jvm.LawKit.callS X29 hx (y := (⟨"com/example/fixd/fixd/client/LocationProviderStatusPinLaw", "named", "(I)I"⟩ : MethodName)) hown (mvT hZ (hw _ (List.mem_of_getElem? (i := 27) rfl))) (mvT hZ (hw _ (List.mem_of_getElem? (i := 28) rfl))) (mvT hZ (hw _ (List.mem_of_getElem? (i := 3) rfl))) (mvT hZ (hw _ (List.mem_of_getElem? (i := 29) rfl))) (by decide) (backOf (W := 1) (own_named1 l Z a0 hw []  h0 n0 Zs32 ) hZ (hw _ (List.mem_of_getElem? (i := 29) rfl)) (hw _ (List.mem_of_getElem? (i := 3) rfl)) (by decide) (by decide)) (g := (mkF m 70 #[.val (.int px), .val (.int py), .val (.int (0 : Int32)), .val (.int (1 : Int32)), .val (.ref w0), .val (.ref w1), .val (.int (0 : Int32)), .val (.int (1 : Int32)), .unset, .unset] [(.int (1 : Int32)), (.int (1 : Int32))])) rfl (by rw [hml]; rfl) (argsL := [(.int (1 : Int32))]) (rest := [(.int (1 : Int32))]) (lenOf own_law_pd2 rfl) rfl (by show 2 * 0 + _ ≤ _; exact Nat.le_of_eq rfl) (hb hby at_70) (fun _ _ => ⟨rfl, R29, (by decide : 0 + 0 ≤ _), (by decide : 0 + 0 ≤ _)⟩)
      dsimp only [Pt.U, Pt.locs, Pt.cells, Pt.slots] at X31 l31 y31 z31 st31 hQ31
      subst l31 y31 z31
      obtain ⟨rfl, N31q, R31⟩ := hQ31
      have N31 := Fr.app N29 N31q
      refine ownStep (fun _ k => st31 _ k) ?_
      refine ownStep (fun _ k => XS.icmpNo X31.here hx rfl (hb hby at_73) rfl (teq (by decide : (1 : Int32) = (1 : Int32))).2 k) ?_
      refine ownStep (fun _ k => XS.iconst X31.here hx rfl (hb hby at_76) k) ?_
      refine ownStep (fun _ k => XS.goto X31.here hx rfl (pc0 := 77) (pc' := 81) rfl (hb hby at_77) (by decide) (by decide) k) ?_
      refine ownStep (fun _ k => XS.istore X31.here hx rfl (hb hby at_81) rfl (l' := #[.val (.int px), .val (.int py), .val (.int (0 : Int32)), .val (.int (1 : Int32)), .val (.ref w0), .val (.ref w1), .val (.int (0 : Int32)), .val (.int (1 : Int32)), .val (.int (1 : Int32)), .unset]) rfl k) ?_
      show ownGo p.tables e below (T31.setTop (mkF m 83 #[.val (.int px), .val (.int py), .val (.int (0 : Int32)), .val (.int (1 : Int32)), .val (.ref w0), .val (.ref w1), .val (.int (0 : Int32)), .val (.int (1 : Int32)), .val (.int (1 : Int32)), .unset] [])) _
      refine ownStep (fun _ k => XS.iload X31.here hx rfl (hb hby at_83) rfl  k) ?_
      refine ownStep (fun _ k => XS.iload X31.here hx rfl (hb hby at_85) rfl  k) ?_
      refine ownStep (fun _ k => XS.icmpYes X31.here hx rfl (pc0 := 87) (pc' := 94) rfl (hb hby at_87) rfl (feq (by decide : ¬ (0 : Int32) = (1 : Int32))).2 (by decide) (by decide) k) ?_
      refine ownStep (fun _ k => XS.iconst X31.here hx rfl (hb hby at_94) k) ?_
      refine ownStep (fun _ k => XS.iloadN X31.here hx rfl (hb hby at_95) rfl  k) ?_
      show ownGo p.tables e below (T31.setTop (mkF m 96 #[.val (.int px), .val (.int py), .val (.int (0 : Int32)), .val (.int (1 : Int32)), .val (.ref w0), .val (.ref w1), .val (.int (0 : Int32)), .val (.int (1 : Int32)), .val (.int (1 : Int32)), .unset] [(.int (0 : Int32)), (.int (0 : Int32))])) _
      refine ownStep (fun _ k => XS.iloadN X31.here hx rfl (hb hby at_96) rfl  k) ?_
      refine ownStep (fun _ k => XS.icmpYes X31.here hx rfl (pc0 := 97) (pc' := 104) rfl (hb hby at_97) rfl (feq (by decide : ¬ (0 : Int32) = (1 : Int32))).2 (by decide) (by decide) k) ?_
      refine ownStep (fun _ k => XS.iconst X31.here hx rfl (hb hby at_104) k) ?_
      refine ownStep (fun _ k => XS.icmpNo X31.here hx rfl (hb hby at_105) rfl (teq (by decide : (0 : Int32) = (0 : Int32))).2 k) ?_
      refine ownStep (fun _ k => XS.iconst X31.here hx rfl (hb hby at_108) k) ?_
      show ownGo p.tables e below (T31.setTop (mkF m 109 #[.val (.int px), .val (.int py), .val (.int (0 : Int32)), .val (.int (1 : Int32)), .val (.ref w0), .val (.ref w1), .val (.int (0 : Int32)), .val (.int (1 : Int32)), .val (.int (1 : Int32)), .unset] [(.int (1 : Int32))])) _
      refine ownStep (fun _ k => XS.goto X31.here hx rfl (pc0 := 109) (pc' := 113) rfl (hb hby at_109) (by decide) (by decide) k) ?_
      refine ownStep (fun _ k => XS.istore X31.here hx rfl (hb hby at_113) rfl (l' := #[.val (.int px), .val (.int py), .val (.int (0 : Int32)), .val (.int (1 : Int32)), .val (.ref w0), .val (.ref w1), .val (.int (0 : Int32)), .val (.int (1 : Int32)), .val (.int (1 : Int32)), .val (.int (1 : Int32))]) rfl k) ?_
      refine ownStep (fun _ k => XS.iload X31.here hx rfl (hb hby at_115) rfl  k) ?_
      refine ownStep (fun _ k => XS.ifNo X31.here hx rfl (hb hby at_117) rfl ((if0 _ _).trans (feq (by decide : ¬ (1 : Int32) = (0 : Int32))).1) k) ?_
      refine ownStep (fun _ k => XS.iload X31.here hx rfl (hb hby at_120) rfl  k) ?_
      show ownGo p.tables e below (T31.setTop (mkF m 122 #[.val (.int px), .val (.int py), .val (.int (0 : Int32)), .val (.int (1 : Int32)), .val (.ref w0), .val (.ref w1), .val (.int (0 : Int32)), .val (.int (1 : Int32)), .val (.int (1 : Int32)), .val (.int (1 : Int32))] [(.int (1 : Int32))])) _
      refine ownStep (fun _ k => XS.ifNo X31.here hx rfl (hb hby at_122) rfl ((if0 _ _).trans (feq (by decide : ¬ (1 : Int32) = (0 : Int32))).1) k) ?_
      refine ownStep (fun _ k => XS.iconst X31.here hx rfl (hb hby at_125) k) ?_
      refine ownStep (fun _ k => XS.goto X31.here hx rfl (pc0 := 126) (pc' := 130) rfl (hb hby at_126) (by decide) (by decide) k) ?_
      show ownGo p.tables e below (T31.setTop (mkF m 130 #[.val (.int px), .val (.int py), .val (.int (0 : Int32)), .val (.int (1 : Int32)), .val (.ref w0), .val (.ref w1), .val (.int (0 : Int32)), .val (.int (1 : Int32)), .val (.int (1 : Int32)), .val (.int (1 : Int32))] [(.int (1 : Int32))])) _
      exact ownRet X31 (v := some (.int (1 : Int32))) Bd.notSynchronized (fun h => by rw [Bd.returns] at h; cases h) (fun _ hr => retN X31 hx (t := .boolean) Bd.returns (by simp) (hb hby at_130) hr) (by rw [R31]; exact ⟨rfl, N31, rfl⟩) (by decide) (by decide)
    · rw [hi]
      refine ownStep (fun _ k => XS.istoreN X0.here hx rfl (hb hby at_6) rfl (l' := #[.val (.int px), .val (.int py), .val (.int (0 : Int32)), .unset, .unset, .unset, .unset, .unset, .unset, .unset]) rfl k) ?_
      refine ownStep (fun _ k => XS.iloadN X0.here hx rfl (hb hby at_7) rfl  k) ?_
      show ownGo p.tables e below (s₁.setTop (mkF m 8 #[.val (.int px), .val (.int py), .val (.int (0 : Int32)), .unset, .unset, .unset, .unset, .unset, .unset, .unset] [(.int py)])) _
      refine ownStep (X0.ldcInt hx hown (mvT hZ (hw _ (List.mem_of_getElem? (i := 0) rfl))) (g := (mkF m 8 #[.val (.int px), .val (.int py), .val (.int (0 : Int32)), .unset, .unset, .unset, .unset, .unset, .unset, .unset] [(.int py)])) rfl (hb hby at_8)) ?_
      refine ownStep (fun _ k => XS.iand X0.here hx rfl (hb hby at_10) rfl k) ?_
      refine ownStep (fun _ k => XS.iconst X0.here hx rfl (hb hby at_11) k) ?_
      show ownGo p.tables e below (s₁.setTop (mkF m 12 #[.val (.int px), .val (.int py), .val (.int (0 : Int32)), .unset, .unset, .unset, .unset, .unset, .unset, .unset] [(.int (3 : Int32)), (.int (py &&& (2147483647 : Int32)))])) _
      refine ownStep (fun _ k => iremM X0 hx rfl (hb hby at_12) rfl (by decide) k) ?_
      show ownGo p.tables e below (s₁.setTop (mkF m 13 #[.val (.int px), .val (.int py), .val (.int (0 : Int32)), .unset, .unset, .unset, .unset, .unset, .unset, .unset] [(.int ((py &&& (2147483647 : Int32)) % (3 : Int32)))])) _
      rw [hj]
      refine ownStep (fun _ k => XS.istoreN X0.here hx rfl (hb hby at_13) rfl (l' := #[.val (.int px), .val (.int py), .val (.int (0 : Int32)), .val (.int (2 : Int32)), .unset, .unset, .unset, .unset, .unset, .unset]) rfl k) ?_
      refine ownStep (fun _ k => XS.iloadN X0.here hx rfl (hb hby at_14) rfl  k) ?_
      show ownGo p.tables e below (s₁.setTop (mkF m 15 #[.val (.int px), .val (.int py), .val (.int (0 : Int32)), .val (.int (2 : Int32)), .unset, .unset, .unset, .unset, .unset, .unset] [(.int (0 : Int32))])) _
      have Zs34 : n0 ≤ h0.size := Nat.le_trans Z0 KP0.1
      obtain ⟨_, _, ⟨T33, L33, k33, n33⟩, -, X33, ⟨Lc33, hQ33, l33, y33, z33⟩, st33⟩ := Jvm.LawKit.callS X0 hx (y := (⟨"com/example/fixd/fixd/client/LocationProviderStatusPinLaw", "pick", "(I)Lcom/example/fixd/fixd/location/Provider$Status;"⟩ : MethodName)) hown (mvT hZ (hw _ (List.mem_of_getElem? (i := 1) rfl))) (mvT hZ (hw _ (List.mem_of_getElem? (i := 2) rfl))) (mvT hZ (hw _ (List.mem_of_getElem? (i := 3) rfl))) (mvT hZ (hw _ (List.mem_of_getElem? (i := 4) rfl))) (by decide) (backOf (W := 0) (own_pick0 l Z a0 hw [] w0 w1 w2 sw cl h0 n0 Zs34 S0 S1 S2) hZ (hw _ (List.mem_of_getElem? (i := 4) rfl)) (hw _ (List.mem_of_getElem? (i := 3) rfl)) (by decide) (by decide)) (g := (mkF m 15 #[.val (.int px), .val (.int py), .val (.int (0 : Int32)), .val (.int (2 : Int32)), .unset, .unset, .unset, .unset, .unset, .unset] [(.int (0 : Int32))])) rfl (by rw [hml]; rfl) (argsL := [(.int (0 : Int32))]) (rest := []) (lenOf own_law_pd0 rfl) rfl (by show 2 * 0 + _ ≤ _; exact Nat.le_of_eq rfl) (hb hby at_15) (fun _ _ => ⟨rfl, e0, (by decide : 0 + 0 ≤ _), (by decide : 0 + 0 ≤ _)⟩)
      dsimp only [Pt.U, Pt.locs, Pt.cells, Pt.slots] at X33 l33 y33 z33 st33 hQ33
      subst l33 y33 z33
      obtain ⟨rfl, N33q, R33⟩ := hQ33
      have N33 := Fr.app N0 N33q
      refine ownStep (fun _ k => st33 _ k) ?_
      refine ownStep (fun _ k => XS.astore X33.here hx rfl (hb hby at_18) rfl rfl (l' := #[.val (.int px), .val (.int py), .val (.int (0 : Int32)), .val (.int (2 : Int32)), .val (.ref w0), .unset, .unset, .unset, .unset, .unset]) rfl k) ?_
      refine ownStep (fun _ k => XS.iloadN X33.here hx rfl (hb hby at_20) rfl  k) ?_
      show ownGo p.tables e below (T33.setTop (mkF m 21 #[.val (.int px), .val (.int py), .val (.int (0 : Int32)), .val (.int (2 : Int32)), .val (.ref w0), .unset, .unset, .unset, .unset, .unset] [(.int (2 : Int32))])) _
      have Zs36 : n0 ≤ h0.size := Nat.le_trans Z0 KP0.1
      obtain ⟨_, _, ⟨T35, L35, k35, n35⟩, -, X35, ⟨Lc35, hQ35, l35, y35, z35⟩, st35⟩ := Jvm.LawKit.callS X33 hx (y := (⟨"com/example/fixd/fixd/client/LocationProviderStatusPinLaw", "pick", "(I)Lcom/example/fixd/fixd/location/Provider$Status;"⟩ : MethodName)) hown (mvT hZ (hw _ (List.mem_of_getElem? (i := 1) rfl))) (mvT hZ (hw _ (List.mem_of_getElem? (i := 2) rfl))) (mvT hZ (hw _ (List.mem_of_getElem? (i := 3) rfl))) (mvT hZ (hw _ (List.mem_of_getElem? (i := 4) rfl))) (by decide) (backOf (W := 0) (own_pick2 l Z a0 hw [] w0 w1 w2 sw cl h0 n0 Zs36 S0 S1 S2) hZ (hw _ (List.mem_of_getElem? (i := 4) rfl)) (hw _ (List.mem_of_getElem? (i := 3) rfl)) (by decide) (by decide)) (g := (mkF m 21 #[.val (.int px), .val (.int py), .val (.int (0 : Int32)), .val (.int (2 : Int32)), .val (.ref w0), .unset, .unset, .unset, .unset, .unset] [(.int (2 : Int32))])) rfl (by rw [hml]; rfl) (argsL := [(.int (2 : Int32))]) (rest := []) (lenOf own_law_pd0 rfl) rfl (by show 2 * 0 + _ ≤ _; exact Nat.le_of_eq rfl) (hb hby at_21) (fun _ _ => ⟨rfl, R33, (by decide : 0 + 0 ≤ _), (by decide : 0 + 0 ≤ _)⟩)
      dsimp only [Pt.U, Pt.locs, Pt.cells, Pt.slots] at X35 l35 y35 z35 st35 hQ35
      subst l35 y35 z35
      obtain ⟨rfl, N35q, R35⟩ := hQ35
      have N35 := Fr.app N33 N35q
      refine ownStep (fun _ k => st35 _ k) ?_
      refine ownStep (fun _ k => XS.astore X35.here hx rfl (hb hby at_24) rfl rfl (l' := #[.val (.int px), .val (.int py), .val (.int (0 : Int32)), .val (.int (2 : Int32)), .val (.ref w0), .val (.ref w2), .unset, .unset, .unset, .unset]) rfl k) ?_
      refine ownStep (fun _ k => XS.aload X35.here hx rfl (hb hby at_26) rfl rfl k) ?_
      show ownGo p.tables e below (T35.setTop (mkF m 28 #[.val (.int px), .val (.int py), .val (.int (0 : Int32)), .val (.int (2 : Int32)), .val (.ref w0), .val (.ref w2), .unset, .unset, .unset, .unset] [(.ref w0)])) _
      have Zs38 : n0 ≤ h0.size := Nat.le_trans Z0 KP0.1
      obtain ⟨_, _, ⟨T37, L37, k37, n37⟩, -, X37, ⟨Lc37, hQ37, l37, y37, z37⟩, st37⟩ := Jvm.LawKit.callS X35 hx (y := (⟨"com/example/fixd/fixd/client/LocationProvider", "status", "(Lcom/example/fixd/fixd/location/Provider$Status;)I"⟩ : MethodName)) hown (mvT hZ (hw _ (List.mem_of_getElem? (i := 8) rfl))) (mvT hZ (hw _ (List.mem_of_getElem? (i := 9) rfl))) (mvT hZ (hw _ (List.mem_of_getElem? (i := 10) rfl))) (mvT hZ (hw _ (List.mem_of_getElem? (i := 11) rfl))) (by decide) (backOf (W := 0) (own_stat0 l Z a0 hw [] w0 w1 w2 sw cl h0 n0 Zs38 S0 S1 S2 E0 E1 E2 F0 F1 F2 Ssw Asw El0 El1 El2) hZ (hw _ (List.mem_of_getElem? (i := 11) rfl)) (hw _ (List.mem_of_getElem? (i := 10) rfl)) (by decide) (by decide)) (g := (mkF m 28 #[.val (.int px), .val (.int py), .val (.int (0 : Int32)), .val (.int (2 : Int32)), .val (.ref w0), .val (.ref w2), .unset, .unset, .unset, .unset] [(.ref w0)])) rfl (by rw [hml]; rfl) (argsL := [(.ref w0)]) (rest := []) (lenOf own_law_pd1 rfl) rfl (by show 2 * 0 + _ ≤ _; exact Nat.le_of_eq rfl) (hb hby at_28) (fun _ _ => ⟨rfl, R35, (by decide : 0 + 0 ≤ _), (by decide : 0 + 0 ≤ _)⟩)
      dsimp only [Pt.U, Pt.locs, Pt.cells, Pt.slots] at X37 l37 y37 z37 st37 hQ37
      subst l37 y37 z37
      obtain ⟨rfl, N37q, R37⟩ := hQ37
      have N37 := Fr.app N35 N37q
      refine ownStep (fun _ k => st37 _ k) ?_
      refine ownStep (fun _ k => XS.istore X37.here hx rfl (hb hby at_31) rfl (l' := #[.val (.int px), .val (.int py), .val (.int (0 : Int32)), .val (.int (2 : Int32)), .val (.ref w0), .val (.ref w2), .val (.int (0 : Int32)), .unset, .unset, .unset]) rfl k) ?_
      refine ownStep (fun _ k => XS.aload X37.here hx rfl (hb hby at_33) rfl rfl k) ?_
      show ownGo p.tables e below (T37.setTop (mkF m 35 #[.val (.int px), .val (.int py), .val (.int (0 : Int32)), .val (.int (2 : Int32)), .val (.ref w0), .val (.ref w2), .val (.int (0 : Int32)), .unset, .unset, .unset] [(.ref w2)])) _
      have Zs40 : n0 ≤ h0.size := Nat.le_trans Z0 KP0.1
      obtain ⟨_, _, ⟨T39, L39, k39, n39⟩, -, X39, ⟨Lc39, hQ39, l39, y39, z39⟩, st39⟩ := Jvm.LawKit.callS X37 hx (y := (⟨"com/example/fixd/fixd/client/LocationProvider", "status", "(Lcom/example/fixd/fixd/location/Provider$Status;)I"⟩ : MethodName)) hown (mvT hZ (hw _ (List.mem_of_getElem? (i := 8) rfl))) (mvT hZ (hw _ (List.mem_of_getElem? (i := 9) rfl))) (mvT hZ (hw _ (List.mem_of_getElem? (i := 10) rfl))) (mvT hZ (hw _ (List.mem_of_getElem? (i := 11) rfl))) (by decide) (backOf (W := 0) (own_stat2 l Z a0 hw [] w0 w1 w2 sw cl h0 n0 Zs40 S0 S1 S2 E0 E1 E2 F0 F1 F2 Ssw Asw El0 El1 El2) hZ (hw _ (List.mem_of_getElem? (i := 11) rfl)) (hw _ (List.mem_of_getElem? (i := 10) rfl)) (by decide) (by decide)) (g := (mkF m 35 #[.val (.int px), .val (.int py), .val (.int (0 : Int32)), .val (.int (2 : Int32)), .val (.ref w0), .val (.ref w2), .val (.int (0 : Int32)), .unset, .unset, .unset] [(.ref w2)])) rfl (by rw [hml]; rfl) (argsL := [(.ref w2)]) (rest := []) (lenOf own_law_pd1 rfl) rfl (by show 2 * 0 + _ ≤ _; exact Nat.le_of_eq rfl) (hb hby at_35) (fun _ _ => ⟨rfl, R37, (by decide : 0 + 0 ≤ _), (by decide : 0 + 0 ≤ _)⟩)
      dsimp only [Pt.U, Pt.locs, Pt.cells, Pt.slots] at X39 l39 y39 z39 st39 hQ39
      subst l39 y39 z39
      obtain ⟨rfl, N39q, R39⟩ := hQ39
      have N39 := Fr.app N37 N39q
      refine ownStep (fun _ k => st39 _ k) ?_
      refine ownStep (fun _ k => XS.istore X39.here hx rfl (hb hby at_38) rfl (l' := #[.val (.int px), .val (.int py), .val (.int (0 : Int32)), .val (.int (2 : Int32)), .val (.ref w0), .val (.ref w2), .val (.int (0 : Int32)), .val (.int (2 : Int32)), .unset, .unset]) rfl k) ?_
      refine ownStep (fun _ k => XS.iload X39.here hx rfl (hb hby at_40) rfl  k) ?_
      refine ownStep (fun _ k => XS.iloadN X39.here hx rfl (hb hby at_42) rfl  k) ?_
      show ownGo p.tables e below (T39.setTop (mkF m 43 #[.val (.int px), .val (.int py), .val (.int (0 : Int32)), .val (.int (2 : Int32)), .val (.ref w0), .val (.ref w2), .val (.int (0 : Int32)), .val (.int (2 : Int32)), .unset, .unset] [(.int (0 : Int32)), (.int (0 : Int32))])) _
      have Zs42 : n0 ≤ h0.size := Nat.le_trans Z0 KP0.1
      obtain ⟨_, _, ⟨T41, L41, k41, n41⟩, -, X41, ⟨Lc41, hQ41, l41, y41, z41⟩, st41⟩ := Jvm.LawKit.callS X39 hx (y := (⟨"com/example/fixd/fixd/client/LocationProviderStatusPinLaw", "expected", "(I)I"⟩ : MethodName)) hown (mvT hZ (hw _ (List.mem_of_getElem? (i := 24) rfl))) (mvT hZ (hw _ (List.mem_of_getElem? (i := 25) rfl))) (mvT hZ (hw _ (List.mem_of_getElem? (i := 3) rfl))) (mvT hZ (hw _ (List.mem_of_getElem? (i := 26) rfl))) (by decide) (backOf (W := 1) (own_exp0 l Z a0 hw []  h0 n0 Zs42 ) hZ (hw _ (List.mem_of_getElem? (i := 26) rfl)) (hw _ (List.mem_of_getElem? (i := 3) rfl)) (by decide) (by decide)) (g := (mkF m 43 #[.val (.int px), .val (.int py), .val (.int (0 : Int32)), .val (.int (2 : Int32)), .val (.ref w0), .val (.ref w2), .val (.int (0 : Int32)), .val (.int (2 : Int32)), .unset, .unset] [(.int (0 : Int32)), (.int (0 : Int32))])) rfl (by rw [hml]; rfl) (argsL := [(.int (0 : Int32))]) (rest := [(.int (0 : Int32))]) (lenOf own_law_pd2 rfl) rfl (by show 2 * 0 + _ ≤ _; exact Nat.le_of_eq rfl) (hb hby at_43) (fun _ _ => ⟨rfl, R39, (by decide : 0 + 0 ≤ _), (by decide : 0 + 0 ≤ _)⟩)
      dsimp only [Pt.U, Pt.locs, Pt.cells, Pt.slots] at X41 l41 y41 z41 st41 hQ41
      subst l41 y41 z41
      obtain ⟨rfl, N41q, R41⟩ := hQ41
      have N41 := Fr.app N39 N41q
      refine ownStep (fun _ k => st41 _ k) ?_
      refine ownStep (fun _ k => XS.icmpNo X41.here hx rfl (hb hby at_46) rfl (teq (by decide : (0 : Int32) = (0 : Int32))).2 k) ?_
      refine ownStep (fun _ k => XS.iload X41.here hx rfl (hb hby at_49) rfl  k) ?_
      refine ownStep (fun _ k => XS.iloadN X41.here hx rfl (hb hby at_51) rfl  k) ?_
      show ownGo p.tables e below (T41.setTop (mkF m 52 #[.val (.int px), .val (.int py), .val (.int (0 : Int32)), .val (.int (2 : Int32)), .val (.ref w0), .val (.ref w2), .val (.int (0 : Int32)), .val (.int (2 : Int32)), .unset, .unset] [(.int (0 : Int32)), (.int (0 : Int32))])) _
      have Zs44 : n0 ≤ h0.size := Nat.le_trans Z0 KP0.1
      obtain ⟨_, _, ⟨T43, L43, k43, n43⟩, -, X43, ⟨Lc43, hQ43, l43, y43, z43⟩, st43⟩ := Jvm.LawKit.callS X41 hx (y := (⟨"com/example/fixd/fixd/client/LocationProviderStatusPinLaw", "named", "(I)I"⟩ : MethodName)) hown (mvT hZ (hw _ (List.mem_of_getElem? (i := 27) rfl))) (mvT hZ (hw _ (List.mem_of_getElem? (i := 28) rfl))) (mvT hZ (hw _ (List.mem_of_getElem? (i := 3) rfl))) (mvT hZ (hw _ (List.mem_of_getElem? (i := 29) rfl))) (by decide) (backOf (W := 1) (own_named0 l Z a0 hw []  h0 n0 Zs44 ) hZ (hw _ (List.mem_of_getElem? (i := 29) rfl)) (hw _ (List.mem_of_getElem? (i := 3) rfl)) (by decide) (by decide)) (g := (mkF m 52 #[.val (.int px), .val (.int py), .val (.int (0 : Int32)), .val (.int (2 : Int32)), .val (.ref w0), .val (.ref w2), .val (.int (0 : Int32)), .val (.int (2 : Int32)), .unset, .unset] [(.int (0 : Int32)), (.int (0 : Int32))])) rfl (by rw [hml]; rfl) (argsL := [(.int (0 : Int32))]) (rest := [(.int (0 : Int32))]) (lenOf own_law_pd2 rfl) rfl (by show 2 * 0 + _ ≤ _; exact Nat.le_of_eq rfl) (hb hby at_52) (fun _ _ => ⟨rfl, R41, (by decide : 0 + 0 ≤ _), (by decide : 0 + 0 ≤ _)⟩)
      dsimp only [Pt.U, Pt.locs, Pt.cells, Pt.slots] at X43 l43 y43 z43 st43 hQ43
      subst l43 y43 z43
      obtain ⟨rfl, N43q, R43⟩ := hQ43
      have N43 := Fr.app N41 N43q
      refine ownStep (fun _ k => st43 _ k) ?_
      refine ownStep (fun _ k => XS.icmpNo X43.here hx rfl (hb hby at_55) rfl (teq (by decide : (0 : Int32) = (0 : Int32))).2 k) ?_
      refine ownStep (fun _ k => XS.iload X43.here hx rfl (hb hby at_58) rfl  k) ?_
      refine ownStep (fun _ k => XS.iloadN X43.here hx rfl (hb hby at_60) rfl  k) ?_
      show ownGo p.tables e below (T43.setTop (mkF m 61 #[.val (.int px), .val (.int py), .val (.int (0 : Int32)), .val (.int (2 : Int32)), .val (.ref w0), .val (.ref w2), .val (.int (0 : Int32)), .val (.int (2 : Int32)), .unset, .unset] [(.int (2 : Int32)), (.int (2 : Int32))])) _
      have Zs46 : n0 ≤ h0.size := Nat.le_trans Z0 KP0.1
      obtain ⟨_, _, ⟨T45, L45, k45, n45⟩, -, X45, ⟨Lc45, hQ45, l45, y45, z45⟩, st45⟩ := Jvm.LawKit.callS X43 hx (y := (⟨"com/example/fixd/fixd/client/LocationProviderStatusPinLaw", "expected", "(I)I"⟩ : MethodName)) hown (mvT hZ (hw _ (List.mem_of_getElem? (i := 24) rfl))) (mvT hZ (hw _ (List.mem_of_getElem? (i := 25) rfl))) (mvT hZ (hw _ (List.mem_of_getElem? (i := 3) rfl))) (mvT hZ (hw _ (List.mem_of_getElem? (i := 26) rfl))) (by decide) (backOf (W := 1) (own_exp2 l Z a0 hw []  h0 n0 Zs46 ) hZ (hw _ (List.mem_of_getElem? (i := 26) rfl)) (hw _ (List.mem_of_getElem? (i := 3) rfl)) (by decide) (by decide)) (g := (mkF m 61 #[.val (.int px), .val (.int py), .val (.int (0 : Int32)), .val (.int (2 : Int32)), .val (.ref w0), .val (.ref w2), .val (.int (0 : Int32)), .val (.int (2 : Int32)), .unset, .unset] [(.int (2 : Int32)), (.int (2 : Int32))])) rfl (by rw [hml]; rfl) (argsL := [(.int (2 : Int32))]) (rest := [(.int (2 : Int32))]) (lenOf own_law_pd2 rfl) rfl (by show 2 * 0 + _ ≤ _; exact Nat.le_of_eq rfl) (hb hby at_61) (fun _ _ => ⟨rfl, R43, (by decide : 0 + 0 ≤ _), (by decide : 0 + 0 ≤ _)⟩)
      dsimp only [Pt.U, Pt.locs, Pt.cells, Pt.slots] at X45 l45 y45 z45 st45 hQ45
      subst l45 y45 z45
      obtain ⟨rfl, N45q, R45⟩ := hQ45
      have N45 := Fr.app N43 N45q
      refine ownStep (fun _ k => st45 _ k) ?_
      refine ownStep (fun _ k => XS.icmpNo X45.here hx rfl (hb hby at_64) rfl (teq (by decide : (2 : Int32) = (2 : Int32))).2 k) ?_
      refine ownStep (fun _ k => XS.iload X45.here hx rfl (hb hby at_67) rfl  k) ?_
      refine ownStep (fun _ k => XS.iloadN X45.here hx rfl (hb hby at_69) rfl  k) ?_
      show ownGo p.tables e below (T45.setTop (mkF m 70 #[.val (.int px), .val (.int py), .val (.int (0 : Int32)), .val (.int (2 : Int32)), .val (.ref w0), .val (.ref w2), .val (.int (0 : Int32)), .val (.int (2 : Int32)), .unset, .unset] [(.int (2 : Int32)), (.int (2 : Int32))])) _
      have Zs48 : n0 ≤ h0.size := Nat.le_trans Z0 KP0.1
      obtain ⟨_, _, ⟨T47, L47, k47, n47⟩, -, X47, ⟨Lc47, hQ47, l47, y47, z47⟩, st47⟩ := Jvm.LawKit.callS X45 hx (y := (⟨"com/example/fixd/fixd/client/LocationProviderStatusPinLaw", "named", "(I)I"⟩ : MethodName)) hown (mvT hZ (hw _ (List.mem_of_getElem? (i := 27) rfl))) (mvT hZ (hw _ (List.mem_of_getElem? (i := 28) rfl))) (mvT hZ (hw _ (List.mem_of_getElem? (i := 3) rfl))) (mvT hZ (hw _ (List.mem_of_getElem? (i := 29) rfl))) (by decide) (backOf (W := 1) (own_named2 l Z a0 hw []  h0 n0 Zs48 ) hZ (hw _ (List.mem_of_getElem? (i := 29) rfl)) (hw _ (List.mem_of_getElem? (i := 3) rfl)) (by decide) (by decide)) (g := (mkF m 70 #[.val (.int px), .val (.int py), .val (.int (0 : Int32)), .val (.int (2 : Int32)), .val (.ref w0), .val (.ref w2), .val (.int (0 : Int32)), .val (.int (2 : Int32)), .unset, .unset] [(.int (2 : Int32)), (.int (2 : Int32))])) rfl (by rw [hml]; rfl) (argsL := [(.int (2 : Int32))]) (rest := [(.int (2 : Int32))]) (lenOf own_law_pd2 rfl) rfl (by show 2 * 0 + _ ≤ _; exact Nat.le_of_eq rfl) (hb hby at_70) (fun _ _ => ⟨rfl, R45, (by decide : 0 + 0 ≤ _), (by decide : 0 + 0 ≤ _)⟩)
      dsimp only [Pt.U, Pt.locs, Pt.cells, Pt.slots] at X47 l47 y47 z47 st47 hQ47
      subst l47 y47 z47
      obtain ⟨rfl, N47q, R47⟩ := hQ47
      have N47 := Fr.app N45 N47q
      refine ownStep (fun _ k => st47 _ k) ?_
      refine ownStep (fun _ k => XS.icmpNo X47.here hx rfl (hb hby at_73) rfl (teq (by decide : (2 : Int32) = (2 : Int32))).2 k) ?_
      refine ownStep (fun _ k => XS.iconst X47.here hx rfl (hb hby at_76) k) ?_
      refine ownStep (fun _ k => XS.goto X47.here hx rfl (pc0 := 77) (pc' := 81) rfl (hb hby at_77) (by decide) (by decide) k) ?_
      refine ownStep (fun _ k => XS.istore X47.here hx rfl (hb hby at_81) rfl (l' := #[.val (.int px), .val (.int py), .val (.int (0 : Int32)), .val (.int (2 : Int32)), .val (.ref w0), .val (.ref w2), .val (.int (0 : Int32)), .val (.int (2 : Int32)), .val (.int (1 : Int32)), .unset]) rfl k) ?_
      show ownGo p.tables e below (T47.setTop (mkF m 83 #[.val (.int px), .val (.int py), .val (.int (0 : Int32)), .val (.int (2 : Int32)), .val (.ref w0), .val (.ref w2), .val (.int (0 : Int32)), .val (.int (2 : Int32)), .val (.int (1 : Int32)), .unset] [])) _
      refine ownStep (fun _ k => XS.iload X47.here hx rfl (hb hby at_83) rfl  k) ?_
      refine ownStep (fun _ k => XS.iload X47.here hx rfl (hb hby at_85) rfl  k) ?_
      refine ownStep (fun _ k => XS.icmpYes X47.here hx rfl (pc0 := 87) (pc' := 94) rfl (hb hby at_87) rfl (feq (by decide : ¬ (0 : Int32) = (2 : Int32))).2 (by decide) (by decide) k) ?_
      refine ownStep (fun _ k => XS.iconst X47.here hx rfl (hb hby at_94) k) ?_
      refine ownStep (fun _ k => XS.iloadN X47.here hx rfl (hb hby at_95) rfl  k) ?_
      show ownGo p.tables e below (T47.setTop (mkF m 96 #[.val (.int px), .val (.int py), .val (.int (0 : Int32)), .val (.int (2 : Int32)), .val (.ref w0), .val (.ref w2), .val (.int (0 : Int32)), .val (.int (2 : Int32)), .val (.int (1 : Int32)), .unset] [(.int (0 : Int32)), (.int (0 : Int32))])) _
      refine ownStep (fun _ k => XS.iloadN X47.here hx rfl (hb hby at_96) rfl  k) ?_
      refine ownStep (fun _ k => XS.icmpYes X47.here hx rfl (pc0 := 97) (pc' := 104) rfl (hb hby at_97) rfl (feq (by decide : ¬ (0 : Int32) = (2 : Int32))).2 (by decide) (by decide) k) ?_
      refine ownStep (fun _ k => XS.iconst X47.here hx rfl (hb hby at_104) k) ?_
      refine ownStep (fun _ k => XS.icmpNo X47.here hx rfl (hb hby at_105) rfl (teq (by decide : (0 : Int32) = (0 : Int32))).2 k) ?_
      refine ownStep (fun _ k => XS.iconst X47.here hx rfl (hb hby at_108) k) ?_
      show ownGo p.tables e below (T47.setTop (mkF m 109 #[.val (.int px), .val (.int py), .val (.int (0 : Int32)), .val (.int (2 : Int32)), .val (.ref w0), .val (.ref w2), .val (.int (0 : Int32)), .val (.int (2 : Int32)), .val (.int (1 : Int32)), .unset] [(.int (1 : Int32))])) _
      refine ownStep (fun _ k => XS.goto X47.here hx rfl (pc0 := 109) (pc' := 113) rfl (hb hby at_109) (by decide) (by decide) k) ?_
      refine ownStep (fun _ k => XS.istore X47.here hx rfl (hb hby at_113) rfl (l' := #[.val (.int px), .val (.int py), .val (.int (0 : Int32)), .val (.int (2 : Int32)), .val (.ref w0), .val (.ref w2), .val (.int (0 : Int32)), .val (.int (2 : Int32)), .val (.int (1 : Int32)), .val (.int (1 : Int32))]) rfl k) ?_
      refine ownStep (fun _ k => XS.iload X47.here hx rfl (hb hby at_115) rfl  k) ?_
      refine ownStep (fun _ k => XS.ifNo X47.here hx rfl (hb hby at_117) rfl ((if0 _ _).trans (feq (by decide : ¬ (1 : Int32) = (0 : Int32))).1) k) ?_
      refine ownStep (fun _ k => XS.iload X47.here hx rfl (hb hby at_120) rfl  k) ?_
      show ownGo p.tables e below (T47.setTop (mkF m 122 #[.val (.int px), .val (.int py), .val (.int (0 : Int32)), .val (.int (2 : Int32)), .val (.ref w0), .val (.ref w2), .val (.int (0 : Int32)), .val (.int (2 : Int32)), .val (.int (1 : Int32)), .val (.int (1 : Int32))] [(.int (1 : Int32))])) _
      refine ownStep (fun _ k => XS.ifNo X47.here hx rfl (hb hby at_122) rfl ((if0 _ _).trans (feq (by decide : ¬ (1 : Int32) = (0 : Int32))).1) k) ?_
      refine ownStep (fun _ k => XS.iconst X47.here hx rfl (hb hby at_125) k) ?_
      refine ownStep (fun _ k => XS.goto X47.here hx rfl (pc0 := 126) (pc' := 130) rfl (hb hby at_126) (by decide) (by decide) k) ?_
      show ownGo p.tables e below (T47.setTop (mkF m 130 #[.val (.int px), .val (.int py), .val (.int (0 : Int32)), .val (.int (2 : Int32)), .val (.ref w0), .val (.ref w2), .val (.int (0 : Int32)), .val (.int (2 : Int32)), .val (.int (1 : Int32)), .val (.int (1 : Int32))] [(.int (1 : Int32))])) _
      exact ownRet X47 (v := some (.int (1 : Int32))) Bd.notSynchronized (fun h => by rw [Bd.returns] at h; cases h) (fun _ hr => retN X47 hx (t := .boolean) Bd.returns (by simp) (hb hby at_130) hr) (by rw [R47]; exact ⟨rfl, N47, rfl⟩) (by decide) (by decide)
  · rcases hj with hj | hj | hj
    · rw [hi]
      refine ownStep (fun _ k => XS.istoreN X0.here hx rfl (hb hby at_6) rfl (l' := #[.val (.int px), .val (.int py), .val (.int (1 : Int32)), .unset, .unset, .unset, .unset, .unset, .unset, .unset]) rfl k) ?_
      refine ownStep (fun _ k => XS.iloadN X0.here hx rfl (hb hby at_7) rfl  k) ?_
      show ownGo p.tables e below (s₁.setTop (mkF m 8 #[.val (.int px), .val (.int py), .val (.int (1 : Int32)), .unset, .unset, .unset, .unset, .unset, .unset, .unset] [(.int py)])) _
      refine ownStep (X0.ldcInt hx hown (mvT hZ (hw _ (List.mem_of_getElem? (i := 0) rfl))) (g := (mkF m 8 #[.val (.int px), .val (.int py), .val (.int (1 : Int32)), .unset, .unset, .unset, .unset, .unset, .unset, .unset] [(.int py)])) rfl (hb hby at_8)) ?_
      refine ownStep (fun _ k => XS.iand X0.here hx rfl (hb hby at_10) rfl k) ?_
      refine ownStep (fun _ k => XS.iconst X0.here hx rfl (hb hby at_11) k) ?_
      show ownGo p.tables e below (s₁.setTop (mkF m 12 #[.val (.int px), .val (.int py), .val (.int (1 : Int32)), .unset, .unset, .unset, .unset, .unset, .unset, .unset] [(.int (3 : Int32)), (.int (py &&& (2147483647 : Int32)))])) _
      refine ownStep (fun _ k => iremM X0 hx rfl (hb hby at_12) rfl (by decide) k) ?_
      show ownGo p.tables e below (s₁.setTop (mkF m 13 #[.val (.int px), .val (.int py), .val (.int (1 : Int32)), .unset, .unset, .unset, .unset, .unset, .unset, .unset] [(.int ((py &&& (2147483647 : Int32)) % (3 : Int32)))])) _
      rw [hj]
      refine ownStep (fun _ k => XS.istoreN X0.here hx rfl (hb hby at_13) rfl (l' := #[.val (.int px), .val (.int py), .val (.int (1 : Int32)), .val (.int (0 : Int32)), .unset, .unset, .unset, .unset, .unset, .unset]) rfl k) ?_
      refine ownStep (fun _ k => XS.iloadN X0.here hx rfl (hb hby at_14) rfl  k) ?_
      show ownGo p.tables e below (s₁.setTop (mkF m 15 #[.val (.int px), .val (.int py), .val (.int (1 : Int32)), .val (.int (0 : Int32)), .unset, .unset, .unset, .unset, .unset, .unset] [(.int (1 : Int32))])) _
      have Zs50 : n0 ≤ h0.size := Nat.le_trans Z0 KP0.1
      obtain ⟨_, _, ⟨T49, L49, k49, n49⟩, -, X49, ⟨Lc49, hQ49, l49, y49, z49⟩, st49⟩ := Jvm.LawKit.callS X0 hx (y := (⟨"com/example/fixd/fixd/client/LocationProviderStatusPinLaw", "pick", "(I)Lcom/example/fixd/fixd/location/Provider$Status;"⟩ : MethodName)) hown (mvT hZ (hw _ (List.mem_of_getElem? (i := 1) rfl))) (mvT hZ (hw _ (List.mem_of_getElem? (i := 2) rfl))) (mvT hZ (hw _ (List.mem_of_getElem? (i := 3) rfl))) (mvT hZ (hw _ (List.mem_of_getElem? (i := 4) rfl))) (by decide) (backOf (W := 0) (own_pick1 l Z a0 hw [] w0 w1 w2 sw cl h0 n0 Zs50 S0 S1 S2) hZ (hw _ (List.mem_of_getElem? (i := 4) rfl)) (hw _ (List.mem_of_getElem? (i := 3) rfl)) (by decide) (by decide)) (g := (mkF m 15 #[.val (.int px), .val (.int py), .val (.int (1 : Int32)), .val (.int (0 : Int32)), .unset, .unset, .unset, .unset, .unset, .unset] [(.int (1 : Int32))])) rfl (by rw [hml]; rfl) (argsL := [(.int (1 : Int32))]) (rest := []) (lenOf own_law_pd0 rfl) rfl (by show 2 * 0 + _ ≤ _; exact Nat.le_of_eq rfl) (hb hby at_15) (fun _ _ => ⟨rfl, e0, (by decide : 0 + 0 ≤ _), (by decide : 0 + 0 ≤ _)⟩)
      dsimp only [Pt.U, Pt.locs, Pt.cells, Pt.slots] at X49 l49 y49 z49 st49 hQ49
      subst l49 y49 z49
      obtain ⟨rfl, N49q, R49⟩ := hQ49
      have N49 := Fr.app N0 N49q
      refine ownStep (fun _ k => st49 _ k) ?_
      refine ownStep (fun _ k => XS.astore X49.here hx rfl (hb hby at_18) rfl rfl (l' := #[.val (.int px), .val (.int py), .val (.int (1 : Int32)), .val (.int (0 : Int32)), .val (.ref w1), .unset, .unset, .unset, .unset, .unset]) rfl k) ?_
      refine ownStep (fun _ k => XS.iloadN X49.here hx rfl (hb hby at_20) rfl  k) ?_
      show ownGo p.tables e below (T49.setTop (mkF m 21 #[.val (.int px), .val (.int py), .val (.int (1 : Int32)), .val (.int (0 : Int32)), .val (.ref w1), .unset, .unset, .unset, .unset, .unset] [(.int (0 : Int32))])) _
      have Zs52 : n0 ≤ h0.size := Nat.le_trans Z0 KP0.1
      obtain ⟨_, _, ⟨T51, L51, k51, n51⟩, -, X51, ⟨Lc51, hQ51, l51, y51, z51⟩, st51⟩ := Jvm.LawKit.callS X49 hx (y := (⟨"com/example/fixd/fixd/client/LocationProviderStatusPinLaw", "pick", "(I)Lcom/example/fixd/fixd/location/Provider$Status;"⟩ : MethodName)) hown (mvT hZ (hw _ (List.mem_of_getElem? (i := 1) rfl))) (mvT hZ (hw _ (List.mem_of_getElem? (i := 2) rfl))) (mvT hZ (hw _ (List.mem_of_getElem? (i := 3) rfl))) (mvT hZ (hw _ (List.mem_of_getElem? (i := 4) rfl))) (by decide) (backOf (W := 0) (own_pick0 l Z a0 hw [] w0 w1 w2 sw cl h0 n0 Zs52 S0 S1 S2) hZ (hw _ (List.mem_of_getElem? (i := 4) rfl)) (hw _ (List.mem_of_getElem? (i := 3) rfl)) (by decide) (by decide)) (g := (mkF m 21 #[.val (.int px), .val (.int py), .val (.int (1 : Int32)), .val (.int (0 : Int32)), .val (.ref w1), .unset, .unset, .unset, .unset, .unset] [(.int (0 : Int32))])) rfl (by rw [hml]; rfl) (argsL := [(.int (0 : Int32))]) (rest := []) (lenOf own_law_pd0 rfl) rfl (by show 2 * 0 + _ ≤ _; exact Nat.le_of_eq rfl) (hb hby at_21) (fun _ _ => ⟨rfl, R49, (by decide : 0 + 0 ≤ _), (by decide : 0 + 0 ≤ _)⟩)
      dsimp only [Pt.U, Pt.locs, Pt.cells, Pt.slots] at X51 l51 y51 z51 st51 hQ51
      subst l51 y51 z51
      obtain ⟨rfl, N51q, R51⟩ := hQ51
      have N51 := Fr.app N49 N51q
      refine ownStep (fun _ k => st51 _ k) ?_
      refine ownStep (fun _ k => XS.astore X51.here hx rfl (hb hby at_24) rfl rfl (l' := #[.val (.int px), .val (.int py), .val (.int (1 : Int32)), .val (.int (0 : Int32)), .val (.ref w1), .val (.ref w0), .unset, .unset, .unset, .unset]) rfl k) ?_
      refine ownStep (fun _ k => XS.aload X51.here hx rfl (hb hby at_26) rfl rfl k) ?_
      show ownGo p.tables e below (T51.setTop (mkF m 28 #[.val (.int px), .val (.int py), .val (.int (1 : Int32)), .val (.int (0 : Int32)), .val (.ref w1), .val (.ref w0), .unset, .unset, .unset, .unset] [(.ref w1)])) _
      have Zs54 : n0 ≤ h0.size := Nat.le_trans Z0 KP0.1
      obtain ⟨_, _, ⟨T53, L53, k53, n53⟩, -, X53, ⟨Lc53, hQ53, l53, y53, z53⟩, st53⟩ := Jvm.LawKit.callS X51 hx (y := (⟨"com/example/fixd/fixd/client/LocationProvider", "status", "(Lcom/example/fixd/fixd/location/Provider$Status;)I"⟩ : MethodName)) hown (mvT hZ (hw _ (List.mem_of_getElem? (i := 8) rfl))) (mvT hZ (hw _ (List.mem_of_getElem? (i := 9) rfl))) (mvT hZ (hw _ (List.mem_of_getElem? (i := 10) rfl))) (mvT hZ (hw _ (List.mem_of_getElem? (i := 11) rfl))) (by decide) (backOf (W := 0) (own_stat1 l Z a0 hw [] w0 w1 w2 sw cl h0 n0 Zs54 S0 S1 S2 E0 E1 E2 F0 F1 F2 Ssw Asw El0 El1 El2) hZ (hw _ (List.mem_of_getElem? (i := 11) rfl)) (hw _ (List.mem_of_getElem? (i := 10) rfl)) (by decide) (by decide)) (g := (mkF m 28 #[.val (.int px), .val (.int py), .val (.int (1 : Int32)), .val (.int (0 : Int32)), .val (.ref w1), .val (.ref w0), .unset, .unset, .unset, .unset] [(.ref w1)])) rfl (by rw [hml]; rfl) (argsL := [(.ref w1)]) (rest := []) (lenOf own_law_pd1 rfl) rfl (by show 2 * 0 + _ ≤ _; exact Nat.le_of_eq rfl) (hb hby at_28) (fun _ _ => ⟨rfl, R51, (by decide : 0 + 0 ≤ _), (by decide : 0 + 0 ≤ _)⟩)
      dsimp only [Pt.U, Pt.locs, Pt.cells, Pt.slots] at X53 l53 y53 z53 st53 hQ53
      subst l53 y53 z53
      obtain ⟨rfl, N53q, R53⟩ := hQ53
      have N53 := Fr.app N51 N53q
      refine ownStep (fun _ k => st53 _ k) ?_
      refine ownStep (fun _ k => XS.istore X53.here hx rfl (hb hby at_31) rfl (l' := #[.val (.int px), .val (.int py), .val (.int (1 : Int32)), .val (.int (0 : Int32)), .val (.ref w1), .val (.ref w0), .val (.int (1 : Int32)), .unset, .unset, .unset]) rfl k) ?_
      refine ownStep (fun _ k => XS.aload X53.here hx rfl (hb hby at_33) rfl rfl k) ?_
      show ownGo p.tables e below (T53.setTop (mkF m 35 #[.val (.int px), .val (.int py), .val (.int (1 : Int32)), .val (.int (0 : Int32)), .val (.ref w1), .val (.ref w0), .val (.int (1 : Int32)), .unset, .unset, .unset] [(.ref w0)])) _
      have Zs56 : n0 ≤ h0.size := Nat.le_trans Z0 KP0.1
      obtain ⟨_, _, ⟨T55, L55, k55, n55⟩, -, X55, ⟨Lc55, hQ55, l55, y55, z55⟩, st55⟩ := Jvm.LawKit.callS X53 hx (y := (⟨"com/example/fixd/fixd/client/LocationProvider", "status", "(Lcom/example/fixd/fixd/location/Provider$Status;)I"⟩ : MethodName)) hown (mvT hZ (hw _ (List.mem_of_getElem? (i := 8) rfl))) (mvT hZ (hw _ (List.mem_of_getElem? (i := 9) rfl))) (mvT hZ (hw _ (List.mem_of_getElem? (i := 10) rfl))) (mvT hZ (hw _ (List.mem_of_getElem? (i := 11) rfl))) (by decide) (backOf (W := 0) (own_stat0 l Z a0 hw [] w0 w1 w2 sw cl h0 n0 Zs56 S0 S1 S2 E0 E1 E2 F0 F1 F2 Ssw Asw El0 El1 El2) hZ (hw _ (List.mem_of_getElem? (i := 11) rfl)) (hw _ (List.mem_of_getElem? (i := 10) rfl)) (by decide) (by decide)) (g := (mkF m 35 #[.val (.int px), .val (.int py), .val (.int (1 : Int32)), .val (.int (0 : Int32)), .val (.ref w1), .val (.ref w0), .val (.int (1 : Int32)), .unset, .unset, .unset] [(.ref w0)])) rfl (by rw [hml]; rfl) (argsL := [(.ref w0)]) (rest := []) (lenOf own_law_pd1 rfl) rfl (by show 2 * 0 + _ ≤ _; exact Nat.le_of_eq rfl) (hb hby at_35) (fun _ _ => ⟨rfl, R53, (by decide : 0 + 0 ≤ _), (by decide : 0 + 0 ≤ _)⟩)
      dsimp only [Pt.U, Pt.locs, Pt.cells, Pt.slots] at X55 l55 y55 z55 st55 hQ55
      subst l55 y55 z55
      obtain ⟨rfl, N55q, R55⟩ := hQ55
      have N55 := Fr.app N53 N55q
      refine ownStep (fun _ k => st55 _ k) ?_
      refine ownStep (fun _ k => XS.istore X55.here hx rfl (hb hby at_38) rfl (l' := #[.val (.int px), .val (.int py), .val (.int (1 : Int32)), .val (.int (0 : Int32)), .val (.ref w1), .val (.ref w0), .val (.int (1 : Int32)), .val (.int (0 : Int32)), .unset, .unset]) rfl k) ?_
      refine ownStep (fun _ k => XS.iload X55.here hx rfl (hb hby at_40) rfl  k) ?_
      refine ownStep (fun _ k => XS.iloadN X55.here hx rfl (hb hby at_42) rfl  k) ?_
      show ownGo p.tables e below (T55.setTop (mkF m 43 #[.val (.int px), .val (.int py), .val (.int (1 : Int32)), .val (.int (0 : Int32)), .val (.ref w1), .val (.ref w0), .val (.int (1 : Int32)), .val (.int (0 : Int32)), .unset, .unset] [(.int (1 : Int32)), (.int (1 : Int32))])) _
      have Zs58 : n0 ≤ h0.size := Nat.le_trans Z0 KP0.1
      obtain ⟨_, _, ⟨T57, L57, k57, n57⟩, -, X57, ⟨Lc57, hQ57, l57, y57, z57⟩, st57⟩ := Jvm.LawKit.callS X55 hx (y := (⟨"com/example/fixd/fixd/client/LocationProviderStatusPinLaw", "expected", "(I)I"⟩ : MethodName)) hown (mvT hZ (hw _ (List.mem_of_getElem? (i := 24) rfl))) (mvT hZ (hw _ (List.mem_of_getElem? (i := 25) rfl))) (mvT hZ (hw _ (List.mem_of_getElem? (i := 3) rfl))) (mvT hZ (hw _ (List.mem_of_getElem? (i := 26) rfl))) (by decide) (backOf (W := 1) (own_exp1 l Z a0 hw []  h0 n0 Zs58 ) hZ (hw _ (List.mem_of_getElem? (i := 26) rfl)) (hw _ (List.mem_of_getElem? (i := 3) rfl)) (by decide) (by decide)) (g := (mkF m 43 #[.val (.int px), .val (.int py), .val (.int (1 : Int32)), .val (.int (0 : Int32)), .val (.ref w1), .val (.ref w0), .val (.int (1 : Int32)), .val (.int (0 : Int32)), .unset, .unset] [(.int (1 : Int32)), (.int (1 : Int32))])) rfl (by rw [hml]; rfl) (argsL := [(.int (1 : Int32))]) (rest := [(.int (1 : Int32))]) (lenOf own_law_pd2 rfl) rfl (by show 2 * 0 + _ ≤ _; exact Nat.le_of_eq rfl) (hb hby at_43) (fun _ _ => ⟨rfl, R55, (by decide : 0 + 0 ≤ _), (by decide : 0 + 0 ≤ _)⟩)
      dsimp only [Pt.U, Pt.locs, Pt.cells, Pt.slots] at X57 l57 y57 z57 st57 hQ57
      subst l57 y57 z57
      obtain ⟨rfl, N57q, R57⟩ := hQ57
      have N57 := Fr.app N55 N57q
      refine ownStep (fun _ k => st57 _ k) ?_
      refine ownStep (fun _ k => XS.icmpNo X57.here hx rfl (hb hby at_46) rfl (teq (by decide : (1 : Int32) = (1 : Int32))).2 k) ?_
      refine ownStep (fun _ k => XS.iload X57.here hx rfl (hb hby at_49) rfl  k) ?_
      refine ownStep (fun _ k => XS.iloadN X57.here hx rfl (hb hby at_51) rfl  k) ?_
      show ownGo p.tables e below (T57.setTop (mkF m 52 #[.val (.int px), .val (.int py), .val (.int (1 : Int32)), .val (.int (0 : Int32)), .val (.ref w1), .val (.ref w0), .val (.int (1 : Int32)), .val (.int (0 : Int32)), .unset, .unset] [(.int (1 : Int32)), (.int (1 : Int32))])) _
      have Zs60 : n0 ≤ h0.size := Nat.le_trans Z0 KP0.1
      obtain ⟨_, _, ⟨T59, L59, k59, n59⟩, -, X59, ⟨Lc59, hQ59, l59, y59, z59⟩, st59⟩ := Jvm.LawKit.callS X57 hx (y := (⟨"com/example/fixd/fixd/client/LocationProviderStatusPinLaw", "named", "(I)I"⟩ : MethodName)) hown (mvT hZ (hw _ (List.mem_of_getElem? (i := 27) rfl))) (mvT hZ (hw _ (List.mem_of_getElem? (i := 28) rfl))) (mvT hZ (hw _ (List.mem_of_getElem? (i := 3) rfl))) (mvT hZ (hw _ (List.mem_of_getElem? (i := 29) rfl))) (by decide) (backOf (W := 1) (own_named1 l Z a0 hw []  h0 n0 Zs60 ) hZ (hw _ (List.mem_of_getElem? (i := 29) rfl)) (hw _ (List.mem_of_getElem? (i := 3) rfl)) (by decide) (by decide)) (g := (mkF m 52 #[.val (.int px), .val (.int py), .val (.int (1 : Int32)), .val (.int (0 : Int32)), .val (.ref w1), .val (.ref w0), .val (.int (1 : Int32)), .val (.int (0 : Int32)), .unset, .unset] [(.int (1 : Int32)), (.int (1 : Int32))])) rfl (by rw [hml]; rfl) (argsL := [(.int (1 : Int32))]) (rest := [(.int (1 : Int32))]) (lenOf own_law_pd2 rfl) rfl (by show 2 * 0 + _ ≤ _; exact Nat.le_of_eq rfl) (hb hby at_52) (fun _ _ => ⟨rfl, R57, (by decide : 0 + 0 ≤ _), (by decide : 0 + 0 ≤ _)⟩)
      dsimp only [Pt.U, Pt.locs, Pt.cells, Pt.slots] at X59 l59 y59 z59 st59 hQ59
      subst l59 y59 z59
      obtain ⟨rfl, N59q, R59⟩ := hQ59
      have N59 := Fr.app N57 N59q
      refine ownStep (fun _ k => st59 _ k) ?_
      refine ownStep (fun _ k => XS.icmpNo X59.here hx rfl (hb hby at_55) rfl (teq (by decide : (1 : Int32) = (1 : Int32))).2 k) ?_
      refine ownStep (fun _ k => XS.iload X59.here hx rfl (hb hby at_58) rfl  k) ?_
      refine ownStep (fun _ k => XS.iloadN X59.here hx rfl (hb hby at_60) rfl  k) ?_
      show ownGo p.tables e below (T59.setTop (mkF m 61 #[.val (.int px), .val (.int py), .val (.int (1 : Int32)), .val (.int (0 : Int32)), .val (.ref w1), .val (.ref w0), .val (.int (1 : Int32)), .val (.int (0 : Int32)), .unset, .unset] [(.int (0 : Int32)), (.int (0 : Int32))])) _
      have Zs62 : n0 ≤ h0.size := Nat.le_trans Z0 KP0.1
      obtain ⟨_, _, ⟨T61, L61, k61, n61⟩, -, X61, ⟨Lc61, hQ61, l61, y61, z61⟩, st61⟩ := Jvm.LawKit.callS X59 hx (y := (⟨"com/example/fixd/fixd/client/LocationProviderStatusPinLaw", "expected", "(I)I"⟩ : MethodName)) hown (mvT hZ (hw _ (List.mem_of_getElem? (i := 24) rfl))) (mvT hZ (hw _ (List.mem_of_getElem? (i := 25) rfl))) (mvT hZ (hw _ (List.mem_of_getElem? (i := 3) rfl))) (mvT hZ (hw _ (List.mem_of_getElem? (i := 26) rfl))) (by decide) (backOf (W := 1) (own_exp0 l Z a0 hw []  h0 n0 Zs62 ) hZ (hw _ (List.mem_of_getElem? (i := 26) rfl)) (hw _ (List.mem_of_getElem? (i := 3) rfl)) (by decide) (by decide)) (g := (mkF m 61 #[.val (.int px), .val (.int py), .val (.int (1 : Int32)), .val (.int (0 : Int32)), .val (.ref w1), .val (.ref w0), .val (.int (1 : Int32)), .val (.int (0 : Int32)), .unset, .unset] [(.int (0 : Int32)), (.int (0 : Int32))])) rfl (by rw [hml]; rfl) (argsL := [(.int (0 : Int32))]) (rest := [(.int (0 : Int32))]) (lenOf own_law_pd2 rfl) rfl (by show 2 * 0 + _ ≤ _; exact Nat.le_of_eq rfl) (hb hby at_61) (fun _ _ => ⟨rfl, R59, (by decide : 0 + 0 ≤ _), (by decide : 0 + 0 ≤ _)⟩)
      dsimp only [Pt.U, Pt.locs, Pt.cells, Pt.slots] at X61 l61 y61 z61 st61 hQ61
      subst l61 y61 z61
      obtain ⟨rfl, N61q, R61⟩ := hQ61
      have N61 := Fr.app N59 N61q
      refine ownStep (fun _ k => st61 _ k) ?_
      refine ownStep (fun _ k => XS.icmpNo X61.here hx rfl (hb hby at_64) rfl (teq (by decide : (0 : Int32) = (0 : Int32))).2 k) ?_
      refine ownStep (fun _ k => XS.iload X61.here hx rfl (hb hby at_67) rfl  k) ?_
      refine ownStep (fun _ k => XS.iloadN X61.here hx rfl (hb hby at_69) rfl  k) ?_
      show ownGo p.tables e below (T61.setTop (mkF m 70 #[.val (.int px), .val (.int py), .val (.int (1 : Int32)), .val (.int (0 : Int32)), .val (.ref w1), .val (.ref w0), .val (.int (1 : Int32)), .val (.int (0 : Int32)), .unset, .unset] [(.int (0 : Int32)), (.int (0 : Int32))])) _
      have Zs64 : n0 ≤ h0.size := Nat.le_trans Z0 KP0.1
      obtain ⟨_, _, ⟨T63, L63, k63, n63⟩, -, X63, ⟨Lc63, hQ63, l63, y63, z63⟩, st63⟩ := Jvm.LawKit.callS X61 hx (y := (⟨"com/example/fixd/fixd/client/LocationProviderStatusPinLaw", "named", "(I)I"⟩ : MethodName)) hown (mvT hZ (hw _ (List.mem_of_getElem? (i := 27) rfl))) (mvT hZ (hw _ (List.mem_of_getElem? (i := 28) rfl))) (mvT hZ (hw _ (List.mem_of_getElem? (i := 3) rfl))) (mvT hZ (hw _ (List.mem_of_getElem? (i := 29) rfl))) (by decide) (backOf (W := 1) (own_named0 l Z a0 hw []  h0 n0 Zs64 ) hZ (hw _ (List.mem_of_getElem? (i := 29) rfl)) (hw _ (List.mem_of_getElem? (i := 3) rfl)) (by decide) (by decide)) (g := (mkF m 70 #[.val (.int px), .val (.int py), .val (.int (1 : Int32)), .val (.int (0 : Int32)), .val (.ref w1), .val (.ref w0), .val (.int (1 : Int32)), .val (.int (0 : Int32)), .unset, .unset] [(.int (0 : Int32)), (.int (0 : Int32))])) rfl (by rw [hml]; rfl) (argsL := [(.int (0 : Int32))]) (rest := [(.int (0 : Int32))]) (lenOf own_law_pd2 rfl) rfl (by show 2 * 0 + _ ≤ _; exact Nat.le_of_eq rfl) (hb hby at_70) (fun _ _ => ⟨rfl, R61, (by decide : 0 + 0 ≤ _), (by decide : 0 + 0 ≤ _)⟩)
      dsimp only [Pt.U, Pt.locs, Pt.cells, Pt.slots] at X63 l63 y63 z63 st63 hQ63
      subst l63 y63 z63
      obtain ⟨rfl, N63q, R63⟩ := hQ63
      have N63 := Fr.app N61 N63q
      refine ownStep (fun _ k => st63 _ k) ?_
      refine ownStep (fun _ k => XS.icmpNo X63.here hx rfl (hb hby at_73) rfl (teq (by decide : (0 : Int32) = (0 : Int32))).2 k) ?_
      refine ownStep (fun _ k => XS.iconst X63.here hx rfl (hb hby at_76) k) ?_
      refine ownStep (fun _ k => XS.goto X63.here hx rfl (pc0 := 77) (pc' := 81) rfl (hb hby at_77) (by decide) (by decide) k) ?_
      refine ownStep (fun _ k => XS.istore X63.here hx rfl (hb hby at_81) rfl (l' := #[.val (.int px), .val (.int py), .val (.int (1 : Int32)), .val (.int (0 : Int32)), .val (.ref w1), .val (.ref w0), .val (.int (1 : Int32)), .val (.int (0 : Int32)), .val (.int (1 : Int32)), .unset]) rfl k) ?_
      show ownGo p.tables e below (T63.setTop (mkF m 83 #[.val (.int px), .val (.int py), .val (.int (1 : Int32)), .val (.int (0 : Int32)), .val (.ref w1), .val (.ref w0), .val (.int (1 : Int32)), .val (.int (0 : Int32)), .val (.int (1 : Int32)), .unset] [])) _
      refine ownStep (fun _ k => XS.iload X63.here hx rfl (hb hby at_83) rfl  k) ?_
      refine ownStep (fun _ k => XS.iload X63.here hx rfl (hb hby at_85) rfl  k) ?_
      refine ownStep (fun _ k => XS.icmpYes X63.here hx rfl (pc0 := 87) (pc' := 94) rfl (hb hby at_87) rfl (feq (by decide : ¬ (1 : Int32) = (0 : Int32))).2 (by decide) (by decide) k) ?_
      refine ownStep (fun _ k => XS.iconst X63.here hx rfl (hb hby at_94) k) ?_
      refine ownStep (fun _ k => XS.iloadN X63.here hx rfl (hb hby at_95) rfl  k) ?_
      show ownGo p.tables e below (T63.setTop (mkF m 96 #[.val (.int px), .val (.int py), .val (.int (1 : Int32)), .val (.int (0 : Int32)), .val (.ref w1), .val (.ref w0), .val (.int (1 : Int32)), .val (.int (0 : Int32)), .val (.int (1 : Int32)), .unset] [(.int (1 : Int32)), (.int (0 : Int32))])) _
      refine ownStep (fun _ k => XS.iloadN X63.here hx rfl (hb hby at_96) rfl  k) ?_
      refine ownStep (fun _ k => XS.icmpYes X63.here hx rfl (pc0 := 97) (pc' := 104) rfl (hb hby at_97) rfl (feq (by decide : ¬ (1 : Int32) = (0 : Int32))).2 (by decide) (by decide) k) ?_
      refine ownStep (fun _ k => XS.iconst X63.here hx rfl (hb hby at_104) k) ?_
      refine ownStep (fun _ k => XS.icmpNo X63.here hx rfl (hb hby at_105) rfl (teq (by decide : (0 : Int32) = (0 : Int32))).2 k) ?_
      refine ownStep (fun _ k => XS.iconst X63.here hx rfl (hb hby at_108) k) ?_
      show ownGo p.tables e below (T63.setTop (mkF m 109 #[.val (.int px), .val (.int py), .val (.int (1 : Int32)), .val (.int (0 : Int32)), .val (.ref w1), .val (.ref w0), .val (.int (1 : Int32)), .val (.int (0 : Int32)), .val (.int (1 : Int32)), .unset] [(.int (1 : Int32))])) _
      refine ownStep (fun _ k => XS.goto X63.here hx rfl (pc0 := 109) (pc' := 113) rfl (hb hby at_109) (by decide) (by decide) k) ?_
      refine ownStep (fun _ k => XS.istore X63.here hx rfl (hb hby at_113) rfl (l' := #[.val (.int px), .val (.int py), .val (.int (1 : Int32)), .val (.int (0 : Int32)), .val (.ref w1), .val (.ref w0), .val (.int (1 : Int32)), .val (.int (0 : Int32)), .val (.int (1 : Int32)), .val (.int (1 : Int32))]) rfl k) ?_
      refine ownStep (fun _ k => XS.iload X63.here hx rfl (hb hby at_115) rfl  k) ?_
      refine ownStep (fun _ k => XS.ifNo X63.here hx rfl (hb hby at_117) rfl ((if0 _ _).trans (feq (by decide : ¬ (1 : Int32) = (0 : Int32))).1) k) ?_
      refine ownStep (fun _ k => XS.iload X63.here hx rfl (hb hby at_120) rfl  k) ?_
      show ownGo p.tables e below (T63.setTop (mkF m 122 #[.val (.int px), .val (.int py), .val (.int (1 : Int32)), .val (.int (0 : Int32)), .val (.ref w1), .val (.ref w0), .val (.int (1 : Int32)), .val (.int (0 : Int32)), .val (.int (1 : Int32)), .val (.int (1 : Int32))] [(.int (1 : Int32))])) _
      refine ownStep (fun _ k => XS.ifNo X63.here hx rfl (hb hby at_122) rfl ((if0 _ _).trans (feq (by decide : ¬ (1 : Int32) = (0 : Int32))).1) k) ?_
      refine ownStep (fun _ k => XS.iconst X63.here hx rfl (hb hby at_125) k) ?_
      refine ownStep (fun _ k => XS.goto X63.here hx rfl (pc0 := 126) (pc' := 130) rfl (hb hby at_126) (by decide) (by decide) k) ?_
      show ownGo p.tables e below (T63.setTop (mkF m 130 #[.val (.int px), .val (.int py), .val (.int (1 : Int32)), .val (.int (0 : Int32)), .val (.ref w1), .val (.ref w0), .val (.int (1 : Int32)), .val (.int (0 : Int32)), .val (.int (1 : Int32)), .val (.int (1 : Int32))] [(.int (1 : Int32))])) _
      exact ownRet X63 (v := some (.int (1 : Int32))) Bd.notSynchronized (fun h => by rw [Bd.returns] at h; cases h) (fun _ hr => retN X63 hx (t := .boolean) Bd.returns (by simp) (hb hby at_130) hr) (by rw [R63]; exact ⟨rfl, N63, rfl⟩) (by decide) (by decide)
    · rw [hi]
      refine ownStep (fun _ k => XS.istoreN X0.here hx rfl (hb hby at_6) rfl (l' := #[.val (.int px), .val (.int py), .val (.int (1 : Int32)), .unset, .unset, .unset, .unset, .unset, .unset, .unset]) rfl k) ?_
      refine ownStep (fun _ k => XS.iloadN X0.here hx rfl (hb hby at_7) rfl  k) ?_
      show ownGo p.tables e below (s₁.setTop (mkF m 8 #[.val (.int px), .val (.int py), .val (.int (1 : Int32)), .unset, .unset, .unset, .unset, .unset, .unset, .unset] [(.int py)])) _
      refine ownStep (X0.ldcInt hx hown (mvT hZ (hw _ (List.mem_of_getElem? (i := 0) rfl))) (g := (mkF m 8 #[.val (.int px), .val (.int py), .val (.int (1 : Int32)), .unset, .unset, .unset, .unset, .unset, .unset, .unset] [(.int py)])) rfl (hb hby at_8)) ?_
      refine ownStep (fun _ k => XS.iand X0.here hx rfl (hb hby at_10) rfl k) ?_
      refine ownStep (fun _ k => XS.iconst X0.here hx rfl (hb hby at_11) k) ?_
      show ownGo p.tables e below (s₁.setTop (mkF m 12 #[.val (.int px), .val (.int py), .val (.int (1 : Int32)), .unset, .unset, .unset, .unset, .unset, .unset, .unset] [(.int (3 : Int32)), (.int (py &&& (2147483647 : Int32)))])) _
      refine ownStep (fun _ k => iremM X0 hx rfl (hb hby at_12) rfl (by decide) k) ?_
      show ownGo p.tables e below (s₁.setTop (mkF m 13 #[.val (.int px), .val (.int py), .val (.int (1 : Int32)), .unset, .unset, .unset, .unset, .unset, .unset, .unset] [(.int ((py &&& (2147483647 : Int32)) % (3 : Int32)))])) _
      rw [hj]
      refine ownStep (fun _ k => XS.istoreN X0.here hx rfl (hb hby at_13) rfl (l' := #[.val (.int px), .val (.int py), .val (.int (1 : Int32)), .val (.int (1 : Int32)), .unset, .unset, .unset, .unset, .unset, .unset]) rfl k) ?_
      refine ownStep (fun _ k => XS.iloadN X0.here hx rfl (hb hby at_14) rfl  k) ?_
      show ownGo p.tables e below (s₁.setTop (mkF m 15 #[.val (.int px), .val (.int py), .val (.int (1 : Int32)), .val (.int (1 : Int32)), .unset, .unset, .unset, .unset, .unset, .unset] [(.int (1 : Int32))])) _
      have Zs66 : n0 ≤ h0.size := Nat.le_trans Z0 KP0.1
      obtain ⟨_, _, ⟨T65, L65, k65, n65⟩, -, X65, ⟨Lc65, hQ65, l65, y65, z65⟩, st65⟩ := Jvm.LawKit.callS X0 hx (y := (⟨"com/example/fixd/fixd/client/LocationProviderStatusPinLaw", "pick", "(I)Lcom/example/fixd/fixd/location/Provider$Status;"⟩ : MethodName)) hown (mvT hZ (hw _ (List.mem_of_getElem? (i := 1) rfl))) (mvT hZ (hw _ (List.mem_of_getElem? (i := 2) rfl))) (mvT hZ (hw _ (List.mem_of_getElem? (i := 3) rfl))) (mvT hZ (hw _ (List.mem_of_getElem? (i := 4) rfl))) (by decide) (backOf (W := 0) (own_pick1 l Z a0 hw [] w0 w1 w2 sw cl h0 n0 Zs66 S0 S1 S2) hZ (hw _ (List.mem_of_getElem? (i := 4) rfl)) (hw _ (List.mem_of_getElem? (i := 3) rfl)) (by decide) (by decide)) (g := (mkF m 15 #[.val (.int px), .val (.int py), .val (.int (1 : Int32)), .val (.int (1 : Int32)), .unset, .unset, .unset, .unset, .unset, .unset] [(.int (1 : Int32))])) rfl (by rw [hml]; rfl) (argsL := [(.int (1 : Int32))]) (rest := []) (lenOf own_law_pd0 rfl) rfl (by show 2 * 0 + _ ≤ _; exact Nat.le_of_eq rfl) (hb hby at_15) (fun _ _ => ⟨rfl, e0, (by decide : 0 + 0 ≤ _), (by decide : 0 + 0 ≤ _)⟩)
      dsimp only [Pt.U, Pt.locs, Pt.cells, Pt.slots] at X65 l65 y65 z65 st65 hQ65
      subst l65 y65 z65
      obtain ⟨rfl, N65q, R65⟩ := hQ65
      have N65 := Fr.app N0 N65q
      refine ownStep (fun _ k => st65 _ k) ?_
      refine ownStep (fun _ k => XS.astore X65.here hx rfl (hb hby at_18) rfl rfl (l' := #[.val (.int px), .val (.int py), .val (.int (1 : Int32)), .val (.int (1 : Int32)), .val (.ref w1), .unset, .unset, .unset, .unset, .unset]) rfl k) ?_
      refine ownStep (fun _ k => XS.iloadN X65.here hx rfl (hb hby at_20) rfl  k) ?_
      show ownGo p.tables e below (T65.setTop (mkF m 21 #[.val (.int px), .val (.int py), .val (.int (1 : Int32)), .val (.int (1 : Int32)), .val (.ref w1), .unset, .unset, .unset, .unset, .unset] [(.int (1 : Int32))])) _
      have Zs68 : n0 ≤ h0.size := Nat.le_trans Z0 KP0.1
      obtain ⟨_, _, ⟨T67, L67, k67, n67⟩, -, X67, ⟨Lc67, hQ67, l67, y67, z67⟩, st67⟩ := Jvm.LawKit.callS X65 hx (y := (⟨"com/example/fixd/fixd/client/LocationProviderStatusPinLaw", "pick", "(I)Lcom/example/fixd/fixd/location/Provider$Status;"⟩ : MethodName)) hown (mvT hZ (hw _ (List.mem_of_getElem? (i := 1) rfl))) (mvT hZ (hw _ (List.mem_of_getElem? (i := 2) rfl))) (mvT hZ (hw _ (List.mem_of_getElem? (i := 3) rfl))) (mvT hZ (hw _ (List.mem_of_getElem? (i := 4) rfl))) (by decide) (backOf (W := 0) (own_pick1 l Z a0 hw [] w0 w1 w2 sw cl h0 n0 Zs68 S0 S1 S2) hZ (hw _ (List.mem_of_getElem? (i := 4) rfl)) (hw _ (List.mem_of_getElem? (i := 3) rfl)) (by decide) (by decide)) (g := (mkF m 21 #[.val (.int px), .val (.int py), .val (.int (1 : Int32)), .val (.int (1 : Int32)), .val (.ref w1), .unset, .unset, .unset, .unset, .unset] [(.int (1 : Int32))])) rfl (by rw [hml]; rfl) (argsL := [(.int (1 : Int32))]) (rest := []) (lenOf own_law_pd0 rfl) rfl (by show 2 * 0 + _ ≤ _; exact Nat.le_of_eq rfl) (hb hby at_21) (fun _ _ => ⟨rfl, R65, (by decide : 0 + 0 ≤ _), (by decide : 0 + 0 ≤ _)⟩)
      dsimp only [Pt.U, Pt.locs, Pt.cells, Pt.slots] at X67 l67 y67 z67 st67 hQ67
      subst l67 y67 z67
      obtain ⟨rfl, N67q, R67⟩ := hQ67
      have N67 := Fr.app N65 N67q
      refine ownStep (fun _ k => st67 _ k) ?_
      refine ownStep (fun _ k => XS.astore X67.here hx rfl (hb hby at_24) rfl rfl (l' := #[.val (.int px), .val (.int py), .val (.int (1 : Int32)), .val (.int (1 : Int32)), .val (.ref w1), .val (.ref w1), .unset, .unset, .unset, .unset]) rfl k) ?_
      refine ownStep (fun _ k => XS.aload X67.here hx rfl (hb hby at_26) rfl rfl k) ?_
      show ownGo p.tables e below (T67.setTop (mkF m 28 #[.val (.int px), .val (.int py), .val (.int (1 : Int32)), .val (.int (1 : Int32)), .val (.ref w1), .val (.ref w1), .unset, .unset, .unset, .unset] [(.ref w1)])) _
      have Zs70 : n0 ≤ h0.size := Nat.le_trans Z0 KP0.1
      obtain ⟨_, _, ⟨T69, L69, k69, n69⟩, -, X69, ⟨Lc69, hQ69, l69, y69, z69⟩, st69⟩ := Jvm.LawKit.callS X67 hx (y := (⟨"com/example/fixd/fixd/client/LocationProvider", "status", "(Lcom/example/fixd/fixd/location/Provider$Status;)I"⟩ : MethodName)) hown (mvT hZ (hw _ (List.mem_of_getElem? (i := 8) rfl))) (mvT hZ (hw _ (List.mem_of_getElem? (i := 9) rfl))) (mvT hZ (hw _ (List.mem_of_getElem? (i := 10) rfl))) (mvT hZ (hw _ (List.mem_of_getElem? (i := 11) rfl))) (by decide) (backOf (W := 0) (own_stat1 l Z a0 hw [] w0 w1 w2 sw cl h0 n0 Zs70 S0 S1 S2 E0 E1 E2 F0 F1 F2 Ssw Asw El0 El1 El2) hZ (hw _ (List.mem_of_getElem? (i := 11) rfl)) (hw _ (List.mem_of_getElem? (i := 10) rfl)) (by decide) (by decide)) (g := (mkF m 28 #[.val (.int px), .val (.int py), .val (.int (1 : Int32)), .val (.int (1 : Int32)), .val (.ref w1), .val (.ref w1), .unset, .unset, .unset, .unset] [(.ref w1)])) rfl (by rw [hml]; rfl) (argsL := [(.ref w1)]) (rest := []) (lenOf own_law_pd1 rfl) rfl (by show 2 * 0 + _ ≤ _; exact Nat.le_of_eq rfl) (hb hby at_28) (fun _ _ => ⟨rfl, R67, (by decide : 0 + 0 ≤ _), (by decide : 0 + 0 ≤ _)⟩)
      dsimp only [Pt.U, Pt.locs, Pt.cells, Pt.slots] at X69 l69 y69 z69 st69 hQ69
      subst l69 y69 z69
      obtain ⟨rfl, N69q, R69⟩ := hQ69
      have N69 := Fr.app N67 N69q
      refine ownStep (fun _ k => st69 _ k) ?_
      refine ownStep (fun _ k => XS.istore X69.here hx rfl (hb hby at_31) rfl (l' := #[.val (.int px), .val (.int py), .val (.int (1 : Int32)), .val (.int (1 : Int32)), .val (.ref w1), .val (.ref w1), .val (.int (1 : Int32)), .unset, .unset, .unset]) rfl k) ?_
      refine ownStep (fun _ k => XS.aload X69.here hx rfl (hb hby at_33) rfl rfl k) ?_
      show ownGo p.tables e below (T69.setTop (mkF m 35 #[.val (.int px), .val (.int py), .val (.int (1 : Int32)), .val (.int (1 : Int32)), .val (.ref w1), .val (.ref w1), .val (.int (1 : Int32)), .unset, .unset, .unset] [(.ref w1)])) _
      have Zs72 : n0 ≤ h0.size := Nat.le_trans Z0 KP0.1
      obtain ⟨_, _, ⟨T71, L71, k71, n71⟩, -, X71, ⟨Lc71, hQ71, l71, y71, z71⟩, st71⟩ := Jvm.LawKit.callS X69 hx (y := (⟨"com/example/fixd/fixd/client/LocationProvider", "status", "(Lcom/example/fixd/fixd/location/Provider$Status;)I"⟩ : MethodName)) hown (mvT hZ (hw _ (List.mem_of_getElem? (i := 8) rfl))) (mvT hZ (hw _ (List.mem_of_getElem? (i := 9) rfl))) (mvT hZ (hw _ (List.mem_of_getElem? (i := 10) rfl))) (mvT hZ (hw _ (List.mem_of_getElem? (i := 11) rfl))) (by decide) (backOf (W := 0) (own_stat1 l Z a0 hw [] w0 w1 w2 sw cl h0 n0 Zs72 S0 S1 S2 E0 E1 E2 F0 F1 F2 Ssw Asw El0 El1 El2) hZ (hw _ (List.mem_of_getElem? (i := 11) rfl)) (hw _ (List.mem_of_getElem? (i := 10) rfl)) (by decide) (by decide)) (g := (mkF m 35 #[.val (.int px), .val (.int py), .val (.int (1 : Int32)), .val (.int (1 : Int32)), .val (.ref w1), .val (.ref w1), .val (.int (1 : Int32)), .unset, .unset, .unset] [(.ref w1)])) rfl (by rw [hml]; rfl) (argsL := [(.ref w1)]) (rest := []) (lenOf own_law_pd1 rfl) rfl (by show 2 * 0 + _ ≤ _; exact Nat.le_of_eq rfl) (hb hby at_35) (fun _ _ => ⟨rfl, R69, (by decide : 0 + 0 ≤ _), (by decide : 0 + 0 ≤ _)⟩)
      dsimp only [Pt.U, Pt.locs, Pt.cells, Pt.slots] at X71 l71 y71 z71 st71 hQ71
      subst l71 y71 z71
      obtain ⟨rfl, N71q, R71⟩ := hQ71
      have N71 := Fr.app N69 N71q
      refine ownStep (fun _ k => st71 _ k) ?_
      refine ownStep (fun _ k => XS.istore X71.here hx rfl (hb hby at_38) rfl (l' := #[.val (.int px), .val (.int py), .val (.int (1 : Int32)), .val (.int (1 : Int32)), .val (.ref w1), .val (.ref w1), .val (.int (1 : Int32)), .val (.int (1 : Int32)), .unset, .unset]) rfl k) ?_
      refine ownStep (fun _ k => XS.iload X71.here hx rfl (hb hby at_40) rfl  k) ?_
      refine ownStep (fun _ k => XS.iloadN X71.here hx rfl (hb hby at_42) rfl  k) ?_
      show ownGo p.tables e below (T71.setTop (mkF m 43 #[.val (.int px), .val (.int py), .val (.int (1 : Int32)), .val (.int (1 : Int32)), .val (.ref w1), .val (.ref w1), .val (.int (1 : Int32)), .val (.int (1 : Int32)), .unset, .unset] [(.int (1 : Int32)), (.int (1 : Int32))])) _
      have Zs74 : n0 ≤ h0.size := Nat.le_trans Z0 KP0.1
      obtain ⟨_, _, ⟨T73, L73, k73, n73⟩, -, X73, ⟨Lc73, hQ73, l73, y73, z73⟩, st73⟩ := Jvm.LawKit.callS X71 hx (y := (⟨"com/example/fixd/fixd/client/LocationProviderStatusPinLaw", "expected", "(I)I"⟩ : MethodName)) hown (mvT hZ (hw _ (List.mem_of_getElem? (i := 24) rfl))) (mvT hZ (hw _ (List.mem_of_getElem? (i := 25) rfl))) (mvT hZ (hw _ (List.mem_of_getElem? (i := 3) rfl))) (mvT hZ (hw _ (List.mem_of_getElem? (i := 26) rfl))) (by decide) (backOf (W := 1) (own_exp1 l Z a0 hw []  h0 n0 Zs74 ) hZ (hw _ (List.mem_of_getElem? (i := 26) rfl)) (hw _ (List.mem_of_getElem? (i := 3) rfl)) (by decide) (by decide)) (g := (mkF m 43 #[.val (.int px), .val (.int py), .val (.int (1 : Int32)), .val (.int (1 : Int32)), .val (.ref w1), .val (.ref w1), .val (.int (1 : Int32)), .val (.int (1 : Int32)), .unset, .unset] [(.int (1 : Int32)), (.int (1 : Int32))])) rfl (by rw [hml]; rfl) (argsL := [(.int (1 : Int32))]) (rest := [(.int (1 : Int32))]) (lenOf own_law_pd2 rfl) rfl (by show 2 * 0 + _ ≤ _; exact Nat.le_of_eq rfl) (hb hby at_43) (fun _ _ => ⟨rfl, R71, (by decide : 0 + 0 ≤ _), (by decide : 0 + 0 ≤ _)⟩)
      dsimp only [Pt.U, Pt.locs, Pt.cells, Pt.slots] at X73 l73 y73 z73 st73 hQ73
      subst l73 y73 z73
      obtain ⟨rfl, N73q, R73⟩ := hQ73
      have N73 := Fr.app N71 N73q
      refine ownStep (fun _ k => st73 _ k) ?_
      refine ownStep (fun _ k => XS.icmpNo X73.here hx rfl (hb hby at_46) rfl (teq (by decide : (1 : Int32) = (1 : Int32))).2 k) ?_
      refine ownStep (fun _ k => XS.iload X73.here hx rfl (hb hby at_49) rfl  k) ?_
      refine ownStep (fun _ k => XS.iloadN X73.here hx rfl (hb hby at_51) rfl  k) ?_
      show ownGo p.tables e below (T73.setTop (mkF m 52 #[.val (.int px), .val (.int py), .val (.int (1 : Int32)), .val (.int (1 : Int32)), .val (.ref w1), .val (.ref w1), .val (.int (1 : Int32)), .val (.int (1 : Int32)), .unset, .unset] [(.int (1 : Int32)), (.int (1 : Int32))])) _
      have Zs76 : n0 ≤ h0.size := Nat.le_trans Z0 KP0.1
      obtain ⟨_, _, ⟨T75, L75, k75, n75⟩, -, X75, ⟨Lc75, hQ75, l75, y75, z75⟩, st75⟩ := Jvm.LawKit.callS X73 hx (y := (⟨"com/example/fixd/fixd/client/LocationProviderStatusPinLaw", "named", "(I)I"⟩ : MethodName)) hown (mvT hZ (hw _ (List.mem_of_getElem? (i := 27) rfl))) (mvT hZ (hw _ (List.mem_of_getElem? (i := 28) rfl))) (mvT hZ (hw _ (List.mem_of_getElem? (i := 3) rfl))) (mvT hZ (hw _ (List.mem_of_getElem? (i := 29) rfl))) (by decide) (backOf (W := 1) (own_named1 l Z a0 hw []  h0 n0 Zs76 ) hZ (hw _ (List.mem_of_getElem? (i := 29) rfl)) (hw _ (List.mem_of_getElem? (i := 3) rfl)) (by decide) (by decide)) (g := (mkF m 52 #[.val (.int px), .val (.int py), .val (.int (1 : Int32)), .val (.int (1 : Int32)), .val (.ref w1), .val (.ref w1), .val (.int (1 : Int32)), .val (.int (1 : Int32)), .unset, .unset] [(.int (1 : Int32)), (.int (1 : Int32))])) rfl (by rw [hml]; rfl) (argsL := [(.int (1 : Int32))]) (rest := [(.int (1 : Int32))]) (lenOf own_law_pd2 rfl) rfl (by show 2 * 0 + _ ≤ _; exact Nat.le_of_eq rfl) (hb hby at_52) (fun _ _ => ⟨rfl, R73, (by decide : 0 + 0 ≤ _), (by decide : 0 + 0 ≤ _)⟩)
      dsimp only [Pt.U, Pt.locs, Pt.cells, Pt.slots] at X75 l75 y75 z75 st75 hQ75
      subst l75 y75 z75
      obtain ⟨rfl, N75q, R75⟩ := hQ75
      have N75 := Fr.app N73 N75q
      refine ownStep (fun _ k => st75 _ k) ?_
      refine ownStep (fun _ k => XS.icmpNo X75.here hx rfl (hb hby at_55) rfl (teq (by decide : (1 : Int32) = (1 : Int32))).2 k) ?_
      refine ownStep (fun _ k => XS.iload X75.here hx rfl (hb hby at_58) rfl  k) ?_
      refine ownStep (fun _ k => XS.iloadN X75.here hx rfl (hb hby at_60) rfl  k) ?_
      show ownGo p.tables e below (T75.setTop (mkF m 61 #[.val (.int px), .val (.int py), .val (.int (1 : Int32)), .val (.int (1 : Int32)), .val (.ref w1), .val (.ref w1), .val (.int (1 : Int32)), .val (.int (1 : Int32)), .unset, .unset] [(.int (1 : Int32)), (.int (1 : Int32))])) _
      have Zs78 : n0 ≤ h0.size := Nat.le_trans Z0 KP0.1
      obtain ⟨_, _, ⟨T77, L77, k77, n77⟩, -, X77, ⟨Lc77, hQ77, l77, y77, z77⟩, st77⟩ := Jvm.LawKit.callS X75 hx (y := (⟨"com/example/fixd/fixd/client/LocationProviderStatusPinLaw", "expected", "(I)I"⟩ : MethodName)) hown (mvT hZ (hw _ (List.mem_of_getElem? (i := 24) rfl))) (mvT hZ (hw _ (List.mem_of_getElem? (i := 25) rfl))) (mvT hZ (hw _ (List.mem_of_getElem? (i := 3) rfl))) (mvT hZ (hw _ (List.mem_of_getElem? (i := 26) rfl))) (by decide) (backOf (W := 1) (own_exp1 l Z a0 hw []  h0 n0 Zs78 ) hZ (hw _ (List.mem_of_getElem? (i := 26) rfl)) (hw _ (List.mem_of_getElem? (i := 3) rfl)) (by decide) (by decide)) (g := (mkF m 61 #[.val (.int px), .val (.int py), .val (.int (1 : Int32)), .val (.int (1 : Int32)), .val (.ref w1), .val (.ref w1), .val (.int (1 : Int32)), .val (.int (1 : Int32)), .unset, .unset] [(.int (1 : Int32)), (.int (1 : Int32))])) rfl (by rw [hml]; rfl) (argsL := [(.int (1 : Int32))]) (rest := [(.int (1 : Int32))]) (lenOf own_law_pd2 rfl) rfl (by show 2 * 0 + _ ≤ _; exact Nat.le_of_eq rfl) (hb hby at_61) (fun _ _ => ⟨rfl, R75, (by decide : 0 + 0 ≤ _), (by decide : 0 + 0 ≤ _)⟩)
      dsimp only [Pt.U, Pt.locs, Pt.cells, Pt.slots] at X77 l77 y77 z77 st77 hQ77
      subst l77 y77 z77
      obtain ⟨rfl, N77q, R77⟩ := hQ77
      have N77 := Fr.app N75 N77q
      refine ownStep (fun _ k => st77 _ k) ?_
      refine ownStep (fun _ k => XS.icmpNo X77.here hx rfl (hb hby at_64) rfl (teq (by decide : (1 : Int32) = (1 : Int32))).2 k) ?_
      refine ownStep (fun _ k => XS.iload X77.here hx rfl (hb hby at_67) rfl  k) ?_
      refine ownStep (fun _ k => XS.iloadN X77.here hx rfl (hb hby at_69) rfl  k) ?_
      show ownGo p.tables e below (T77.setTop (mkF m 70 #[.val (.int px), .val (.int py), .val (.int (1 : Int32)), .val (.int (1 : Int32)), .val (.ref w1), .val (.ref w1), .val (.int (1 : Int32)), .val (.int (1 : Int32)), .unset, .unset] [(.int (1 : Int32)), (.int (1 : Int32))])) _
      have Zs80 : n0 ≤ h0.size := Nat.le_trans Z0 KP0.1
      obtain ⟨_, _, ⟨T79, L79, k79, n79⟩, -, X79, ⟨Lc79, hQ79, l79, y79, z79⟩, st79⟩ := Jvm.LawKit.callS X77 hx (y := (⟨"com/example/fixd/fixd/client/LocationProviderStatusPinLaw", "named", "(I)I"⟩ : MethodName)) hown (mvT hZ (hw _ (List.mem_of_getElem? (i := 27) rfl))) (mvT hZ (hw _ (List.mem_of_getElem? (i := 28) rfl))) (mvT hZ (hw _ (List.mem_of_getElem? (i := 3) rfl))) (mvT hZ (hw _ (List.mem_of_getElem? (i := 29) rfl))) (by decide) (backOf (W := 1) (own_named1 l Z a0 hw []  h0 n0 Zs80 ) hZ (hw _ (List.mem_of_getElem? (i := 29) rfl)) (hw _ (List.mem_of_getElem? (i := 3) rfl)) (by decide) (by decide)) (g := (mkF m 70 #[.val (.int px), .val (.int py), .val (.int (1 : Int32)), .val (.int (1 : Int32)), .val (.ref w1), .val (.ref w1), .val (.int (1 : Int32)), .val (.int (1 : Int32)), .unset, .unset] [(.int (1 : Int32)), (.int (1 : Int32))])) rfl (by rw [hml]; rfl) (argsL := [(.int (1 : Int32))]) (rest := [(.int (1 : Int32))]) (lenOf own_law_pd2 rfl) rfl (by show 2 * 0 + _ ≤ _; exact Nat.le_of_eq rfl) (hb hby at_70) (fun _ _ => ⟨rfl, R77, (by decide : 0 + 0 ≤ _), (by decide : 0 + 0 ≤ _)⟩)
      dsimp only [Pt.U, Pt.locs, Pt.cells, Pt.slots] at X79 l79 y79 z79 st79 hQ79
      subst l79 y79 z79
      obtain ⟨rfl, N79q, R79⟩ := hQ79
      have N79 := Fr.app N77 N79q
      refine ownStep (fun _ k => st79 _ k) ?_
      refine ownStep (fun _ k => XS.icmpNo X79.here hx rfl (hb hby at_73) rfl (teq (by decide : (1 : Int32) = (1 : Int32))).2 k) ?_
      refine ownStep (fun _ k => XS.iconst X79.here hx rfl (hb hby at_76) k) ?_
      refine ownStep (fun _ k => XS.goto X79.here hx rfl (pc0 := 77) (pc' := 81) rfl (hb hby at_77) (by decide) (by decide) k) ?_
      refine ownStep (fun _ k => XS.istore X79.here hx rfl (hb hby at_81) rfl (l' := #[.val (.int px), .val (.int py), .val (.int (1 : Int32)), .val (.int (1 : Int32)), .val (.ref w1), .val (.ref w1), .val (.int (1 : Int32)), .val (.int (1 : Int32)), .val (.int (1 : Int32)), .unset]) rfl k) ?_
      show ownGo p.tables e below (T79.setTop (mkF m 83 #[.val (.int px), .val (.int py), .val (.int (1 : Int32)), .val (.int (1 : Int32)), .val (.ref w1), .val (.ref w1), .val (.int (1 : Int32)), .val (.int (1 : Int32)), .val (.int (1 : Int32)), .unset] [])) _
      refine ownStep (fun _ k => XS.iload X79.here hx rfl (hb hby at_83) rfl  k) ?_
      refine ownStep (fun _ k => XS.iload X79.here hx rfl (hb hby at_85) rfl  k) ?_
      refine ownStep (fun _ k => XS.icmpNo X79.here hx rfl (hb hby at_87) rfl (teq (by decide : (1 : Int32) = (1 : Int32))).2 k) ?_
      refine ownStep (fun _ k => XS.iconst X79.here hx rfl (hb hby at_90) k) ?_
      refine ownStep (fun _ k => XS.goto X79.here hx rfl (pc0 := 91) (pc' := 95) rfl (hb hby at_91) (by decide) (by decide) k) ?_
      show ownGo p.tables e below (T79.setTop (mkF m 95 #[.val (.int px), .val (.int py), .val (.int (1 : Int32)), .val (.int (1 : Int32)), .val (.ref w1), .val (.ref w1), .val (.int (1 : Int32)), .val (.int (1 : Int32)), .val (.int (1 : Int32)), .unset] [(.int (1 : Int32))])) _
      refine ownStep (fun _ k => XS.iloadN X79.here hx rfl (hb hby at_95) rfl  k) ?_
      refine ownStep (fun _ k => XS.iloadN X79.here hx rfl (hb hby at_96) rfl  k) ?_
      refine ownStep (fun _ k => XS.icmpNo X79.here hx rfl (hb hby at_97) rfl (teq (by decide : (1 : Int32) = (1 : Int32))).2 k) ?_
      refine ownStep (fun _ k => XS.iconst X79.here hx rfl (hb hby at_100) k) ?_
      refine ownStep (fun _ k => XS.goto X79.here hx rfl (pc0 := 101) (pc' := 105) rfl (hb hby at_101) (by decide) (by decide) k) ?_
      show ownGo p.tables e below (T79.setTop (mkF m 105 #[.val (.int px), .val (.int py), .val (.int (1 : Int32)), .val (.int (1 : Int32)), .val (.ref w1), .val (.ref w1), .val (.int (1 : Int32)), .val (.int (1 : Int32)), .val (.int (1 : Int32)), .unset] [(.int (1 : Int32)), (.int (1 : Int32))])) _
      refine ownStep (fun _ k => XS.icmpNo X79.here hx rfl (hb hby at_105) rfl (teq (by decide : (1 : Int32) = (1 : Int32))).2 k) ?_
      refine ownStep (fun _ k => XS.iconst X79.here hx rfl (hb hby at_108) k) ?_
      refine ownStep (fun _ k => XS.goto X79.here hx rfl (pc0 := 109) (pc' := 113) rfl (hb hby at_109) (by decide) (by decide) k) ?_
      refine ownStep (fun _ k => XS.istore X79.here hx rfl (hb hby at_113) rfl (l' := #[.val (.int px), .val (.int py), .val (.int (1 : Int32)), .val (.int (1 : Int32)), .val (.ref w1), .val (.ref w1), .val (.int (1 : Int32)), .val (.int (1 : Int32)), .val (.int (1 : Int32)), .val (.int (1 : Int32))]) rfl k) ?_
      refine ownStep (fun _ k => XS.iload X79.here hx rfl (hb hby at_115) rfl  k) ?_
      show ownGo p.tables e below (T79.setTop (mkF m 117 #[.val (.int px), .val (.int py), .val (.int (1 : Int32)), .val (.int (1 : Int32)), .val (.ref w1), .val (.ref w1), .val (.int (1 : Int32)), .val (.int (1 : Int32)), .val (.int (1 : Int32)), .val (.int (1 : Int32))] [(.int (1 : Int32))])) _
      refine ownStep (fun _ k => XS.ifNo X79.here hx rfl (hb hby at_117) rfl ((if0 _ _).trans (feq (by decide : ¬ (1 : Int32) = (0 : Int32))).1) k) ?_
      refine ownStep (fun _ k => XS.iload X79.here hx rfl (hb hby at_120) rfl  k) ?_
      refine ownStep (fun _ k => XS.ifNo X79.here hx rfl (hb hby at_122) rfl ((if0 _ _).trans (feq (by decide : ¬ (1 : Int32) = (0 : Int32))).1) k) ?_
      refine ownStep (fun _ k => XS.iconst X79.here hx rfl (hb hby at_125) k) ?_
      refine ownStep (fun _ k => XS.goto X79.here hx rfl (pc0 := 126) (pc' := 130) rfl (hb hby at_126) (by decide) (by decide) k) ?_
      show ownGo p.tables e below (T79.setTop (mkF m 130 #[.val (.int px), .val (.int py), .val (.int (1 : Int32)), .val (.int (1 : Int32)), .val (.ref w1), .val (.ref w1), .val (.int (1 : Int32)), .val (.int (1 : Int32)), .val (.int (1 : Int32)), .val (.int (1 : Int32))] [(.int (1 : Int32))])) _
      exact ownRet X79 (v := some (.int (1 : Int32))) Bd.notSynchronized (fun h => by rw [Bd.returns] at h; cases h) (fun _ hr => retN X79 hx (t := .boolean) Bd.returns (by simp) (hb hby at_130) hr) (by rw [R79]; exact ⟨rfl, N79, rfl⟩) (by decide) (by decide)
    · rw [hi]
      refine ownStep (fun _ k => XS.istoreN X0.here hx rfl (hb hby at_6) rfl (l' := #[.val (.int px), .val (.int py), .val (.int (1 : Int32)), .unset, .unset, .unset, .unset, .unset, .unset, .unset]) rfl k) ?_
      refine ownStep (fun _ k => XS.iloadN X0.here hx rfl (hb hby at_7) rfl  k) ?_
      show ownGo p.tables e below (s₁.setTop (mkF m 8 #[.val (.int px), .val (.int py), .val (.int (1 : Int32)), .unset, .unset, .unset, .unset, .unset, .unset, .unset] [(.int py)])) _
      refine ownStep (X0.ldcInt hx hown (mvT hZ (hw _ (List.mem_of_getElem? (i := 0) rfl))) (g := (mkF m 8 #[.val (.int px), .val (.int py), .val (.int (1 : Int32)), .unset, .unset, .unset, .unset, .unset, .unset, .unset] [(.int py)])) rfl (hb hby at_8)) ?_
      refine ownStep (fun _ k => XS.iand X0.here hx rfl (hb hby at_10) rfl k) ?_
      refine ownStep (fun _ k => XS.iconst X0.here hx rfl (hb hby at_11) k) ?_
      show ownGo p.tables e below (s₁.setTop (mkF m 12 #[.val (.int px), .val (.int py), .val (.int (1 : Int32)), .unset, .unset, .unset, .unset, .unset, .unset, .unset] [(.int (3 : Int32)), (.int (py &&& (2147483647 : Int32)))])) _
      refine ownStep (fun _ k => iremM X0 hx rfl (hb hby at_12) rfl (by decide) k) ?_
      show ownGo p.tables e below (s₁.setTop (mkF m 13 #[.val (.int px), .val (.int py), .val (.int (1 : Int32)), .unset, .unset, .unset, .unset, .unset, .unset, .unset] [(.int ((py &&& (2147483647 : Int32)) % (3 : Int32)))])) _
      rw [hj]
      refine ownStep (fun _ k => XS.istoreN X0.here hx rfl (hb hby at_13) rfl (l' := #[.val (.int px), .val (.int py), .val (.int (1 : Int32)), .val (.int (2 : Int32)), .unset, .unset, .unset, .unset, .unset, .unset]) rfl k) ?_
      refine ownStep (fun _ k => XS.iloadN X0.here hx rfl (hb hby at_14) rfl  k) ?_
      show ownGo p.tables e below (s₁.setTop (mkF m 15 #[.val (.int px), .val (.int py), .val (.int (1 : Int32)), .val (.int (2 : Int32)), .unset, .unset, .unset, .unset, .unset, .unset] [(.int (1 : Int32))])) _
      have Zs82 : n0 ≤ h0.size := Nat.le_trans Z0 KP0.1
      obtain ⟨_, _, ⟨T81, L81, k81, n81⟩, -, X81, ⟨Lc81, hQ81, l81, y81, z81⟩, st81⟩ := Jvm.LawKit.callS X0 hx (y := (⟨"com/example/fixd/fixd/client/LocationProviderStatusPinLaw", "pick", "(I)Lcom/example/fixd/fixd/location/Provider$Status;"⟩ : MethodName)) hown (mvT hZ (hw _ (List.mem_of_getElem? (i := 1) rfl))) (mvT hZ (hw _ (List.mem_of_getElem? (i := 2) rfl))) (mvT hZ (hw _ (List.mem_of_getElem? (i := 3) rfl))) (mvT hZ (hw _ (List.mem_of_getElem? (i := 4) rfl))) (by decide) (backOf (W := 0) (own_pick1 l Z a0 hw [] w0 w1 w2 sw cl h0 n0 Zs82 S0 S1 S2) hZ (hw _ (List.mem_of_getElem? (i := 4) rfl)) (hw _ (List.mem_of_getElem? (i := 3) rfl)) (by decide) (by decide)) (g := (mkF m 15 #[.val (.int px), .val (.int py), .val (.int (1 : Int32)), .val (.int (2 : Int32)), .unset, .unset, .unset, .unset, .unset, .unset] [(.int (1 : Int32))])) rfl (by rw [hml]; rfl) (argsL := [(.int (1 : Int32))]) (rest := []) (lenOf own_law_pd0 rfl) rfl (by show 2 * 0 + _ ≤ _; exact Nat.le_of_eq rfl) (hb hby at_15) (fun _ _ => ⟨rfl, e0, (by decide : 0 + 0 ≤ _), (by decide : 0 + 0 ≤ _)⟩)
      dsimp only [Pt.U, Pt.locs, Pt.cells, Pt.slots] at X81 l81 y81 z81 st81 hQ81
      subst l81 y81 z81
      obtain ⟨rfl, N81q, R81⟩ := hQ81
      have N81 := Fr.app N0 N81q
      refine ownStep (fun _ k => st81 _ k) ?_
      refine ownStep (fun _ k => XS.astore X81.here hx rfl (hb hby at_18) rfl rfl (l' := #[.val (.int px), .val (.int py), .val (.int (1 : Int32)), .val (.int (2 : Int32)), .val (.ref w1), .unset, .unset, .unset, .unset, .unset]) rfl k) ?_
      refine ownStep (fun _ k => XS.iloadN X81.here hx rfl (hb hby at_20) rfl  k) ?_
      show ownGo p.tables e below (T81.setTop (mkF m 21 #[.val (.int px), .val (.int py), .val (.int (1 : Int32)), .val (.int (2 : Int32)), .val (.ref w1), .unset, .unset, .unset, .unset, .unset] [(.int (2 : Int32))])) _
      have Zs84 : n0 ≤ h0.size := Nat.le_trans Z0 KP0.1
      obtain ⟨_, _, ⟨T83, L83, k83, n83⟩, -, X83, ⟨Lc83, hQ83, l83, y83, z83⟩, st83⟩ := Jvm.LawKit.callS X81 hx (y := (⟨"com/example/fixd/fixd/client/LocationProviderStatusPinLaw", "pick", "(I)Lcom/example/fixd/fixd/location/Provider$Status;"⟩ : MethodName)) hown (mvT hZ (hw _ (List.mem_of_getElem? (i := 1) rfl))) (mvT hZ (hw _ (List.mem_of_getElem? (i := 2) rfl))) (mvT hZ (hw _ (List.mem_of_getElem? (i := 3) rfl))) (mvT hZ (hw _ (List.mem_of_getElem? (i := 4) rfl))) (by decide) (backOf (W := 0) (own_pick2 l Z a0 hw [] w0 w1 w2 sw cl h0 n0 Zs84 S0 S1 S2) hZ (hw _ (List.mem_of_getElem? (i := 4) rfl)) (hw _ (List.mem_of_getElem? (i := 3) rfl)) (by decide) (by decide)) (g := (mkF m 21 #[.val (.int px), .val (.int py), .val (.int (1 : Int32)), .val (.int (2 : Int32)), .val (.ref w1), .unset, .unset, .unset, .unset, .unset] [(.int (2 : Int32))])) rfl (by rw [hml]; rfl) (argsL := [(.int (2 : Int32))]) (rest := []) (lenOf own_law_pd0 rfl) rfl (by show 2 * 0 + _ ≤ _; exact Nat.le_of_eq rfl) (hb hby at_21) (fun _ _ => ⟨rfl, R81, (by decide : 0 + 0 ≤ _), (by decide : 0 + 0 ≤ _)⟩)
      dsimp only [Pt.U, Pt.locs, Pt.cells, Pt.slots] at X83 l83 y83 z83 st83 hQ83
      subst l83 y83 z83
      obtain ⟨rfl, N83q, R83⟩ := hQ83
      have N83 := Fr.app N81 N83q
      refine ownStep (fun _ k => st83 _ k) ?_
      refine ownStep (fun _ k => XS.astore X83.here hx rfl (hb hby at_24) rfl rfl (l' := #[.val (.int px), .val (.int py), .val (.int (1 : Int32)), .val (.int (2 : Int32)), .val (.ref w1), .val (.ref w2), .unset, .unset, .unset, .unset]) rfl k) ?_
      refine ownStep (fun _ k => XS.aload X83.here hx rfl (hb hby at_26) rfl rfl k) ?_
      show ownGo p.tables e below (T83.setTop (mkF m 28 #[.val (.int px), .val (.int py), .val (.int (1 : Int32)), .val (.int (2 : Int32)), .val (.ref w1), .val (.ref w2), .unset, .unset, .unset, .unset] [(.ref w1)])) _
      have Zs86 : n0 ≤ h0.size := Nat.le_trans Z0 KP0.1
      obtain ⟨_, _, ⟨T85, L85, k85, n85⟩, -, X85, ⟨Lc85, hQ85, l85, y85, z85⟩, st85⟩ := Jvm.LawKit.callS X83 hx (y := (⟨"com/example/fixd/fixd/client/LocationProvider", "status", "(Lcom/example/fixd/fixd/location/Provider$Status;)I"⟩ : MethodName)) hown (mvT hZ (hw _ (List.mem_of_getElem? (i := 8) rfl))) (mvT hZ (hw _ (List.mem_of_getElem? (i := 9) rfl))) (mvT hZ (hw _ (List.mem_of_getElem? (i := 10) rfl))) (mvT hZ (hw _ (List.mem_of_getElem? (i := 11) rfl))) (by decide) (backOf (W := 0) (own_stat1 l Z a0 hw [] w0 w1 w2 sw cl h0 n0 Zs86 S0 S1 S2 E0 E1 E2 F0 F1 F2 Ssw Asw El0 El1 El2) hZ (hw _ (List.mem_of_getElem? (i := 11) rfl)) (hw _ (List.mem_of_getElem? (i := 10) rfl)) (by decide) (by decide)) (g := (mkF m 28 #[.val (.int px), .val (.int py), .val (.int (1 : Int32)), .val (.int (2 : Int32)), .val (.ref w1), .val (.ref w2), .unset, .unset, .unset, .unset] [(.ref w1)])) rfl (by rw [hml]; rfl) (argsL := [(.ref w1)]) (rest := []) (lenOf own_law_pd1 rfl) rfl (by show 2 * 0 + _ ≤ _; exact Nat.le_of_eq rfl) (hb hby at_28) (fun _ _ => ⟨rfl, R83, (by decide : 0 + 0 ≤ _), (by decide : 0 + 0 ≤ _)⟩)
      dsimp only [Pt.U, Pt.locs, Pt.cells, Pt.slots] at X85 l85 y85 z85 st85 hQ85
      subst l85 y85 z85
      obtain ⟨rfl, N85q, R85⟩ := hQ85
      have N85 := Fr.app N83 N85q
      refine ownStep (fun _ k => st85 _ k) ?_
      refine ownStep (fun _ k => XS.istore X85.here hx rfl (hb hby at_31) rfl (l' := #[.val (.int px), .val (.int py), .val (.int (1 : Int32)), .val (.int (2 : Int32)), .val (.ref w1), .val (.ref w2), .val (.int (1 : Int32)), .unset, .unset, .unset]) rfl k) ?_
      refine ownStep (fun _ k => XS.aload X85.here hx rfl (hb hby at_33) rfl rfl k) ?_
      show ownGo p.tables e below (T85.setTop (mkF m 35 #[.val (.int px), .val (.int py), .val (.int (1 : Int32)), .val (.int (2 : Int32)), .val (.ref w1), .val (.ref w2), .val (.int (1 : Int32)), .unset, .unset, .unset] [(.ref w2)])) _
      have Zs88 : n0 ≤ h0.size := Nat.le_trans Z0 KP0.1
      obtain ⟨_, _, ⟨T87, L87, k87, n87⟩, -, X87, ⟨Lc87, hQ87, l87, y87, z87⟩, st87⟩ := Jvm.LawKit.callS X85 hx (y := (⟨"com/example/fixd/fixd/client/LocationProvider", "status", "(Lcom/example/fixd/fixd/location/Provider$Status;)I"⟩ : MethodName)) hown (mvT hZ (hw _ (List.mem_of_getElem? (i := 8) rfl))) (mvT hZ (hw _ (List.mem_of_getElem? (i := 9) rfl))) (mvT hZ (hw _ (List.mem_of_getElem? (i := 10) rfl))) (mvT hZ (hw _ (List.mem_of_getElem? (i := 11) rfl))) (by decide) (backOf (W := 0) (own_stat2 l Z a0 hw [] w0 w1 w2 sw cl h0 n0 Zs88 S0 S1 S2 E0 E1 E2 F0 F1 F2 Ssw Asw El0 El1 El2) hZ (hw _ (List.mem_of_getElem? (i := 11) rfl)) (hw _ (List.mem_of_getElem? (i := 10) rfl)) (by decide) (by decide)) (g := (mkF m 35 #[.val (.int px), .val (.int py), .val (.int (1 : Int32)), .val (.int (2 : Int32)), .val (.ref w1), .val (.ref w2), .val (.int (1 : Int32)), .unset, .unset, .unset] [(.ref w2)])) rfl (by rw [hml]; rfl) (argsL := [(.ref w2)]) (rest := []) (lenOf own_law_pd1 rfl) rfl (by show 2 * 0 + _ ≤ _; exact Nat.le_of_eq rfl) (hb hby at_35) (fun _ _ => ⟨rfl, R85, (by decide : 0 + 0 ≤ _), (by decide : 0 + 0 ≤ _)⟩)
      dsimp only [Pt.U, Pt.locs, Pt.cells, Pt.slots] at X87 l87 y87 z87 st87 hQ87
      subst l87 y87 z87
      obtain ⟨rfl, N87q, R87⟩ := hQ87
      have N87 := Fr.app N85 N87q
      refine ownStep (fun _ k => st87 _ k) ?_
      refine ownStep (fun _ k => XS.istore X87.here hx rfl (hb hby at_38) rfl (l' := #[.val (.int px), .val (.int py), .val (.int (1 : Int32)), .val (.int (2 : Int32)), .val (.ref w1), .val (.ref w2), .val (.int (1 : Int32)), .val (.int (2 : Int32)), .unset, .unset]) rfl k) ?_
      refine ownStep (fun _ k => XS.iload X87.here hx rfl (hb hby at_40) rfl  k) ?_
      refine ownStep (fun _ k => XS.iloadN X87.here hx rfl (hb hby at_42) rfl  k) ?_
      show ownGo p.tables e below (T87.setTop (mkF m 43 #[.val (.int px), .val (.int py), .val (.int (1 : Int32)), .val (.int (2 : Int32)), .val (.ref w1), .val (.ref w2), .val (.int (1 : Int32)), .val (.int (2 : Int32)), .unset, .unset] [(.int (1 : Int32)), (.int (1 : Int32))])) _
      have Zs90 : n0 ≤ h0.size := Nat.le_trans Z0 KP0.1
      obtain ⟨_, _, ⟨T89, L89, k89, n89⟩, -, X89, ⟨Lc89, hQ89, l89, y89, z89⟩, st89⟩ := Jvm.LawKit.callS X87 hx (y := (⟨"com/example/fixd/fixd/client/LocationProviderStatusPinLaw", "expected", "(I)I"⟩ : MethodName)) hown (mvT hZ (hw _ (List.mem_of_getElem? (i := 24) rfl))) (mvT hZ (hw _ (List.mem_of_getElem? (i := 25) rfl))) (mvT hZ (hw _ (List.mem_of_getElem? (i := 3) rfl))) (mvT hZ (hw _ (List.mem_of_getElem? (i := 26) rfl))) (by decide) (backOf (W := 1) (own_exp1 l Z a0 hw []  h0 n0 Zs90 ) hZ (hw _ (List.mem_of_getElem? (i := 26) rfl)) (hw _ (List.mem_of_getElem? (i := 3) rfl)) (by decide) (by decide)) (g := (mkF m 43 #[.val (.int px), .val (.int py), .val (.int (1 : Int32)), .val (.int (2 : Int32)), .val (.ref w1), .val (.ref w2), .val (.int (1 : Int32)), .val (.int (2 : Int32)), .unset, .unset] [(.int (1 : Int32)), (.int (1 : Int32))])) rfl (by rw [hml]; rfl) (argsL := [(.int (1 : Int32))]) (rest := [(.int (1 : Int32))]) (lenOf own_law_pd2 rfl) rfl (by show 2 * 0 + _ ≤ _; exact Nat.le_of_eq rfl) (hb hby at_43) (fun _ _ => ⟨rfl, R87, (by decide : 0 + 0 ≤ _), (by decide : 0 + 0 ≤ _)⟩)
      dsimp only [Pt.U, Pt.locs, Pt.cells, Pt.slots] at X89 l89 y89 z89 st89 hQ89
      subst l89 y89 z89
      obtain ⟨rfl, N89q, R89⟩ := hQ89
      have N89 := Fr.app N87 N89q
      refine ownStep (fun _ k => st89 _ k) ?_
      refine ownStep (fun _ k => XS.icmpNo X89.here hx rfl (hb hby at_46) rfl (teq (by decide : (1 : Int32) = (1 : Int32))).2 k) ?_
      refine ownStep (fun _ k => XS.iload X89.here hx rfl (hb hby at_49) rfl  k) ?_
      refine ownStep (fun _ k => XS.iloadN X89.here hx rfl (hb hby at_51) rfl  k) ?_
      show ownGo p.tables e below (T89.setTop (mkF m 52 #[.val (.int px), .val (.int py), .val (.int (1 : Int32)), .val (.int (2 : Int32)), .val (.ref w1), .val (.ref w2), .val (.int (1 : Int32)), .val (.int (2 : Int32)), .unset, .unset] [(.int (1 : Int32)), (.int (1 : Int32))])) _
      have Zs92 : n0 ≤ h0.size := Nat.le_trans Z0 KP0.1
      obtain ⟨_, _, ⟨T91, L91, k91, n91⟩, -, X91, ⟨Lc91, hQ91, l91, y91, z91⟩, st91⟩ := Jvm.LawKit.callS X89 hx (y := (⟨"com/example/fixd/fixd/client/LocationProviderStatusPinLaw", "named", "(I)I"⟩ : MethodName)) hown (mvT hZ (hw _ (List.mem_of_getElem? (i := 27) rfl))) (mvT hZ (hw _ (List.mem_of_getElem? (i := 28) rfl))) (mvT hZ (hw _ (List.mem_of_getElem? (i := 3) rfl))) (mvT hZ (hw _ (List.mem_of_getElem? (i := 29) rfl))) (by decide) (backOf (W := 1) (own_named1 l Z a0 hw []  h0 n0 Zs92 ) hZ (hw _ (List.mem_of_getElem? (i := 29) rfl)) (hw _ (List.mem_of_getElem? (i := 3) rfl)) (by decide) (by decide)) (g := (mkF m 52 #[.val (.int px), .val (.int py), .val (.int (1 : Int32)), .val (.int (2 : Int32)), .val (.ref w1), .val (.ref w2), .val (.int (1 : Int32)), .val (.int (2 : Int32)), .unset, .unset] [(.int (1 : Int32)), (.int (1 : Int32))])) rfl (by rw [hml]; rfl) (argsL := [(.int (1 : Int32))]) (rest := [(.int (1 : Int32))]) (lenOf own_law_pd2 rfl) rfl (by show 2 * 0 + _ ≤ _; exact Nat.le_of_eq rfl) (hb hby at_52) (fun _ _ => ⟨rfl, R89, (by decide : 0 + 0 ≤ _), (by decide : 0 + 0 ≤ _)⟩)
      dsimp only [Pt.U, Pt.locs, Pt.cells, Pt.slots] at X91 l91 y91 z91 st91 hQ91
      subst l91 y91 z91
      obtain ⟨rfl, N91q, R91⟩ := hQ91
      have N91 := Fr.app N89 N91q
      refine ownStep (fun _ k => st91 _ k) ?_
      refine ownStep (fun _ k => XS.icmpNo X91.here hx rfl (hb hby at_55) rfl (teq (by decide : (1 : Int32) = (1 : Int32))).2 k) ?_
      refine ownStep (fun _ k => XS.iload X91.here hx rfl (hb hby at_58) rfl  k) ?_
      refine ownStep (fun _ k => XS.iloadN X91.here hx rfl (hb hby at_60) rfl  k) ?_
      show ownGo p.tables e below (T91.setTop (mkF m 61 #[.val (.int px), .val (.int py), .val (.int (1 : Int32)), .val (.int (2 : Int32)), .val (.ref w1), .val (.ref w2), .val (.int (1 : Int32)), .val (.int (2 : Int32)), .unset, .unset] [(.int (2 : Int32)), (.int (2 : Int32))])) _
      have Zs94 : n0 ≤ h0.size := Nat.le_trans Z0 KP0.1
      obtain ⟨_, _, ⟨T93, L93, k93, n93⟩, -, X93, ⟨Lc93, hQ93, l93, y93, z93⟩, st93⟩ := Jvm.LawKit.callS X91 hx (y := (⟨"com/example/fixd/fixd/client/LocationProviderStatusPinLaw", "expected", "(I)I"⟩ : MethodName)) hown (mvT hZ (hw _ (List.mem_of_getElem? (i := 24) rfl))) (mvT hZ (hw _ (List.mem_of_getElem? (i := 25) rfl))) (mvT hZ (hw _ (List.mem_of_getElem? (i := 3) rfl))) (mvT hZ (hw _ (List.mem_of_getElem? (i := 26) rfl))) (by decide) (backOf (W := 1) (own_exp2 l Z a0 hw []  h0 n0 Zs94 ) hZ (hw _ (List.mem_of_getElem? (i := 26) rfl)) (hw _ (List.mem_of_getElem? (i := 3) rfl)) (by decide) (by decide)) (g := (mkF m 61 #[.val (.int px), .val (.int py), .val (.int (1 : Int32)), .val (.int (2 : Int32)), .val (.ref w1), .val (.ref w2), .val (.int (1 : Int32)), .val (.int (2 : Int32)), .unset, .unset] [(.int (2 : Int32)), (.int (2 : Int32))])) rfl (by rw [hml]; rfl) (argsL := [(.int (2 : Int32))]) (rest := [(.int (2 : Int32))]) (lenOf own_law_pd2 rfl) rfl (by show 2 * 0 + _ ≤ _; exact Nat.le_of_eq rfl) (hb hby at_61) (fun _ _ => ⟨rfl, R91, (by decide : 0 + 0 ≤ _), (by decide : 0 + 0 ≤ _)⟩)
      dsimp only [Pt.U, Pt.locs, Pt.cells, Pt.slots] at X93 l93 y93 z93 st93 hQ93
      subst l93 y93 z93
      obtain ⟨rfl, N93q, R93⟩ := hQ93
      have N93 := Fr.app N91 N93q
      refine ownStep (fun _ k => st93 _ k) ?_
      refine ownStep (fun _ k => XS.icmpNo X93.here hx rfl (hb hby at_64) rfl (teq (by decide : (2 : Int32) = (2 : Int32))).2 k) ?_
      refine ownStep (fun _ k => XS.iload X93.here hx rfl (hb hby at_67) rfl  k) ?_
      refine ownStep (fun _ k => XS.iloadN X93.here hx rfl (hb hby at_69) rfl  k) ?_
      show ownGo p.tables e below (T93.setTop (mkF m 70 #[.val (.int px), .val (.int py), .val (.int (1 : Int32)), .val (.int (2 : Int32)), .val (.ref w1), .val (.ref w2), .val (.int (1 : Int32)), .val (.int (2 : Int32)), .unset, .unset] [(.int (2 : Int32)), (.int (2 : Int32))])) _
      have Zs96 : n0 ≤ h0.size := Nat.le_trans Z0 KP0.1
      obtain ⟨_, _, ⟨T95, L95, k95, n95⟩, -, X95, ⟨Lc95, hQ95, l95, y95, z95⟩, st95⟩ := Jvm.LawKit.callS X93 hx (y := (⟨"com/example/fixd/fixd/client/LocationProviderStatusPinLaw", "named", "(I)I"⟩ : MethodName)) hown (mvT hZ (hw _ (List.mem_of_getElem? (i := 27) rfl))) (mvT hZ (hw _ (List.mem_of_getElem? (i := 28) rfl))) (mvT hZ (hw _ (List.mem_of_getElem? (i := 3) rfl))) (mvT hZ (hw _ (List.mem_of_getElem? (i := 29) rfl))) (by decide) (backOf (W := 1) (own_named2 l Z a0 hw []  h0 n0 Zs96 ) hZ (hw _ (List.mem_of_getElem? (i := 29) rfl)) (hw _ (List.mem_of_getElem? (i := 3) rfl)) (by decide) (by decide)) (g := (mkF m 70 #[.val (.int px), .val (.int py), .val (.int (1 : Int32)), .val (.int (2 : Int32)), .val (.ref w1), .val (.ref w2), .val (.int (1 : Int32)), .val (.int (2 : Int32)), .unset, .unset] [(.int (2 : Int32)), (.int (2 : Int32))])) rfl (by rw [hml]; rfl) (argsL := [(.int (2 : Int32))]) (rest := [(.int (2 : Int32))]) (lenOf own_law_pd2 rfl) rfl (by show 2 * 0 + _ ≤ _; exact Nat.le_of_eq rfl) (hb hby at_70) (fun _ _ => ⟨rfl, R93, (by decide : 0 + 0 ≤ _), (by decide : 0 + 0 ≤ _)⟩)
      dsimp only [Pt.U, Pt.locs, Pt.cells, Pt.slots] at X95 l95 y95 z95 st95 hQ95
      subst l95 y95 z95
      obtain ⟨rfl, N95q, R95⟩ := hQ95
      have N95 := Fr.app N93 N95q
      refine ownStep (fun _ k => st95 _ k) ?_
      refine ownStep (fun _ k => XS.icmpNo X95.here hx rfl (hb hby at_73) rfl (teq (by decide : (2 : Int32) = (2 : Int32))).2 k) ?_
      refine ownStep (fun _ k => XS.iconst X95.here hx rfl (hb hby at_76) k) ?_
      refine ownStep (fun _ k => XS.goto X95.here hx rfl (pc0 := 77) (pc' := 81) rfl (hb hby at_77) (by decide) (by decide) k) ?_
      refine ownStep (fun _ k => XS.istore X95.here hx rfl (hb hby at_81) rfl (l' := #[.val (.int px), .val (.int py), .val (.int (1 : Int32)), .val (.int (2 : Int32)), .val (.ref w1), .val (.ref w2), .val (.int (1 : Int32)), .val (.int (2 : Int32)), .val (.int (1 : Int32)), .unset]) rfl k) ?_
      show ownGo p.tables e below (T95.setTop (mkF m 83 #[.val (.int px), .val (.int py), .val (.int (1 : Int32)), .val (.int (2 : Int32)), .val (.ref w1), .val (.ref w2), .val (.int (1 : Int32)), .val (.int (2 : Int32)), .val (.int (1 : Int32)), .unset] [])) _
      refine ownStep (fun _ k => XS.iload X95.here hx rfl (hb hby at_83) rfl  k) ?_
      refine ownStep (fun _ k => XS.iload X95.here hx rfl (hb hby at_85) rfl  k) ?_
      refine ownStep (fun _ k => XS.icmpYes X95.here hx rfl (pc0 := 87) (pc' := 94) rfl (hb hby at_87) rfl (feq (by decide : ¬ (1 : Int32) = (2 : Int32))).2 (by decide) (by decide) k) ?_
      refine ownStep (fun _ k => XS.iconst X95.here hx rfl (hb hby at_94) k) ?_
      refine ownStep (fun _ k => XS.iloadN X95.here hx rfl (hb hby at_95) rfl  k) ?_
      show ownGo p.tables e below (T95.setTop (mkF m 96 #[.val (.int px), .val (.int py), .val (.int (1 : Int32)), .val (.int (2 : Int32)), .val (.ref w1), .val (.ref w2), .val (.int (1 : Int32)), .val (.int (2 : Int32)), .val (.int (1 : Int32)), .unset] [(.int (1 : Int32)), (.int (0 : Int32))])) _
      refine ownStep (fun _ k => XS.iloadN X95.here hx rfl (hb hby at_96) rfl  k) ?_
      refine ownStep (fun _ k => XS.icmpYes X95.here hx rfl (pc0 := 97) (pc' := 104) rfl (hb hby at_97) rfl (feq (by decide : ¬ (1 : Int32) = (2 : Int32))).2 (by decide) (by decide) k) ?_
      refine ownStep (fun _ k => XS.iconst X95.here hx rfl (hb hby at_104) k) ?_
      refine ownStep (fun _ k => XS.icmpNo X95.here hx rfl (hb hby at_105) rfl (teq (by decide : (0 : Int32) = (0 : Int32))).2 k) ?_
      refine ownStep (fun _ k => XS.iconst X95.here hx rfl (hb hby at_108) k) ?_
      show ownGo p.tables e below (T95.setTop (mkF m 109 #[.val (.int px), .val (.int py), .val (.int (1 : Int32)), .val (.int (2 : Int32)), .val (.ref w1), .val (.ref w2), .val (.int (1 : Int32)), .val (.int (2 : Int32)), .val (.int (1 : Int32)), .unset] [(.int (1 : Int32))])) _
      refine ownStep (fun _ k => XS.goto X95.here hx rfl (pc0 := 109) (pc' := 113) rfl (hb hby at_109) (by decide) (by decide) k) ?_
      refine ownStep (fun _ k => XS.istore X95.here hx rfl (hb hby at_113) rfl (l' := #[.val (.int px), .val (.int py), .val (.int (1 : Int32)), .val (.int (2 : Int32)), .val (.ref w1), .val (.ref w2), .val (.int (1 : Int32)), .val (.int (2 : Int32)), .val (.int (1 : Int32)), .val (.int (1 : Int32))]) rfl k) ?_
      refine ownStep (fun _ k => XS.iload X95.here hx rfl (hb hby at_115) rfl  k) ?_
      refine ownStep (fun _ k => XS.ifNo X95.here hx rfl (hb hby at_117) rfl ((if0 _ _).trans (feq (by decide : ¬ (1 : Int32) = (0 : Int32))).1) k) ?_
      refine ownStep (fun _ k => XS.iload X95.here hx rfl (hb hby at_120) rfl  k) ?_
      show ownGo p.tables e below (T95.setTop (mkF m 122 #[.val (.int px), .val (.int py), .val (.int (1 : Int32)), .val (.int (2 : Int32)), .val (.ref w1), .val (.ref w2), .val (.int (1 : Int32)), .val (.int (2 : Int32)), .val (.int (1 : Int32)), .val (.int (1 : Int32))] [(.int (1 : Int32))])) _
      refine ownStep (fun _ k => XS.ifNo X95.here hx rfl (hb hby at_122) rfl ((if0 _ _).trans (feq (by decide : ¬ (1 : Int32) = (0 : Int32))).1) k) ?_
      refine ownStep (fun _ k => XS.iconst X95.here hx rfl (hb hby at_125) k) ?_
      refine ownStep (fun _ k => XS.goto X95.here hx rfl (pc0 := 126) (pc' := 130) rfl (hb hby at_126) (by decide) (by decide) k) ?_
      show ownGo p.tables e below (T95.setTop (mkF m 130 #[.val (.int px), .val (.int py), .val (.int (1 : Int32)), .val (.int (2 : Int32)), .val (.ref w1), .val (.ref w2), .val (.int (1 : Int32)), .val (.int (2 : Int32)), .val (.int (1 : Int32)), .val (.int (1 : Int32))] [(.int (1 : Int32))])) _
      exact ownRet X95 (v := some (.int (1 : Int32))) Bd.notSynchronized (fun h => by rw [Bd.returns] at h; cases h) (fun _ hr => retN X95 hx (t := .boolean) Bd.returns (by simp) (hb hby at_130) hr) (by rw [R95]; exact ⟨rfl, N95, rfl⟩) (by decide) (by decide)
  · rcases hj with hj | hj | hj
    · rw [hi]
      refine ownStep (fun _ k => XS.istoreN X0.here hx rfl (hb hby at_6) rfl (l' := #[.val (.int px), .val (.int py), .val (.int (2 : Int32)), .unset, .unset, .unset, .unset, .unset, .unset, .unset]) rfl k) ?_
      refine ownStep (fun _ k => XS.iloadN X0.here hx rfl (hb hby at_7) rfl  k) ?_
      show ownGo p.tables e below (s₁.setTop (mkF m 8 #[.val (.int px), .val (.int py), .val (.int (2 : Int32)), .unset, .unset, .unset, .unset, .unset, .unset, .unset] [(.int py)])) _
      refine ownStep (X0.ldcInt hx hown (mvT hZ (hw _ (List.mem_of_getElem? (i := 0) rfl))) (g := (mkF m 8 #[.val (.int px), .val (.int py), .val (.int (2 : Int32)), .unset, .unset, .unset, .unset, .unset, .unset, .unset] [(.int py)])) rfl (hb hby at_8)) ?_
      refine ownStep (fun _ k => XS.iand X0.here hx rfl (hb hby at_10) rfl k) ?_
      refine ownStep (fun _ k => XS.iconst X0.here hx rfl (hb hby at_11) k) ?_
      show ownGo p.tables e below (s₁.setTop (mkF m 12 #[.val (.int px), .val (.int py), .val (.int (2 : Int32)), .unset, .unset, .unset, .unset, .unset, .unset, .unset] [(.int (3 : Int32)), (.int (py &&& (2147483647 : Int32)))])) _
      refine ownStep (fun _ k => iremM X0 hx rfl (hb hby at_12) rfl (by decide) k) ?_
      show ownGo p.tables e below (s₁.setTop (mkF m 13 #[.val (.int px), .val (.int py), .val (.int (2 : Int32)), .unset, .unset, .unset, .unset, .unset, .unset, .unset] [(.int ((py &&& (2147483647 : Int32)) % (3 : Int32)))])) _
      rw [hj]
      refine ownStep (fun _ k => XS.istoreN X0.here hx rfl (hb hby at_13) rfl (l' := #[.val (.int px), .val (.int py), .val (.int (2 : Int32)), .val (.int (0 : Int32)), .unset, .unset, .unset, .unset, .unset, .unset]) rfl k) ?_
      refine ownStep (fun _ k => XS.iloadN X0.here hx rfl (hb hby at_14) rfl  k) ?_
      show ownGo p.tables e below (s₁.setTop (mkF m 15 #[.val (.int px), .val (.int py), .val (.int (2 : Int32)), .val (.int (0 : Int32)), .unset, .unset, .unset, .unset, .unset, .unset] [(.int (2 : Int32))])) _
      have Zs98 : n0 ≤ h0.size := Nat.le_trans Z0 KP0.1
      obtain ⟨_, _, ⟨T97, L97, k97, n97⟩, -, X97, ⟨Lc97, hQ97, l97, y97, z97⟩, st97⟩ := Jvm.LawKit.callS X0 hx (y := (⟨"com/example/fixd/fixd/client/LocationProviderStatusPinLaw", "pick", "(I)Lcom/example/fixd/fixd/location/Provider$Status;"⟩ : MethodName)) hown (mvT hZ (hw _ (List.mem_of_getElem? (i := 1) rfl))) (mvT hZ (hw _ (List.mem_of_getElem? (i := 2) rfl))) (mvT hZ (hw _ (List.mem_of_getElem? (i := 3) rfl))) (mvT hZ (hw _ (List.mem_of_getElem? (i := 4) rfl))) (by decide) (backOf (W := 0) (own_pick2 l Z a0 hw [] w0 w1 w2 sw cl h0 n0 Zs98 S0 S1 S2) hZ (hw _ (List.mem_of_getElem? (i := 4) rfl)) (hw _ (List.mem_of_getElem? (i := 3) rfl)) (by decide) (by decide)) (g := (mkF m 15 #[.val (.int px), .val (.int py), .val (.int (2 : Int32)), .val (.int (0 : Int32)), .unset, .unset, .unset, .unset, .unset, .unset] [(.int (2 : Int32))])) rfl (by rw [hml]; rfl) (argsL := [(.int (2 : Int32))]) (rest := []) (lenOf own_law_pd0 rfl) rfl (by show 2 * 0 + _ ≤ _; exact Nat.le_of_eq rfl) (hb hby at_15) (fun _ _ => ⟨rfl, e0, (by decide : 0 + 0 ≤ _), (by decide : 0 + 0 ≤ _)⟩)
      dsimp only [Pt.U, Pt.locs, Pt.cells, Pt.slots] at X97 l97 y97 z97 st97 hQ97
      subst l97 y97 z97
      obtain ⟨rfl, N97q, R97⟩ := hQ97
      have N97 := Fr.app N0 N97q
      refine ownStep (fun _ k => st97 _ k) ?_
      refine ownStep (fun _ k => XS.astore X97.here hx rfl (hb hby at_18) rfl rfl (l' := #[.val (.int px), .val (.int py), .val (.int (2 : Int32)), .val (.int (0 : Int32)), .val (.ref w2), .unset, .unset, .unset, .unset, .unset]) rfl k) ?_
      refine ownStep (fun _ k => XS.iloadN X97.here hx rfl (hb hby at_20) rfl  k) ?_
      show ownGo p.tables e below (T97.setTop (mkF m 21 #[.val (.int px), .val (.int py), .val (.int (2 : Int32)), .val (.int (0 : Int32)), .val (.ref w2), .unset, .unset, .unset, .unset, .unset] [(.int (0 : Int32))])) _
      have Zs100 : n0 ≤ h0.size := Nat.le_trans Z0 KP0.1
      obtain ⟨_, _, ⟨T99, L99, k99, n99⟩, -, X99, ⟨Lc99, hQ99, l99, y99, z99⟩, st99⟩ := Jvm.LawKit.callS X97 hx (y := (⟨"com/example/fixd/fixd/client/LocationProviderStatusPinLaw", "pick", "(I)Lcom/example/fixd/fixd/location/Provider$Status;"⟩ : MethodName)) hown (mvT hZ (hw _ (List.mem_of_getElem? (i := 1) rfl))) (mvT hZ (hw _ (List.mem_of_getElem? (i := 2) rfl))) (mvT hZ (hw _ (List.mem_of_getElem? (i := 3) rfl))) (mvT hZ (hw _ (List.mem_of_getElem? (i := 4) rfl))) (by decide) (backOf (W := 0) (own_pick0 l Z a0 hw [] w0 w1 w2 sw cl h0 n0 Zs100 S0 S1 S2) hZ (hw _ (List.mem_of_getElem? (i := 4) rfl)) (hw _ (List.mem_of_getElem? (i := 3) rfl)) (by decide) (by decide)) (g := (mkF m 21 #[.val (.int px), .val (.int py), .val (.int (2 : Int32)), .val (.int (0 : Int32)), .val (.ref w2), .unset, .unset, .unset, .unset, .unset] [(.int (0 : Int32))])) rfl (by rw [hml]; rfl) (argsL := [(.int (0 : Int32))]) (rest := []) (lenOf own_law_pd0 rfl) rfl (by show 2 * 0 + _ ≤ _; exact Nat.le_of_eq rfl) (hb hby at_21) (fun _ _ => ⟨rfl, R97, (by decide : 0 + 0 ≤ _), (by decide : 0 + 0 ≤ _)⟩)
      dsimp only [Pt.U, Pt.locs, Pt.cells, Pt.slots] at X99 l99 y99 z99 st99 hQ99
      subst l99 y99 z99
      obtain ⟨rfl, N99q, R99⟩ := hQ99
      have N99 := Fr.app N97 N99q
      refine ownStep (fun _ k => st99 _ k) ?_
      refine ownStep (fun _ k => XS.astore X99.here hx rfl (hb hby at_24) rfl rfl (l' := #[.val (.int px), .val (.int py), .val (.int (2 : Int32)), .val (.int (0 : Int32)), .val (.ref w2), .val (.ref w0), .unset, .unset, .unset, .unset]) rfl k) ?_
      refine ownStep (fun _ k => XS.aload X99.here hx rfl (hb hby at_26) rfl rfl k) ?_
      show ownGo p.tables e below (T99.setTop (mkF m 28 #[.val (.int px), .val (.int py), .val (.int (2 : Int32)), .val (.int (0 : Int32)), .val (.ref w2), .val (.ref w0), .unset, .unset, .unset, .unset] [(.ref w2)])) _
      have Zs102 : n0 ≤ h0.size := Nat.le_trans Z0 KP0.1
      obtain ⟨_, _, ⟨T101, L101, k101, n101⟩, -, X101, ⟨Lc101, hQ101, l101, y101, z101⟩, st101⟩ := Jvm.LawKit.callS X99 hx (y := (⟨"com/example/fixd/fixd/client/LocationProvider", "status", "(Lcom/example/fixd/fixd/location/Provider$Status;)I"⟩ : MethodName)) hown (mvT hZ (hw _ (List.mem_of_getElem? (i := 8) rfl))) (mvT hZ (hw _ (List.mem_of_getElem? (i := 9) rfl))) (mvT hZ (hw _ (List.mem_of_getElem? (i := 10) rfl))) (mvT hZ (hw _ (List.mem_of_getElem? (i := 11) rfl))) (by decide) (backOf (W := 0) (own_stat2 l Z a0 hw [] w0 w1 w2 sw cl h0 n0 Zs102 S0 S1 S2 E0 E1 E2 F0 F1 F2 Ssw Asw El0 El1 El2) hZ (hw _ (List.mem_of_getElem? (i := 11) rfl)) (hw _ (List.mem_of_getElem? (i := 10) rfl)) (by decide) (by decide)) (g := (mkF m 28 #[.val (.int px), .val (.int py), .val (.int (2 : Int32)), .val (.int (0 : Int32)), .val (.ref w2), .val (.ref w0), .unset, .unset, .unset, .unset] [(.ref w2)])) rfl (by rw [hml]; rfl) (argsL := [(.ref w2)]) (rest := []) (lenOf own_law_pd1 rfl) rfl (by show 2 * 0 + _ ≤ _; exact Nat.le_of_eq rfl) (hb hby at_28) (fun _ _ => ⟨rfl, R99, (by decide : 0 + 0 ≤ _), (by decide : 0 + 0 ≤ _)⟩)
      dsimp only [Pt.U, Pt.locs, Pt.cells, Pt.slots] at X101 l101 y101 z101 st101 hQ101
      subst l101 y101 z101
      obtain ⟨rfl, N101q, R101⟩ := hQ101
      have N101 := Fr.app N99 N101q
      refine ownStep (fun _ k => st101 _ k) ?_
      refine ownStep (fun _ k => XS.istore X101.here hx rfl (hb hby at_31) rfl (l' := #[.val (.int px), .val (.int py), .val (.int (2 : Int32)), .val (.int (0 : Int32)), .val (.ref w2), .val (.ref w0), .val (.int (2 : Int32)), .unset, .unset, .unset]) rfl k) ?_
      refine ownStep (fun _ k => XS.aload X101.here hx rfl (hb hby at_33) rfl rfl k) ?_
      show ownGo p.tables e below (T101.setTop (mkF m 35 #[.val (.int px), .val (.int py), .val (.int (2 : Int32)), .val (.int (0 : Int32)), .val (.ref w2), .val (.ref w0), .val (.int (2 : Int32)), .unset, .unset, .unset] [(.ref w0)])) _
      have Zs104 : n0 ≤ h0.size := Nat.le_trans Z0 KP0.1
      obtain ⟨_, _, ⟨T103, L103, k103, n103⟩, -, X103, ⟨Lc103, hQ103, l103, y103, z103⟩, st103⟩ := Jvm.LawKit.callS X101 hx (y := (⟨"com/example/fixd/fixd/client/LocationProvider", "status", "(Lcom/example/fixd/fixd/location/Provider$Status;)I"⟩ : MethodName)) hown (mvT hZ (hw _ (List.mem_of_getElem? (i := 8) rfl))) (mvT hZ (hw _ (List.mem_of_getElem? (i := 9) rfl))) (mvT hZ (hw _ (List.mem_of_getElem? (i := 10) rfl))) (mvT hZ (hw _ (List.mem_of_getElem? (i := 11) rfl))) (by decide) (backOf (W := 0) (own_stat0 l Z a0 hw [] w0 w1 w2 sw cl h0 n0 Zs104 S0 S1 S2 E0 E1 E2 F0 F1 F2 Ssw Asw El0 El1 El2) hZ (hw _ (List.mem_of_getElem? (i := 11) rfl)) (hw _ (List.mem_of_getElem? (i := 10) rfl)) (by decide) (by decide)) (g := (mkF m 35 #[.val (.int px), .val (.int py), .val (.int (2 : Int32)), .val (.int (0 : Int32)), .val (.ref w2), .val (.ref w0), .val (.int (2 : Int32)), .unset, .unset, .unset] [(.ref w0)])) rfl (by rw [hml]; rfl) (argsL := [(.ref w0)]) (rest := []) (lenOf own_law_pd1 rfl) rfl (by show 2 * 0 + _ ≤ _; exact Nat.le_of_eq rfl) (hb hby at_35) (fun _ _ => ⟨rfl, R101, (by decide : 0 + 0 ≤ _), (by decide : 0 + 0 ≤ _)⟩)
      dsimp only [Pt.U, Pt.locs, Pt.cells, Pt.slots] at X103 l103 y103 z103 st103 hQ103
      subst l103 y103 z103
      obtain ⟨rfl, N103q, R103⟩ := hQ103
      have N103 := Fr.app N101 N103q
      refine ownStep (fun _ k => st103 _ k) ?_
      refine ownStep (fun _ k => XS.istore X103.here hx rfl (hb hby at_38) rfl (l' := #[.val (.int px), .val (.int py), .val (.int (2 : Int32)), .val (.int (0 : Int32)), .val (.ref w2), .val (.ref w0), .val (.int (2 : Int32)), .val (.int (0 : Int32)), .unset, .unset]) rfl k) ?_
      refine ownStep (fun _ k => XS.iload X103.here hx rfl (hb hby at_40) rfl  k) ?_
      refine ownStep (fun _ k => XS.iloadN X103.here hx rfl (hb hby at_42) rfl  k) ?_
      show ownGo p.tables e below (T103.setTop (mkF m 43 #[.val (.int px), .val (.int py), .val (.int (2 : Int32)), .val (.int (0 : Int32)), .val (.ref w2), .val (.ref w0), .val (.int (2 : Int32)), .val (.int (0 : Int32)), .unset, .unset] [(.int (2 : Int32)), (.int (2 : Int32))])) _
      have Zs106 : n0 ≤ h0.size := Nat.le_trans Z0 KP0.1
      obtain ⟨_, _, ⟨T105, L105, k105, n105⟩, -, X105, ⟨Lc105, hQ105, l105, y105, z105⟩, st105⟩ := Jvm.LawKit.callS X103 hx (y := (⟨"com/example/fixd/fixd/client/LocationProviderStatusPinLaw", "expected", "(I)I"⟩ : MethodName)) hown (mvT hZ (hw _ (List.mem_of_getElem? (i := 24) rfl))) (mvT hZ (hw _ (List.mem_of_getElem? (i := 25) rfl))) (mvT hZ (hw _ (List.mem_of_getElem? (i := 3) rfl))) (mvT hZ (hw _ (List.mem_of_getElem? (i := 26) rfl))) (by decide) (backOf (W := 1) (own_exp2 l Z a0 hw []  h0 n0 Zs106 ) hZ (hw _ (List.mem_of_getElem? (i := 26) rfl)) (hw _ (List.mem_of_getElem? (i := 3) rfl)) (by decide) (by decide)) (g := (mkF m 43 #[.val (.int px), .val (.int py), .val (.int (2 : Int32)), .val (.int (0 : Int32)), .val (.ref w2), .val (.ref w0), .val (.int (2 : Int32)), .val (.int (0 : Int32)), .unset, .unset] [(.int (2 : Int32)), (.int (2 : Int32))])) rfl (by rw [hml]; rfl) (argsL := [(.int (2 : Int32))]) (rest := [(.int (2 : Int32))]) (lenOf own_law_pd2 rfl) rfl (by show 2 * 0 + _ ≤ _; exact Nat.le_of_eq rfl) (hb hby at_43) (fun _ _ => ⟨rfl, R103, (by decide : 0 + 0 ≤ _), (by decide : 0 + 0 ≤ _)⟩)
      dsimp only [Pt.U, Pt.locs, Pt.cells, Pt.slots] at X105 l105 y105 z105 st105 hQ105
      subst l105 y105 z105
      obtain ⟨rfl, N105q, R105⟩ := hQ105
      have N105 := Fr.app N103 N105q
      refine ownStep (fun _ k => st105 _ k) ?_
      refine ownStep (fun _ k => XS.icmpNo X105.here hx rfl (hb hby at_46) rfl (teq (by decide : (2 : Int32) = (2 : Int32))).2 k) ?_
      refine ownStep (fun _ k => XS.iload X105.here hx rfl (hb hby at_49) rfl  k) ?_
      refine ownStep (fun _ k => XS.iloadN X105.here hx rfl (hb hby at_51) rfl  k) ?_
      show ownGo p.tables e below (T105.setTop (mkF m 52 #[.val (.int px), .val (.int py), .val (.int (2 : Int32)), .val (.int (0 : Int32)), .val (.ref w2), .val (.ref w0), .val (.int (2 : Int32)), .val (.int (0 : Int32)), .unset, .unset] [(.int (2 : Int32)), (.int (2 : Int32))])) _
      have Zs108 : n0 ≤ h0.size := Nat.le_trans Z0 KP0.1
      obtain ⟨_, _, ⟨T107, L107, k107, n107⟩, -, X107, ⟨Lc107, hQ107, l107, y107, z107⟩, st107⟩ := Jvm.LawKit.callS X105 hx (y := (⟨"com/example/fixd/fixd/client/LocationProviderStatusPinLaw", "named", "(I)I"⟩ : MethodName)) hown (mvT hZ (hw _ (List.mem_of_getElem? (i := 27) rfl))) (mvT hZ (hw _ (List.mem_of_getElem? (i := 28) rfl))) (mvT hZ (hw _ (List.mem_of_getElem? (i := 3) rfl))) (mvT hZ (hw _ (List.mem_of_getElem? (i := 29) rfl))) (by decide) (backOf (W := 1) (own_named2 l Z a0 hw []  h0 n0 Zs108 ) hZ (hw _ (List.mem_of_getElem? (i := 29) rfl)) (hw _ (List.mem_of_getElem? (i := 3) rfl)) (by decide) (by decide)) (g := (mkF m 52 #[.val (.int px), .val (.int py), .val (.int (2 : Int32)), .val (.int (0 : Int32)), .val (.ref w2), .val (.ref w0), .val (.int (2 : Int32)), .val (.int (0 : Int32)), .unset, .unset] [(.int (2 : Int32)), (.int (2 : Int32))])) rfl (by rw [hml]; rfl) (argsL := [(.int (2 : Int32))]) (rest := [(.int (2 : Int32))]) (lenOf own_law_pd2 rfl) rfl (by show 2 * 0 + _ ≤ _; exact Nat.le_of_eq rfl) (hb hby at_52) (fun _ _ => ⟨rfl, R105, (by decide : 0 + 0 ≤ _), (by decide : 0 + 0 ≤ _)⟩)
      dsimp only [Pt.U, Pt.locs, Pt.cells, Pt.slots] at X107 l107 y107 z107 st107 hQ107
      subst l107 y107 z107
      obtain ⟨rfl, N107q, R107⟩ := hQ107
      have N107 := Fr.app N105 N107q
      refine ownStep (fun _ k => st107 _ k) ?_
      refine ownStep (fun _ k => XS.icmpNo X107.here hx rfl (hb hby at_55) rfl (teq (by decide : (2 : Int32) = (2 : Int32))).2 k) ?_
      refine ownStep (fun _ k => XS.iload X107.here hx rfl (hb hby at_58) rfl  k) ?_
      refine ownStep (fun _ k => XS.iloadN X107.here hx rfl (hb hby at_60) rfl  k) ?_
      show ownGo p.tables e below (T107.setTop (mkF m 61 #[.val (.int px), .val (.int py), .val (.int (2 : Int32)), .val (.int (0 : Int32)), .val (.ref w2), .val (.ref w0), .val (.int (2 : Int32)), .val (.int (0 : Int32)), .unset, .unset] [(.int (0 : Int32)), (.int (0 : Int32))])) _
      have Zs110 : n0 ≤ h0.size := Nat.le_trans Z0 KP0.1
      obtain ⟨_, _, ⟨T109, L109, k109, n109⟩, -, X109, ⟨Lc109, hQ109, l109, y109, z109⟩, st109⟩ := Jvm.LawKit.callS X107 hx (y := (⟨"com/example/fixd/fixd/client/LocationProviderStatusPinLaw", "expected", "(I)I"⟩ : MethodName)) hown (mvT hZ (hw _ (List.mem_of_getElem? (i := 24) rfl))) (mvT hZ (hw _ (List.mem_of_getElem? (i := 25) rfl))) (mvT hZ (hw _ (List.mem_of_getElem? (i := 3) rfl))) (mvT hZ (hw _ (List.mem_of_getElem? (i := 26) rfl))) (by decide) (backOf (W := 1) (own_exp0 l Z a0 hw []  h0 n0 Zs110 ) hZ (hw _ (List.mem_of_getElem? (i := 26) rfl)) (hw _ (List.mem_of_getElem? (i := 3) rfl)) (by decide) (by decide)) (g := (mkF m 61 #[.val (.int px), .val (.int py), .val (.int (2 : Int32)), .val (.int (0 : Int32)), .val (.ref w2), .val (.ref w0), .val (.int (2 : Int32)), .val (.int (0 : Int32)), .unset, .unset] [(.int (0 : Int32)), (.int (0 : Int32))])) rfl (by rw [hml]; rfl) (argsL := [(.int (0 : Int32))]) (rest := [(.int (0 : Int32))]) (lenOf own_law_pd2 rfl) rfl (by show 2 * 0 + _ ≤ _; exact Nat.le_of_eq rfl) (hb hby at_61) (fun _ _ => ⟨rfl, R107, (by decide : 0 + 0 ≤ _), (by decide : 0 + 0 ≤ _)⟩)
      dsimp only [Pt.U, Pt.locs, Pt.cells, Pt.slots] at X109 l109 y109 z109 st109 hQ109
      subst l109 y109 z109
      obtain ⟨rfl, N109q, R109⟩ := hQ109
      have N109 := Fr.app N107 N109q
      refine ownStep (fun _ k => st109 _ k) ?_
      refine ownStep (fun _ k => XS.icmpNo X109.here hx rfl (hb hby at_64) rfl (teq (by decide : (0 : Int32) = (0 : Int32))).2 k) ?_
      refine ownStep (fun _ k => XS.iload X109.here hx rfl (hb hby at_67) rfl  k) ?_
      refine ownStep (fun _ k => XS.iloadN X109.here hx rfl (hb hby at_69) rfl  k) ?_
      show ownGo p.tables e below (T109.setTop (mkF m 70 #[.val (.int px), .val (.int py), .val (.int (2 : Int32)), .val (.int (0 : Int32)), .val (.ref w2), .val (.ref w0), .val (.int (2 : Int32)), .val (.int (0 : Int32)), .unset, .unset] [(.int (0 : Int32)), (.int (0 : Int32))])) _
      have Zs112 : n0 ≤ h0.size := Nat.le_trans Z0 KP0.1
      obtain ⟨_, _, ⟨T111, L111, k111, n111⟩, -, X111, ⟨Lc111, hQ111, l111, y111, z111⟩, st111⟩ := Jvm.LawKit.callS X109 hx (y := (⟨"com/example/fixd/fixd/client/LocationProviderStatusPinLaw", "named", "(I)I"⟩ : MethodName)) hown (mvT hZ (hw _ (List.mem_of_getElem? (i := 27) rfl))) (mvT hZ (hw _ (List.mem_of_getElem? (i := 28) rfl))) (mvT hZ (hw _ (List.mem_of_getElem? (i := 3) rfl))) (mvT hZ (hw _ (List.mem_of_getElem? (i := 29) rfl))) (by decide) (backOf (W := 1) (own_named0 l Z a0 hw []  h0 n0 Zs112 ) hZ (hw _ (List.mem_of_getElem? (i := 29) rfl)) (hw _ (List.mem_of_getElem? (i := 3) rfl)) (by decide) (by decide)) (g := (mkF m 70 #[.val (.int px), .val (.int py), .val (.int (2 : Int32)), .val (.int (0 : Int32)), .val (.ref w2), .val (.ref w0), .val (.int (2 : Int32)), .val (.int (0 : Int32)), .unset, .unset] [(.int (0 : Int32)), (.int (0 : Int32))])) rfl (by rw [hml]; rfl) (argsL := [(.int (0 : Int32))]) (rest := [(.int (0 : Int32))]) (lenOf own_law_pd2 rfl) rfl (by show 2 * 0 + _ ≤ _; exact Nat.le_of_eq rfl) (hb hby at_70) (fun _ _ => ⟨rfl, R109, (by decide : 0 + 0 ≤ _), (by decide : 0 + 0 ≤ _)⟩)
      dsimp only [Pt.U, Pt.locs, Pt.cells, Pt.slots] at X111 l111 y111 z111 st111 hQ111
      subst l111 y111 z111
      obtain ⟨rfl, N111q, R111⟩ := hQ111
      have N111 := Fr.app N109 N111q
      refine ownStep (fun _ k => st111 _ k) ?_
      refine ownStep (fun _ k => XS.icmpNo X111.here hx rfl (hb hby at_73) rfl (teq (by decide : (0 : Int32) = (0 : Int32))).2 k) ?_
      refine ownStep (fun _ k => XS.iconst X111.here hx rfl (hb hby at_76) k) ?_
      refine ownStep (fun _ k => XS.goto X111.here hx rfl (pc0 := 77) (pc' := 81) rfl (hb hby at_77) (by decide) (by decide) k) ?_
      refine ownStep (fun _ k => XS.istore X111.here hx rfl (hb hby at_81) rfl (l' := #[.val (.int px), .val (.int py), .val (.int (2 : Int32)), .val (.int (0 : Int32)), .val (.ref w2), .val (.ref w0), .val (.int (2 : Int32)), .val (.int (0 : Int32)), .val (.int (1 : Int32)), .unset]) rfl k) ?_
      show ownGo p.tables e below (T111.setTop (mkF m 83 #[.val (.int px), .val (.int py), .val (.int (2 : Int32)), .val (.int (0 : Int32)), .val (.ref w2), .val (.ref w0), .val (.int (2 : Int32)), .val (.int (0 : Int32)), .val (.int (1 : Int32)), .unset] [])) _
      refine ownStep (fun _ k => XS.iload X111.here hx rfl (hb hby at_83) rfl  k) ?_
      refine ownStep (fun _ k => XS.iload X111.here hx rfl (hb hby at_85) rfl  k) ?_
      refine ownStep (fun _ k => XS.icmpYes X111.here hx rfl (pc0 := 87) (pc' := 94) rfl (hb hby at_87) rfl (feq (by decide : ¬ (2 : Int32) = (0 : Int32))).2 (by decide) (by decide) k) ?_
      refine ownStep (fun _ k => XS.iconst X111.here hx rfl (hb hby at_94) k) ?_
      refine ownStep (fun _ k => XS.iloadN X111.here hx rfl (hb hby at_95) rfl  k) ?_
      show ownGo p.tables e below (T111.setTop (mkF m 96 #[.val (.int px), .val (.int py), .val (.int (2 : Int32)), .val (.int (0 : Int32)), .val (.ref w2), .val (.ref w0), .val (.int (2 : Int32)), .val (.int (0 : Int32)), .val (.int (1 : Int32)), .unset] [(.int (2 : Int32)), (.int (0 : Int32))])) _
      refine ownStep (fun _ k => XS.iloadN X111.here hx rfl (hb hby at_96) rfl  k) ?_
      refine ownStep (fun _ k => XS.icmpYes X111.here hx rfl (pc0 := 97) (pc' := 104) rfl (hb hby at_97) rfl (feq (by decide : ¬ (2 : Int32) = (0 : Int32))).2 (by decide) (by decide) k) ?_
      refine ownStep (fun _ k => XS.iconst X111.here hx rfl (hb hby at_104) k) ?_
      refine ownStep (fun _ k => XS.icmpNo X111.here hx rfl (hb hby at_105) rfl (teq (by decide : (0 : Int32) = (0 : Int32))).2 k) ?_
      refine ownStep (fun _ k => XS.iconst X111.here hx rfl (hb hby at_108) k) ?_
      show ownGo p.tables e below (T111.setTop (mkF m 109 #[.val (.int px), .val (.int py), .val (.int (2 : Int32)), .val (.int (0 : Int32)), .val (.ref w2), .val (.ref w0), .val (.int (2 : Int32)), .val (.int (0 : Int32)), .val (.int (1 : Int32)), .unset] [(.int (1 : Int32))])) _
      refine ownStep (fun _ k => XS.goto X111.here hx rfl (pc0 := 109) (pc' := 113) rfl (hb hby at_109) (by decide) (by decide) k) ?_
      refine ownStep (fun _ k => XS.istore X111.here hx rfl (hb hby at_113) rfl (l' := #[.val (.int px), .val (.int py), .val (.int (2 : Int32)), .val (.int (0 : Int32)), .val (.ref w2), .val (.ref w0), .val (.int (2 : Int32)), .val (.int (0 : Int32)), .val (.int (1 : Int32)), .val (.int (1 : Int32))]) rfl k) ?_
      refine ownStep (fun _ k => XS.iload X111.here hx rfl (hb hby at_115) rfl  k) ?_
      refine ownStep (fun _ k => XS.ifNo X111.here hx rfl (hb hby at_117) rfl ((if0 _ _).trans (feq (by decide : ¬ (1 : Int32) = (0 : Int32))).1) k) ?_
      refine ownStep (fun _ k => XS.iload X111.here hx rfl (hb hby at_120) rfl  k) ?_
      show ownGo p.tables e below (T111.setTop (mkF m 122 #[.val (.int px), .val (.int py), .val (.int (2 : Int32)), .val (.int (0 : Int32)), .val (.ref w2), .val (.ref w0), .val (.int (2 : Int32)), .val (.int (0 : Int32)), .val (.int (1 : Int32)), .val (.int (1 : Int32))] [(.int (1 : Int32))])) _
      refine ownStep (fun _ k => XS.ifNo X111.here hx rfl (hb hby at_122) rfl ((if0 _ _).trans (feq (by decide : ¬ (1 : Int32) = (0 : Int32))).1) k) ?_
      refine ownStep (fun _ k => XS.iconst X111.here hx rfl (hb hby at_125) k) ?_
      refine ownStep (fun _ k => XS.goto X111.here hx rfl (pc0 := 126) (pc' := 130) rfl (hb hby at_126) (by decide) (by decide) k) ?_
      show ownGo p.tables e below (T111.setTop (mkF m 130 #[.val (.int px), .val (.int py), .val (.int (2 : Int32)), .val (.int (0 : Int32)), .val (.ref w2), .val (.ref w0), .val (.int (2 : Int32)), .val (.int (0 : Int32)), .val (.int (1 : Int32)), .val (.int (1 : Int32))] [(.int (1 : Int32))])) _
      exact ownRet X111 (v := some (.int (1 : Int32))) Bd.notSynchronized (fun h => by rw [Bd.returns] at h; cases h) (fun _ hr => retN X111 hx (t := .boolean) Bd.returns (by simp) (hb hby at_130) hr) (by rw [R111]; exact ⟨rfl, N111, rfl⟩) (by decide) (by decide)
    · rw [hi]
      refine ownStep (fun _ k => XS.istoreN X0.here hx rfl (hb hby at_6) rfl (l' := #[.val (.int px), .val (.int py), .val (.int (2 : Int32)), .unset, .unset, .unset, .unset, .unset, .unset, .unset]) rfl k) ?_
      refine ownStep (fun _ k => XS.iloadN X0.here hx rfl (hb hby at_7) rfl  k) ?_
      show ownGo p.tables e below (s₁.setTop (mkF m 8 #[.val (.int px), .val (.int py), .val (.int (2 : Int32)), .unset, .unset, .unset, .unset, .unset, .unset, .unset] [(.int py)])) _
      refine ownStep (X0.ldcInt hx hown (mvT hZ (hw _ (List.mem_of_getElem? (i := 0) rfl))) (g := (mkF m 8 #[.val (.int px), .val (.int py), .val (.int (2 : Int32)), .unset, .unset, .unset, .unset, .unset, .unset, .unset] [(.int py)])) rfl (hb hby at_8)) ?_
      refine ownStep (fun _ k => XS.iand X0.here hx rfl (hb hby at_10) rfl k) ?_
      refine ownStep (fun _ k => XS.iconst X0.here hx rfl (hb hby at_11) k) ?_
      show ownGo p.tables e below (s₁.setTop (mkF m 12 #[.val (.int px), .val (.int py), .val (.int (2 : Int32)), .unset, .unset, .unset, .unset, .unset, .unset, .unset] [(.int (3 : Int32)), (.int (py &&& (2147483647 : Int32)))])) _
      refine ownStep (fun _ k => iremM X0 hx rfl (hb hby at_12) rfl (by decide) k) ?_
      show ownGo p.tables e below (s₁.setTop (mkF m 13 #[.val (.int px), .val (.int py), .val (.int (2 : Int32)), .unset, .unset, .unset, .unset, .unset, .unset, .unset] [(.int ((py &&& (2147483647 : Int32)) % (3 : Int32)))])) _
      rw [hj]
      refine ownStep (fun _ k => XS.istoreN X0.here hx rfl (hb hby at_13) rfl (l' := #[.val (.int px), .val (.int py), .val (.int (2 : Int32)), .val (.int (1 : Int32)), .unset, .unset, .unset, .unset, .unset, .unset]) rfl k) ?_
      refine ownStep (fun _ k => XS.iloadN X0.here hx rfl (hb hby at_14) rfl  k) ?_
      show ownGo p.tables e below (s₁.setTop (mkF m 15 #[.val (.int px), .val (.int py), .val (.int (2 : Int32)), .val (.int (1 : Int32)), .unset, .unset, .unset, .unset, .unset, .unset] [(.int (2 : Int32))])) _
      have Zs114 : n0 ≤ h0.size := Nat.le_trans Z0 KP0.1
      obtain ⟨_, _, ⟨T113, L113, k113, n113⟩, -, X113, ⟨Lc113, hQ113, l113, y113, z113⟩, st113⟩ := Jvm.LawKit.callS X0 hx (y := (⟨"com/example/fixd/fixd/client/LocationProviderStatusPinLaw", "pick", "(I)Lcom/example/fixd/fixd/location/Provider$Status;"⟩ : MethodName)) hown (mvT hZ (hw _ (List.mem_of_getElem? (i := 1) rfl))) (mvT hZ (hw _ (List.mem_of_getElem? (i := 2) rfl))) (mvT hZ (hw _ (List.mem_of_getElem? (i := 3) rfl))) (mvT hZ (hw _ (List.mem_of_getElem? (i := 4) rfl))) (by decide) (backOf (W := 0) (own_pick2 l Z a0 hw [] w0 w1 w2 sw cl h0 n0 Zs114 S0 S1 S2) hZ (hw _ (List.mem_of_getElem? (i := 4) rfl)) (hw _ (List.mem_of_getElem? (i := 3) rfl)) (by decide) (by decide)) (g := (mkF m 15 #[.val (.int px), .val (.int py), .val (.int (2 : Int32)), .val (.int (1 : Int32)), .unset, .unset, .unset, .unset, .unset, .unset] [(.int (2 : Int32))])) rfl (by rw [hml]; rfl) (argsL := [(.int (2 : Int32))]) (rest := []) (lenOf own_law_pd0 rfl) rfl (by show 2 * 0 + _ ≤ _; exact Nat.le_of_eq rfl) (hb hby at_15) (fun _ _ => ⟨rfl, e0, (by decide : 0 + 0 ≤ _), (by decide : 0 + 0 ≤ _)⟩)
      dsimp only [Pt.U, Pt.locs, Pt.cells, Pt.slots] at X113 l113 y113 z113 st113 hQ113
      subst l113 y113 z113
      obtain ⟨rfl, N113q, R113⟩ := hQ113
      have N113 := Fr.app N0 N113q
      refine ownStep (fun _ k => st113 _ k) ?_
      refine ownStep (fun _ k => XS.astore X113.here hx rfl (hb hby at_18) rfl rfl (l' := #[.val (.int px), .val (.int py), .val (.int (2 : Int32)), .val (.int (1 : Int32)), .val (.ref w2), .unset, .unset, .unset, .unset, .unset]) rfl k) ?_
      refine ownStep (fun _ k => XS.iloadN X113.here hx rfl (hb hby at_20) rfl  k) ?_
      show ownGo p.tables e below (T113.setTop (mkF m 21 #[.val (.int px), .val (.int py), .val (.int (2 : Int32)), .val (.int (1 : Int32)), .val (.ref w2), .unset, .unset, .unset, .unset, .unset] [(.int (1 : Int32))])) _
      have Zs116 : n0 ≤ h0.size := Nat.le_trans Z0 KP0.1
      obtain ⟨_, _, ⟨T115, L115, k115, n115⟩, -, X115, ⟨Lc115, hQ115, l115, y115, z115⟩, st115⟩ := Jvm.LawKit.callS X113 hx (y := (⟨"com/example/fixd/fixd/client/LocationProviderStatusPinLaw", "pick", "(I)Lcom/example/fixd/fixd/location/Provider$Status;"⟩ : MethodName)) hown (mvT hZ (hw _ (List.mem_of_getElem? (i := 1) rfl))) (mvT hZ (hw _ (List.mem_of_getElem? (i := 2) rfl))) (mvT hZ (hw _ (List.mem_of_getElem? (i := 3) rfl))) (mvT hZ (hw _ (List.mem_of_getElem? (i := 4) rfl))) (by decide) (backOf (W := 0) (own_pick1 l Z a0 hw [] w0 w1 w2 sw cl h0 n0 Zs116 S0 S1 S2) hZ (hw _ (List.mem_of_getElem? (i := 4) rfl)) (hw _ (List.mem_of_getElem? (i := 3) rfl)) (by decide) (by decide)) (g := (mkF m 21 #[.val (.int px), .val (.int py), .val (.int (2 : Int32)), .val (.int (1 : Int32)), .val (.ref w2), .unset, .unset, .unset, .unset, .unset] [(.int (1 : Int32))])) rfl (by rw [hml]; rfl) (argsL := [(.int (1 : Int32))]) (rest := []) (lenOf own_law_pd0 rfl) rfl (by show 2 * 0 + _ ≤ _; exact Nat.le_of_eq rfl) (hb hby at_21) (fun _ _ => ⟨rfl, R113, (by decide : 0 + 0 ≤ _), (by decide : 0 + 0 ≤ _)⟩)
      dsimp only [Pt.U, Pt.locs, Pt.cells, Pt.slots] at X115 l115 y115 z115 st115 hQ115
      subst l115 y115 z115
      obtain ⟨rfl, N115q, R115⟩ := hQ115
      have N115 := Fr.app N113 N115q
      refine ownStep (fun _ k => st115 _ k) ?_
      refine ownStep (fun _ k => XS.astore X115.here hx rfl (hb hby at_24) rfl rfl (l' := #[.val (.int px), .val (.int py), .val (.int (2 : Int32)), .val (.int (1 : Int32)), .val (.ref w2), .val (.ref w1), .unset, .unset, .unset, .unset]) rfl k) ?_
      refine ownStep (fun _ k => XS.aload X115.here hx rfl (hb hby at_26) rfl rfl k) ?_
      show ownGo p.tables e below (T115.setTop (mkF m 28 #[.val (.int px), .val (.int py), .val (.int (2 : Int32)), .val (.int (1 : Int32)), .val (.ref w2), .val (.ref w1), .unset, .unset, .unset, .unset] [(.ref w2)])) _
      have Zs118 : n0 ≤ h0.size := Nat.le_trans Z0 KP0.1
      obtain ⟨_, _, ⟨T117, L117, k117, n117⟩, -, X117, ⟨Lc117, hQ117, l117, y117, z117⟩, st117⟩ := Jvm.LawKit.callS X115 hx (y := (⟨"com/example/fixd/fixd/client/LocationProvider", "status", "(Lcom/example/fixd/fixd/location/Provider$Status;)I"⟩ : MethodName)) hown (mvT hZ (hw _ (List.mem_of_getElem? (i := 8) rfl))) (mvT hZ (hw _ (List.mem_of_getElem? (i := 9) rfl))) (mvT hZ (hw _ (List.mem_of_getElem? (i := 10) rfl))) (mvT hZ (hw _ (List.mem_of_getElem? (i := 11) rfl))) (by decide) (backOf (W := 0) (own_stat2 l Z a0 hw [] w0 w1 w2 sw cl h0 n0 Zs118 S0 S1 S2 E0 E1 E2 F0 F1 F2 Ssw Asw El0 El1 El2) hZ (hw _ (List.mem_of_getElem? (i := 11) rfl)) (hw _ (List.mem_of_getElem? (i := 10) rfl)) (by decide) (by decide)) (g := (mkF m 28 #[.val (.int px), .val (.int py), .val (.int (2 : Int32)), .val (.int (1 : Int32)), .val (.ref w2), .val (.ref w1), .unset, .unset, .unset, .unset] [(.ref w2)])) rfl (by rw [hml]; rfl) (argsL := [(.ref w2)]) (rest := []) (lenOf own_law_pd1 rfl) rfl (by show 2 * 0 + _ ≤ _; exact Nat.le_of_eq rfl) (hb hby at_28) (fun _ _ => ⟨rfl, R115, (by decide : 0 + 0 ≤ _), (by decide : 0 + 0 ≤ _)⟩)
      dsimp only [Pt.U, Pt.locs, Pt.cells, Pt.slots] at X117 l117 y117 z117 st117 hQ117
      subst l117 y117 z117
      obtain ⟨rfl, N117q, R117⟩ := hQ117
      have N117 := Fr.app N115 N117q
      refine ownStep (fun _ k => st117 _ k) ?_
      refine ownStep (fun _ k => XS.istore X117.here hx rfl (hb hby at_31) rfl (l' := #[.val (.int px), .val (.int py), .val (.int (2 : Int32)), .val (.int (1 : Int32)), .val (.ref w2), .val (.ref w1), .val (.int (2 : Int32)), .unset, .unset, .unset]) rfl k) ?_
      refine ownStep (fun _ k => XS.aload X117.here hx rfl (hb hby at_33) rfl rfl k) ?_
      show ownGo p.tables e below (T117.setTop (mkF m 35 #[.val (.int px), .val (.int py), .val (.int (2 : Int32)), .val (.int (1 : Int32)), .val (.ref w2), .val (.ref w1), .val (.int (2 : Int32)), .unset, .unset, .unset] [(.ref w1)])) _
      have Zs120 : n0 ≤ h0.size := Nat.le_trans Z0 KP0.1
      obtain ⟨_, _, ⟨T119, L119, k119, n119⟩, -, X119, ⟨Lc119, hQ119, l119, y119, z119⟩, st119⟩ := Jvm.LawKit.callS X117 hx (y := (⟨"com/example/fixd/fixd/client/LocationProvider", "status", "(Lcom/example/fixd/fixd/location/Provider$Status;)I"⟩ : MethodName)) hown (mvT hZ (hw _ (List.mem_of_getElem? (i := 8) rfl))) (mvT hZ (hw _ (List.mem_of_getElem? (i := 9) rfl))) (mvT hZ (hw _ (List.mem_of_getElem? (i := 10) rfl))) (mvT hZ (hw _ (List.mem_of_getElem? (i := 11) rfl))) (by decide) (backOf (W := 0) (own_stat1 l Z a0 hw [] w0 w1 w2 sw cl h0 n0 Zs120 S0 S1 S2 E0 E1 E2 F0 F1 F2 Ssw Asw El0 El1 El2) hZ (hw _ (List.mem_of_getElem? (i := 11) rfl)) (hw _ (List.mem_of_getElem? (i := 10) rfl)) (by decide) (by decide)) (g := (mkF m 35 #[.val (.int px), .val (.int py), .val (.int (2 : Int32)), .val (.int (1 : Int32)), .val (.ref w2), .val (.ref w1), .val (.int (2 : Int32)), .unset, .unset, .unset] [(.ref w1)])) rfl (by rw [hml]; rfl) (argsL := [(.ref w1)]) (rest := []) (lenOf own_law_pd1 rfl) rfl (by show 2 * 0 + _ ≤ _; exact Nat.le_of_eq rfl) (hb hby at_35) (fun _ _ => ⟨rfl, R117, (by decide : 0 + 0 ≤ _), (by decide : 0 + 0 ≤ _)⟩)
      dsimp only [Pt.U, Pt.locs, Pt.cells, Pt.slots] at X119 l119 y119 z119 st119 hQ119
      subst l119 y119 z119
      obtain ⟨rfl, N119q, R119⟩ := hQ119
      have N119 := Fr.app N117 N119q
      refine ownStep (fun _ k => st119 _ k) ?_
      refine ownStep (fun _ k => XS.istore X119.here hx rfl (hb hby at_38) rfl (l' := #[.val (.int px), .val (.int py), .val (.int (2 : Int32)), .val (.int (1 : Int32)), .val (.ref w2), .val (.ref w1), .val (.int (2 : Int32)), .val (.int (1 : Int32)), .unset, .unset]) rfl k) ?_
      refine ownStep (fun _ k => XS.iload X119.here hx rfl (hb hby at_40) rfl  k) ?_
      refine ownStep (fun _ k => XS.iloadN X119.here hx rfl (hb hby at_42) rfl  k) ?_
      show ownGo p.tables e below (T119.setTop (mkF m 43 #[.val (.int px), .val (.int py), .val (.int (2 : Int32)), .val (.int (1 : Int32)), .val (.ref w2), .val (.ref w1), .val (.int (2 : Int32)), .val (.int (1 : Int32)), .unset, .unset] [(.int (2 : Int32)), (.int (2 : Int32))])) _
      have Zs122 : n0 ≤ h0.size := Nat.le_trans Z0 KP0.1
      obtain ⟨_, _, ⟨T121, L121, k121, n121⟩, -, X121, ⟨Lc121, hQ121, l121, y121, z121⟩, st121⟩ := Jvm.LawKit.callS X119 hx (y := (⟨"com/example/fixd/fixd/client/LocationProviderStatusPinLaw", "expected", "(I)I"⟩ : MethodName)) hown (mvT hZ (hw _ (List.mem_of_getElem? (i := 24) rfl))) (mvT hZ (hw _ (List.mem_of_getElem? (i := 25) rfl))) (mvT hZ (hw _ (List.mem_of_getElem? (i := 3) rfl))) (mvT hZ (hw _ (List.mem_of_getElem? (i := 26) rfl))) (by decide) (backOf (W := 1) (own_exp2 l Z a0 hw []  h0 n0 Zs122 ) hZ (hw _ (List.mem_of_getElem? (i := 26) rfl)) (hw _ (List.mem_of_getElem? (i := 3) rfl)) (by decide) (by decide)) (g := (mkF m 43 #[.val (.int px), .val (.int py), .val (.int (2 : Int32)), .val (.int (1 : Int32)), .val (.ref w2), .val (.ref w1), .val (.int (2 : Int32)), .val (.int (1 : Int32)), .unset, .unset] [(.int (2 : Int32)), (.int (2 : Int32))])) rfl (by rw [hml]; rfl) (argsL := [(.int (2 : Int32))]) (rest := [(.int (2 : Int32))]) (lenOf own_law_pd2 rfl) rfl (by show 2 * 0 + _ ≤ _; exact Nat.le_of_eq rfl) (hb hby at_43) (fun _ _ => ⟨rfl, R119, (by decide : 0 + 0 ≤ _), (by decide : 0 + 0 ≤ _)⟩)
      dsimp only [Pt.U, Pt.locs, Pt.cells, Pt.slots] at X121 l121 y121 z121 st121 hQ121
      subst l121 y121 z121
      obtain ⟨rfl, N121q, R121⟩ := hQ121
      have N121 := Fr.app N119 N121q
      refine ownStep (fun _ k => st121 _ k) ?_
      refine ownStep (fun _ k => XS.icmpNo X121.here hx rfl (hb hby at_46) rfl (teq (by decide : (2 : Int32) = (2 : Int32))).2 k) ?_
      refine ownStep (fun _ k => XS.iload X121.here hx rfl (hb hby at_49) rfl  k) ?_
      refine ownStep (fun _ k => XS.iloadN X121.here hx rfl (hb hby at_51) rfl  k) ?_
      show ownGo p.tables e below (T121.setTop (mkF m 52 #[.val (.int px), .val (.int py), .val (.int (2 : Int32)), .val (.int (1 : Int32)), .val (.ref w2), .val (.ref w1), .val (.int (2 : Int32)), .val (.int (1 : Int32)), .unset, .unset] [(.int (2 : Int32)), (.int (2 : Int32))])) _
      have Zs124 : n0 ≤ h0.size := Nat.le_trans Z0 KP0.1
      obtain ⟨_, _, ⟨T123, L123, k123, n123⟩, -, X123, ⟨Lc123, hQ123, l123, y123, z123⟩, st123⟩ := Jvm.LawKit.callS X121 hx (y := (⟨"com/example/fixd/fixd/client/LocationProviderStatusPinLaw", "named", "(I)I"⟩ : MethodName)) hown (mvT hZ (hw _ (List.mem_of_getElem? (i := 27) rfl))) (mvT hZ (hw _ (List.mem_of_getElem? (i := 28) rfl))) (mvT hZ (hw _ (List.mem_of_getElem? (i := 3) rfl))) (mvT hZ (hw _ (List.mem_of_getElem? (i := 29) rfl))) (by decide) (backOf (W := 1) (own_named2 l Z a0 hw []  h0 n0 Zs124 ) hZ (hw _ (List.mem_of_getElem? (i := 29) rfl)) (hw _ (List.mem_of_getElem? (i := 3) rfl)) (by decide) (by decide)) (g := (mkF m 52 #[.val (.int px), .val (.int py), .val (.int (2 : Int32)), .val (.int (1 : Int32)), .val (.ref w2), .val (.ref w1), .val (.int (2 : Int32)), .val (.int (1 : Int32)), .unset, .unset] [(.int (2 : Int32)), (.int (2 : Int32))])) rfl (by rw [hml]; rfl) (argsL := [(.int (2 : Int32))]) (rest := [(.int (2 : Int32))]) (lenOf own_law_pd2 rfl) rfl (by show 2 * 0 + _ ≤ _; exact Nat.le_of_eq rfl) (hb hby at_52) (fun _ _ => ⟨rfl, R121, (by decide : 0 + 0 ≤ _), (by decide : 0 + 0 ≤ _)⟩)
      dsimp only [Pt.U, Pt.locs, Pt.cells, Pt.slots] at X123 l123 y123 z123 st123 hQ123
      subst l123 y123 z123
      obtain ⟨rfl, N123q, R123⟩ := hQ123
      have N123 := Fr.app N121 N123q
      refine ownStep (fun _ k => st123 _ k) ?_
      refine ownStep (fun _ k => XS.icmpNo X123.here hx rfl (hb hby at_55) rfl (teq (by decide : (2 : Int32) = (2 : Int32))).2 k) ?_
      refine ownStep (fun _ k => XS.iload X123.here hx rfl (hb hby at_58) rfl  k) ?_
      refine ownStep (fun _ k => XS.iloadN X123.here hx rfl (hb hby at_60) rfl  k) ?_
      show ownGo p.tables e below (T123.setTop (mkF m 61 #[.val (.int px), .val (.int py), .val (.int (2 : Int32)), .val (.int (1 : Int32)), .val (.ref w2), .val (.ref w1), .val (.int (2 : Int32)), .val (.int (1 : Int32)), .unset, .unset] [(.int (1 : Int32)), (.int (1 : Int32))])) _
      have Zs126 : n0 ≤ h0.size := Nat.le_trans Z0 KP0.1
      obtain ⟨_, _, ⟨T125, L125, k125, n125⟩, -, X125, ⟨Lc125, hQ125, l125, y125, z125⟩, st125⟩ := Jvm.LawKit.callS X123 hx (y := (⟨"com/example/fixd/fixd/client/LocationProviderStatusPinLaw", "expected", "(I)I"⟩ : MethodName)) hown (mvT hZ (hw _ (List.mem_of_getElem? (i := 24) rfl))) (mvT hZ (hw _ (List.mem_of_getElem? (i := 25) rfl))) (mvT hZ (hw _ (List.mem_of_getElem? (i := 3) rfl))) (mvT hZ (hw _ (List.mem_of_getElem? (i := 26) rfl))) (by decide) (backOf (W := 1) (own_exp1 l Z a0 hw []  h0 n0 Zs126 ) hZ (hw _ (List.mem_of_getElem? (i := 26) rfl)) (hw _ (List.mem_of_getElem? (i := 3) rfl)) (by decide) (by decide)) (g := (mkF m 61 #[.val (.int px), .val (.int py), .val (.int (2 : Int32)), .val (.int (1 : Int32)), .val (.ref w2), .val (.ref w1), .val (.int (2 : Int32)), .val (.int (1 : Int32)), .unset, .unset] [(.int (1 : Int32)), (.int (1 : Int32))])) rfl (by rw [hml]; rfl) (argsL := [(.int (1 : Int32))]) (rest := [(.int (1 : Int32))]) (lenOf own_law_pd2 rfl) rfl (by show 2 * 0 + _ ≤ _; exact Nat.le_of_eq rfl) (hb hby at_61) (fun _ _ => ⟨rfl, R123, (by decide : 0 + 0 ≤ _), (by decide : 0 + 0 ≤ _)⟩)
      dsimp only [Pt.U, Pt.locs, Pt.cells, Pt.slots] at X125 l125 y125 z125 st125 hQ125
      subst l125 y125 z125
      obtain ⟨rfl, N125q, R125⟩ := hQ125
      have N125 := Fr.app N123 N125q
      refine ownStep (fun _ k => st125 _ k) ?_
      refine ownStep (fun _ k => XS.icmpNo X125.here hx rfl (hb hby at_64) rfl (teq (by decide : (1 : Int32) = (1 : Int32))).2 k) ?_
      refine ownStep (fun _ k => XS.iload X125.here hx rfl (hb hby at_67) rfl  k) ?_
      refine ownStep (fun _ k => XS.iloadN X125.here hx rfl (hb hby at_69) rfl  k) ?_
      show ownGo p.tables e below (T125.setTop (mkF m 70 #[.val (.int px), .val (.int py), .val (.int (2 : Int32)), .val (.int (1 : Int32)), .val (.ref w2), .val (.ref w1), .val (.int (2 : Int32)), .val (.int (1 : Int32)), .unset, .unset] [(.int (1 : Int32)), (.int (1 : Int32))])) _
      have Zs128 : n0 ≤ h0.size := Nat.le_trans Z0 KP0.1
      obtain ⟨_, _, ⟨T127, L127, k127, n127⟩, -, X127, ⟨Lc127, hQ127, l127, y127, z127⟩, st127⟩ := Jvm.LawKit.callS X125 hx (y := (⟨"com/example/fixd/fixd/client/LocationProviderStatusPinLaw", "named", "(I)I"⟩ : MethodName)) hown (mvT hZ (hw _ (List.mem_of_getElem? (i := 27) rfl))) (mvT hZ (hw _ (List.mem_of_getElem? (i := 28) rfl))) (mvT hZ (hw _ (List.mem_of_getElem? (i := 3) rfl))) (mvT hZ (hw _ (List.mem_of_getElem? (i := 29) rfl))) (by decide) (backOf (W := 1) (own_named1 l Z a0 hw []  h0 n0 Zs128 ) hZ (hw _ (List.mem_of_getElem? (i := 29) rfl)) (hw _ (List.mem_of_getElem? (i := 3) rfl)) (by decide) (by decide)) (g := (mkF m 70 #[.val (.int px), .val (.int py), .val (.int (2 : Int32)), .val (.int (1 : Int32)), .val (.ref w2), .val (.ref w1), .val (.int (2 : Int32)), .val (.int (1 : Int32)), .unset, .unset] [(.int (1 : Int32)), (.int (1 : Int32))])) rfl (by rw [hml]; rfl) (argsL := [(.int (1 : Int32))]) (rest := [(.int (1 : Int32))]) (lenOf own_law_pd2 rfl) rfl (by show 2 * 0 + _ ≤ _; exact Nat.le_of_eq rfl) (hb hby at_70) (fun _ _ => ⟨rfl, R125, (by decide : 0 + 0 ≤ _), (by decide : 0 + 0 ≤ _)⟩)
      dsimp only [Pt.U, Pt.locs, Pt.cells, Pt.slots] at X127 l127 y127 z127 st127 hQ127
      subst l127 y127 z127
      obtain ⟨rfl, N127q, R127⟩ := hQ127
      have N127 := Fr.app N125 N127q
      refine ownStep (fun _ k => st127 _ k) ?_
      refine ownStep (fun _ k => XS.icmpNo X127.here hx rfl (hb hby at_73) rfl (teq (by decide : (1 : Int32) = (1 : Int32))).2 k) ?_
      refine ownStep (fun _ k => XS.iconst X127.here hx rfl (hb hby at_76) k) ?_
      refine ownStep (fun _ k => XS.goto X127.here hx rfl (pc0 := 77) (pc' := 81) rfl (hb hby at_77) (by decide) (by decide) k) ?_
      refine ownStep (fun _ k => XS.istore X127.here hx rfl (hb hby at_81) rfl (l' := #[.val (.int px), .val (.int py), .val (.int (2 : Int32)), .val (.int (1 : Int32)), .val (.ref w2), .val (.ref w1), .val (.int (2 : Int32)), .val (.int (1 : Int32)), .val (.int (1 : Int32)), .unset]) rfl k) ?_
      show ownGo p.tables e below (T127.setTop (mkF m 83 #[.val (.int px), .val (.int py), .val (.int (2 : Int32)), .val (.int (1 : Int32)), .val (.ref w2), .val (.ref w1), .val (.int (2 : Int32)), .val (.int (1 : Int32)), .val (.int (1 : Int32)), .unset] [])) _
      refine ownStep (fun _ k => XS.iload X127.here hx rfl (hb hby at_83) rfl  k) ?_
      refine ownStep (fun _ k => XS.iload X127.here hx rfl (hb hby at_85) rfl  k) ?_
      refine ownStep (fun _ k => XS.icmpYes X127.here hx rfl (pc0 := 87) (pc' := 94) rfl (hb hby at_87) rfl (feq (by decide : ¬ (2 : Int32) = (1 : Int32))).2 (by decide) (by decide) k) ?_
      refine ownStep (fun _ k => XS.iconst X127.here hx rfl (hb hby at_94) k) ?_
      refine ownStep (fun _ k => XS.iloadN X127.here hx rfl (hb hby at_95) rfl  k) ?_
      show ownGo p.tables e below (T127.setTop (mkF m 96 #[.val (.int px), .val (.int py), .val (.int (2 : Int32)), .val (.int (1 : Int32)), .val (.ref w2), .val (.ref w1), .val (.int (2 : Int32)), .val (.int (1 : Int32)), .val (.int (1 : Int32)), .unset] [(.int (2 : Int32)), (.int (0 : Int32))])) _
      refine ownStep (fun _ k => XS.iloadN X127.here hx rfl (hb hby at_96) rfl  k) ?_
      refine ownStep (fun _ k => XS.icmpYes X127.here hx rfl (pc0 := 97) (pc' := 104) rfl (hb hby at_97) rfl (feq (by decide : ¬ (2 : Int32) = (1 : Int32))).2 (by decide) (by decide) k) ?_
      refine ownStep (fun _ k => XS.iconst X127.here hx rfl (hb hby at_104) k) ?_
      refine ownStep (fun _ k => XS.icmpNo X127.here hx rfl (hb hby at_105) rfl (teq (by decide : (0 : Int32) = (0 : Int32))).2 k) ?_
      refine ownStep (fun _ k => XS.iconst X127.here hx rfl (hb hby at_108) k) ?_
      show ownGo p.tables e below (T127.setTop (mkF m 109 #[.val (.int px), .val (.int py), .val (.int (2 : Int32)), .val (.int (1 : Int32)), .val (.ref w2), .val (.ref w1), .val (.int (2 : Int32)), .val (.int (1 : Int32)), .val (.int (1 : Int32)), .unset] [(.int (1 : Int32))])) _
      refine ownStep (fun _ k => XS.goto X127.here hx rfl (pc0 := 109) (pc' := 113) rfl (hb hby at_109) (by decide) (by decide) k) ?_
      refine ownStep (fun _ k => XS.istore X127.here hx rfl (hb hby at_113) rfl (l' := #[.val (.int px), .val (.int py), .val (.int (2 : Int32)), .val (.int (1 : Int32)), .val (.ref w2), .val (.ref w1), .val (.int (2 : Int32)), .val (.int (1 : Int32)), .val (.int (1 : Int32)), .val (.int (1 : Int32))]) rfl k) ?_
      refine ownStep (fun _ k => XS.iload X127.here hx rfl (hb hby at_115) rfl  k) ?_
      refine ownStep (fun _ k => XS.ifNo X127.here hx rfl (hb hby at_117) rfl ((if0 _ _).trans (feq (by decide : ¬ (1 : Int32) = (0 : Int32))).1) k) ?_
      refine ownStep (fun _ k => XS.iload X127.here hx rfl (hb hby at_120) rfl  k) ?_
      show ownGo p.tables e below (T127.setTop (mkF m 122 #[.val (.int px), .val (.int py), .val (.int (2 : Int32)), .val (.int (1 : Int32)), .val (.ref w2), .val (.ref w1), .val (.int (2 : Int32)), .val (.int (1 : Int32)), .val (.int (1 : Int32)), .val (.int (1 : Int32))] [(.int (1 : Int32))])) _
      refine ownStep (fun _ k => XS.ifNo X127.here hx rfl (hb hby at_122) rfl ((if0 _ _).trans (feq (by decide : ¬ (1 : Int32) = (0 : Int32))).1) k) ?_
      refine ownStep (fun _ k => XS.iconst X127.here hx rfl (hb hby at_125) k) ?_
      refine ownStep (fun _ k => XS.goto X127.here hx rfl (pc0 := 126) (pc' := 130) rfl (hb hby at_126) (by decide) (by decide) k) ?_
      show ownGo p.tables e below (T127.setTop (mkF m 130 #[.val (.int px), .val (.int py), .val (.int (2 : Int32)), .val (.int (1 : Int32)), .val (.ref w2), .val (.ref w1), .val (.int (2 : Int32)), .val (.int (1 : Int32)), .val (.int (1 : Int32)), .val (.int (1 : Int32))] [(.int (1 : Int32))])) _
      exact ownRet X127 (v := some (.int (1 : Int32))) Bd.notSynchronized (fun h => by rw [Bd.returns] at h; cases h) (fun _ hr => retN X127 hx (t := .boolean) Bd.returns (by simp) (hb hby at_130) hr) (by rw [R127]; exact ⟨rfl, N127, rfl⟩) (by decide) (by decide)
    · rw [hi]
      refine ownStep (fun _ k => XS.istoreN X0.here hx rfl (hb hby at_6) rfl (l' := #[.val (.int px), .val (.int py), .val (.int (2 : Int32)), .unset, .unset, .unset, .unset, .unset, .unset, .unset]) rfl k) ?_
      refine ownStep (fun _ k => XS.iloadN X0.here hx rfl (hb hby at_7) rfl  k) ?_
      show ownGo p.tables e below (s₁.setTop (mkF m 8 #[.val (.int px), .val (.int py), .val (.int (2 : Int32)), .unset, .unset, .unset, .unset, .unset, .unset, .unset] [(.int py)])) _
      refine ownStep (X0.ldcInt hx hown (mvT hZ (hw _ (List.mem_of_getElem? (i := 0) rfl))) (g := (mkF m 8 #[.val (.int px), .val (.int py), .val (.int (2 : Int32)), .unset, .unset, .unset, .unset, .unset, .unset, .unset] [(.int py)])) rfl (hb hby at_8)) ?_
      refine ownStep (fun _ k => XS.iand X0.here hx rfl (hb hby at_10) rfl k) ?_
      refine ownStep (fun _ k => XS.iconst X0.here hx rfl (hb hby at_11) k) ?_
      show ownGo p.tables e below (s₁.setTop (mkF m 12 #[.val (.int px), .val (.int py), .val (.int (2 : Int32)), .unset, .unset, .unset, .unset, .unset, .unset, .unset] [(.int (3 : Int32)), (.int (py &&& (2147483647 : Int32)))])) _
      refine ownStep (fun _ k => iremM X0 hx rfl (hb hby at_12) rfl (by decide) k) ?_
      show ownGo p.tables e below (s₁.setTop (mkF m 13 #[.val (.int px), .val (.int py), .val (.int (2 : Int32)), .unset, .unset, .unset, .unset, .unset, .unset, .unset] [(.int ((py &&& (2147483647 : Int32)) % (3 : Int32)))])) _
      rw [hj]
      refine ownStep (fun _ k => XS.istoreN X0.here hx rfl (hb hby at_13) rfl (l' := #[.val (.int px), .val (.int py), .val (.int (2 : Int32)), .val (.int (2 : Int32)), .unset, .unset, .unset, .unset, .unset, .unset]) rfl k) ?_
      refine ownStep (fun _ k => XS.iloadN X0.here hx rfl (hb hby at_14) rfl  k) ?_
      show ownGo p.tables e below (s₁.setTop (mkF m 15 #[.val (.int px), .val (.int py), .val (.int (2 : Int32)), .val (.int (2 : Int32)), .unset, .unset, .unset, .unset, .unset, .unset] [(.int (2 : Int32))])) _
      have Zs130 : n0 ≤ h0.size := Nat.le_trans Z0 KP0.1
      obtain ⟨_, _, ⟨T129, L129, k129, n129⟩, -, X129, ⟨Lc129, hQ129, l129, y129, z129⟩, st129⟩ := Jvm.LawKit.callS X0 hx (y := (⟨"com/example/fixd/fixd/client/LocationProviderStatusPinLaw", "pick", "(I)Lcom/example/fixd/fixd/location/Provider$Status;"⟩ : MethodName)) hown (mvT hZ (hw _ (List.mem_of_getElem? (i := 1) rfl))) (mvT hZ (hw _ (List.mem_of_getElem? (i := 2) rfl))) (mvT hZ (hw _ (List.mem_of_getElem? (i := 3) rfl))) (mvT hZ (hw _ (List.mem_of_getElem? (i := 4) rfl))) (by decide) (backOf (W := 0) (own_pick2 l Z a0 hw [] w0 w1 w2 sw cl h0 n0 Zs130 S0 S1 S2) hZ (hw _ (List.mem_of_getElem? (i := 4) rfl)) (hw _ (List.mem_of_getElem? (i := 3) rfl)) (by decide) (by decide)) (g := (mkF m 15 #[.val (.int px), .val (.int py), .val (.int (2 : Int32)), .val (.int (2 : Int32)), .unset, .unset, .unset, .unset, .unset, .unset] [(.int (2 : Int32))])) rfl (by rw [hml]; rfl) (argsL := [(.int (2 : Int32))]) (rest := []) (lenOf own_law_pd0 rfl) rfl (by show 2 * 0 + _ ≤ _; exact Nat.le_of_eq rfl) (hb hby at_15) (fun _ _ => ⟨rfl, e0, (by decide : 0 + 0 ≤ _), (by decide : 0 + 0 ≤ _)⟩)
      dsimp only [Pt.U, Pt.locs, Pt.cells, Pt.slots] at X129 l129 y129 z129 st129 hQ129
      subst l129 y129 z129
      obtain ⟨rfl, N129q, R129⟩ := hQ129
      have N129 := Fr.app N0 N129q
      refine ownStep (fun _ k => st129 _ k) ?_
      refine ownStep (fun _ k => XS.astore X129.here hx rfl (hb hby at_18) rfl rfl (l' := #[.val (.int px), .val (.int py), .val (.int (2 : Int32)), .val (.int (2 : Int32)), .val (.ref w2), .unset, .unset, .unset, .unset, .unset]) rfl k) ?_
      refine ownStep (fun _ k => XS.iloadN X129.here hx rfl (hb hby at_20) rfl  k) ?_
      show ownGo p.tables e below (T129.setTop (mkF m 21 #[.val (.int px), .val (.int py), .val (.int (2 : Int32)), .val (.int (2 : Int32)), .val (.ref w2), .unset, .unset, .unset, .unset, .unset] [(.int (2 : Int32))])) _
      have Zs132 : n0 ≤ h0.size := Nat.le_trans Z0 KP0.1
      obtain ⟨_, _, ⟨T131, L131, k131, n131⟩, -, X131, ⟨Lc131, hQ131, l131, y131, z131⟩, st131⟩ := Jvm.LawKit.callS X129 hx (y := (⟨"com/example/fixd/fixd/client/LocationProviderStatusPinLaw", "pick", "(I)Lcom/example/fixd/fixd/location/Provider$Status;"⟩ : MethodName)) hown (mvT hZ (hw _ (List.mem_of_getElem? (i := 1) rfl))) (mvT hZ (hw _ (List.mem_of_getElem? (i := 2) rfl))) (mvT hZ (hw _ (List.mem_of_getElem? (i := 3) rfl))) (mvT hZ (hw _ (List.mem_of_getElem? (i := 4) rfl))) (by decide) (backOf (W := 0) (own_pick2 l Z a0 hw [] w0 w1 w2 sw cl h0 n0 Zs132 S0 S1 S2) hZ (hw _ (List.mem_of_getElem? (i := 4) rfl)) (hw _ (List.mem_of_getElem? (i := 3) rfl)) (by decide) (by decide)) (g := (mkF m 21 #[.val (.int px), .val (.int py), .val (.int (2 : Int32)), .val (.int (2 : Int32)), .val (.ref w2), .unset, .unset, .unset, .unset, .unset] [(.int (2 : Int32))])) rfl (by rw [hml]; rfl) (argsL := [(.int (2 : Int32))]) (rest := []) (lenOf own_law_pd0 rfl) rfl (by show 2 * 0 + _ ≤ _; exact Nat.le_of_eq rfl) (hb hby at_21) (fun _ _ => ⟨rfl, R129, (by decide : 0 + 0 ≤ _), (by decide : 0 + 0 ≤ _)⟩)
      dsimp only [Pt.U, Pt.locs, Pt.cells, Pt.slots] at X131 l131 y131 z131 st131 hQ131
      subst l131 y131 z131
      obtain ⟨rfl, N131q, R131⟩ := hQ131
      have N131 := Fr.app N129 N131q
      refine ownStep (fun _ k => st131 _ k) ?_
      refine ownStep (fun _ k => XS.astore X131.here hx rfl (hb hby at_24) rfl rfl (l' := #[.val (.int px), .val (.int py), .val (.int (2 : Int32)), .val (.int (2 : Int32)), .val (.ref w2), .val (.ref w2), .unset, .unset, .unset, .unset]) rfl k) ?_
      refine ownStep (fun _ k => XS.aload X131.here hx rfl (hb hby at_26) rfl rfl k) ?_
      show ownGo p.tables e below (T131.setTop (mkF m 28 #[.val (.int px), .val (.int py), .val (.int (2 : Int32)), .val (.int (2 : Int32)), .val (.ref w2), .val (.ref w2), .unset, .unset, .unset, .unset] [(.ref w2)])) _
      have Zs134 : n0 ≤ h0.size := Nat.le_trans Z0 KP0.1
      obtain ⟨_, _, ⟨T133, L133, k133, n133⟩, -, X133, ⟨Lc133, hQ133, l133, y133, z133⟩, st133⟩ := Jvm.LawKit.callS X131 hx (y := (⟨"com/example/fixd/fixd/client/LocationProvider", "status", "(Lcom/example/fixd/fixd/location/Provider$Status;)I"⟩ : MethodName)) hown (mvT hZ (hw _ (List.mem_of_getElem? (i := 8) rfl))) (mvT hZ (hw _ (List.mem_of_getElem? (i := 9) rfl))) (mvT hZ (hw _ (List.mem_of_getElem? (i := 10) rfl))) (mvT hZ (hw _ (List.mem_of_getElem? (i := 11) rfl))) (by decide) (backOf (W := 0) (own_stat2 l Z a0 hw [] w0 w1 w2 sw cl h0 n0 Zs134 S0 S1 S2 E0 E1 E2 F0 F1 F2 Ssw Asw El0 El1 El2) hZ (hw _ (List.mem_of_getElem? (i := 11) rfl)) (hw _ (List.mem_of_getElem? (i := 10) rfl)) (by decide) (by decide)) (g := (mkF m 28 #[.val (.int px), .val (.int py), .val (.int (2 : Int32)), .val (.int (2 : Int32)), .val (.ref w2), .val (.ref w2), .unset, .unset, .unset, .unset] [(.ref w2)])) rfl (by rw [hml]; rfl) (argsL := [(.ref w2)]) (rest := []) (lenOf own_law_pd1 rfl) rfl (by show 2 * 0 + _ ≤ _; exact Nat.le_of_eq rfl) (hb hby at_28) (fun _ _ => ⟨rfl, R131, (by decide : 0 + 0 ≤ _), (by decide : 0 + 0 ≤ _)⟩)
      dsimp only [Pt.U, Pt.locs, Pt.cells, Pt.slots] at X133 l133 y133 z133 st133 hQ133
      subst l133 y133 z133
      obtain ⟨rfl, N133q, R133⟩ := hQ133
      have N133 := Fr.app N131 N133q
      refine ownStep (fun _ k => st133 _ k) ?_
      refine ownStep (fun _ k => XS.istore X133.here hx rfl (hb hby at_31) rfl (l' := #[.val (.int px), .val (.int py), .val (.int (2 : Int32)), .val (.int (2 : Int32)), .val (.ref w2), .val (.ref w2), .val (.int (2 : Int32)), .unset, .unset, .unset]) rfl k) ?_
      refine ownStep (fun _ k => XS.aload X133.here hx rfl (hb hby at_33) rfl rfl k) ?_
      show ownGo p.tables e below (T133.setTop (mkF m 35 #[.val (.int px), .val (.int py), .val (.int (2 : Int32)), .val (.int (2 : Int32)), .val (.ref w2), .val (.ref w2), .val (.int (2 : Int32)), .unset, .unset, .unset] [(.ref w2)])) _
      have Zs136 : n0 ≤ h0.size := Nat.le_trans Z0 KP0.1
      obtain ⟨_, _, ⟨T135, L135, k135, n135⟩, -, X135, ⟨Lc135, hQ135, l135, y135, z135⟩, st135⟩ := Jvm.LawKit.callS X133 hx (y := (⟨"com/example/fixd/fixd/client/LocationProvider", "status", "(Lcom/example/fixd/fixd/location/Provider$Status;)I"⟩ : MethodName)) hown (mvT hZ (hw _ (List.mem_of_getElem? (i := 8) rfl))) (mvT hZ (hw _ (List.mem_of_getElem? (i := 9) rfl))) (mvT hZ (hw _ (List.mem_of_getElem? (i := 10) rfl))) (mvT hZ (hw _ (List.mem_of_getElem? (i := 11) rfl))) (by decide) (backOf (W := 0) (own_stat2 l Z a0 hw [] w0 w1 w2 sw cl h0 n0 Zs136 S0 S1 S2 E0 E1 E2 F0 F1 F2 Ssw Asw El0 El1 El2) hZ (hw _ (List.mem_of_getElem? (i := 11) rfl)) (hw _ (List.mem_of_getElem? (i := 10) rfl)) (by decide) (by decide)) (g := (mkF m 35 #[.val (.int px), .val (.int py), .val (.int (2 : Int32)), .val (.int (2 : Int32)), .val (.ref w2), .val (.ref w2), .val (.int (2 : Int32)), .unset, .unset, .unset] [(.ref w2)])) rfl (by rw [hml]; rfl) (argsL := [(.ref w2)]) (rest := []) (lenOf own_law_pd1 rfl) rfl (by show 2 * 0 + _ ≤ _; exact Nat.le_of_eq rfl) (hb hby at_35) (fun _ _ => ⟨rfl, R133, (by decide : 0 + 0 ≤ _), (by decide : 0 + 0 ≤ _)⟩)
      dsimp only [Pt.U, Pt.locs, Pt.cells, Pt.slots] at X135 l135 y135 z135 st135 hQ135
      subst l135 y135 z135
      obtain ⟨rfl, N135q, R135⟩ := hQ135
      have N135 := Fr.app N133 N135q
      refine ownStep (fun _ k => st135 _ k) ?_
      refine ownStep (fun _ k => XS.istore X135.here hx rfl (hb hby at_38) rfl (l' := #[.val (.int px), .val (.int py), .val (.int (2 : Int32)), .val (.int (2 : Int32)), .val (.ref w2), .val (.ref w2), .val (.int (2 : Int32)), .val (.int (2 : Int32)), .unset, .unset]) rfl k) ?_
      refine ownStep (fun _ k => XS.iload X135.here hx rfl (hb hby at_40) rfl  k) ?_
      refine ownStep (fun _ k => XS.iloadN X135.here hx rfl (hb hby at_42) rfl  k) ?_
      show ownGo p.tables e below (T135.setTop (mkF m 43 #[.val (.int px), .val (.int py), .val (.int (2 : Int32)), .val (.int (2 : Int32)), .val (.ref w2), .val (.ref w2), .val (.int (2 : Int32)), .val (.int (2 : Int32)), .unset, .unset] [(.int (2 : Int32)), (.int (2 : Int32))])) _
      have Zs138 : n0 ≤ h0.size := Nat.le_trans Z0 KP0.1
      obtain ⟨_, _, ⟨T137, L137, k137, n137⟩, -, X137, ⟨Lc137, hQ137, l137, y137, z137⟩, st137⟩ := Jvm.LawKit.callS X135 hx (y := (⟨"com/example/fixd/fixd/client/LocationProviderStatusPinLaw", "expected", "(I)I"⟩ : MethodName)) hown (mvT hZ (hw _ (List.mem_of_getElem? (i := 24) rfl))) (mvT hZ (hw _ (List.mem_of_getElem? (i := 25) rfl))) (mvT hZ (hw _ (List.mem_of_getElem? (i := 3) rfl))) (mvT hZ (hw _ (List.mem_of_getElem? (i := 26) rfl))) (by decide) (backOf (W := 1) (own_exp2 l Z a0 hw []  h0 n0 Zs138 ) hZ (hw _ (List.mem_of_getElem? (i := 26) rfl)) (hw _ (List.mem_of_getElem? (i := 3) rfl)) (by decide) (by decide)) (g := (mkF m 43 #[.val (.int px), .val (.int py), .val (.int (2 : Int32)), .val (.int (2 : Int32)), .val (.ref w2), .val (.ref w2), .val (.int (2 : Int32)), .val (.int (2 : Int32)), .unset, .unset] [(.int (2 : Int32)), (.int (2 : Int32))])) rfl (by rw [hml]; rfl) (argsL := [(.int (2 : Int32))]) (rest := [(.int (2 : Int32))]) (lenOf own_law_pd2 rfl) rfl (by show 2 * 0 + _ ≤ _; exact Nat.le_of_eq rfl) (hb hby at_43) (fun _ _ => ⟨rfl, R135, (by decide : 0 + 0 ≤ _), (by decide : 0 + 0 ≤ _)⟩)
      dsimp only [Pt.U, Pt.locs, Pt.cells, Pt.slots] at X137 l137 y137 z137 st137 hQ137
      subst l137 y137 z137
      obtain ⟨rfl, N137q, R137⟩ := hQ137
      have N137 := Fr.app N135 N137q
      refine ownStep (fun _ k => st137 _ k) ?_
      refine ownStep (fun _ k => XS.icmpNo X137.here hx rfl (hb hby at_46) rfl (teq (by decide : (2 : Int32) = (2 : Int32))).2 k) ?_
      refine ownStep (fun _ k => XS.iload X137.here hx rfl (hb hby at_49) rfl  k) ?_
      refine ownStep (fun _ k => XS.iloadN X137.here hx rfl (hb hby at_51) rfl  k) ?_
      show ownGo p.tables e below (T137.setTop (mkF m 52 #[.val (.int px), .val (.int py), .val (.int (2 : Int32)), .val (.int (2 : Int32)), .val (.ref w2), .val (.ref w2), .val (.int (2 : Int32)), .val (.int (2 : Int32)), .unset, .unset] [(.int (2 : Int32)), (.int (2 : Int32))])) _
      have Zs140 : n0 ≤ h0.size := Nat.le_trans Z0 KP0.1
      obtain ⟨_, _, ⟨T139, L139, k139, n139⟩, -, X139, ⟨Lc139, hQ139, l139, y139, z139⟩, st139⟩ := Jvm.LawKit.callS X137 hx (y := (⟨"com/example/fixd/fixd/client/LocationProviderStatusPinLaw", "named", "(I)I"⟩ : MethodName)) hown (mvT hZ (hw _ (List.mem_of_getElem? (i := 27) rfl))) (mvT hZ (hw _ (List.mem_of_getElem? (i := 28) rfl))) (mvT hZ (hw _ (List.mem_of_getElem? (i := 3) rfl))) (mvT hZ (hw _ (List.mem_of_getElem? (i := 29) rfl))) (by decide) (backOf (W := 1) (own_named2 l Z a0 hw []  h0 n0 Zs140 ) hZ (hw _ (List.mem_of_getElem? (i := 29) rfl)) (hw _ (List.mem_of_getElem? (i := 3) rfl)) (by decide) (by decide)) (g := (mkF m 52 #[.val (.int px), .val (.int py), .val (.int (2 : Int32)), .val (.int (2 : Int32)), .val (.ref w2), .val (.ref w2), .val (.int (2 : Int32)), .val (.int (2 : Int32)), .unset, .unset] [(.int (2 : Int32)), (.int (2 : Int32))])) rfl (by rw [hml]; rfl) (argsL := [(.int (2 : Int32))]) (rest := [(.int (2 : Int32))]) (lenOf own_law_pd2 rfl) rfl (by show 2 * 0 + _ ≤ _; exact Nat.le_of_eq rfl) (hb hby at_52) (fun _ _ => ⟨rfl, R137, (by decide : 0 + 0 ≤ _), (by decide : 0 + 0 ≤ _)⟩)
      dsimp only [Pt.U, Pt.locs, Pt.cells, Pt.slots] at X139 l139 y139 z139 st139 hQ139
      subst l139 y139 z139
      obtain ⟨rfl, N139q, R139⟩ := hQ139
      have N139 := Fr.app N137 N139q
      refine ownStep (fun _ k => st139 _ k) ?_
      refine ownStep (fun _ k => XS.icmpNo X139.here hx rfl (hb hby at_55) rfl (teq (by decide : (2 : Int32) = (2 : Int32))).2 k) ?_
      refine ownStep (fun _ k => XS.iload X139.here hx rfl (hb hby at_58) rfl  k) ?_
      refine ownStep (fun _ k => XS.iloadN X139.here hx rfl (hb hby at_60) rfl  k) ?_
      show ownGo p.tables e below (T139.setTop (mkF m 61 #[.val (.int px), .val (.int py), .val (.int (2 : Int32)), .val (.int (2 : Int32)), .val (.ref w2), .val (.ref w2), .val (.int (2 : Int32)), .val (.int (2 : Int32)), .unset, .unset] [(.int (2 : Int32)), (.int (2 : Int32))])) _
      have Zs142 : n0 ≤ h0.size := Nat.le_trans Z0 KP0.1
      obtain ⟨_, _, ⟨T141, L141, k141, n141⟩, -, X141, ⟨Lc141, hQ141, l141, y141, z141⟩, st141⟩ := Jvm.LawKit.callS X139 hx (y := (⟨"com/example/fixd/fixd/client/LocationProviderStatusPinLaw", "expected", "(I)I"⟩ : MethodName)) hown (mvT hZ (hw _ (List.mem_of_getElem? (i := 24) rfl))) (mvT hZ (hw _ (List.mem_of_getElem? (i := 25) rfl))) (mvT hZ (hw _ (List.mem_of_getElem? (i := 3) rfl))) (mvT hZ (hw _ (List.mem_of_getElem? (i := 26) rfl))) (by decide) (backOf (W := 1) (own_exp2 l Z a0 hw []  h0 n0 Zs142 ) hZ (hw _ (List.mem_of_getElem? (i := 26) rfl)) (hw _ (List.mem_of_getElem? (i := 3) rfl)) (by decide) (by decide)) (g := (mkF m 61 #[.val (.int px), .val (.int py), .val (.int (2 : Int32)), .val (.int (2 : Int32)), .val (.ref w2), .val (.ref w2), .val (.int (2 : Int32)), .val (.int (2 : Int32)), .unset, .unset] [(.int (2 : Int32)), (.int (2 : Int32))])) rfl (by rw [hml]; rfl) (argsL := [(.int (2 : Int32))]) (rest := [(.int (2 : Int32))]) (lenOf own_law_pd2 rfl) rfl (by show 2 * 0 + _ ≤ _; exact Nat.le_of_eq rfl) (hb hby at_61) (fun _ _ => ⟨rfl, R139, (by decide : 0 + 0 ≤ _), (by decide : 0 + 0 ≤ _)⟩)
      dsimp only [Pt.U, Pt.locs, Pt.cells, Pt.slots] at X141 l141 y141 z141 st141 hQ141
      subst l141 y141 z141
      obtain ⟨rfl, N141q, R141⟩ := hQ141
      have N141 := Fr.app N139 N141q
      refine ownStep (fun _ k => st141 _ k) ?_
      refine ownStep (fun _ k => XS.icmpNo X141.here hx rfl (hb hby at_64) rfl (teq (by decide : (2 : Int32) = (2 : Int32))).2 k) ?_
      refine ownStep (fun _ k => XS.iload X141.here hx rfl (hb hby at_67) rfl  k) ?_
      refine ownStep (fun _ k => XS.iloadN X141.here hx rfl (hb hby at_69) rfl  k) ?_
      show ownGo p.tables e below (T141.setTop (mkF m 70 #[.val (.int px), .val (.int py), .val (.int (2 : Int32)), .val (.int (2 : Int32)), .val (.ref w2), .val (.ref w2), .val (.int (2 : Int32)), .val (.int (2 : Int32)), .unset, .unset] [(.int (2 : Int32)), (.int (2 : Int32))])) _
      have Zs144 : n0 ≤ h0.size := Nat.le_trans Z0 KP0.1
      obtain ⟨_, _, ⟨T143, L143, k143, n143⟩, -, X143, ⟨Lc143, hQ143, l143, y143, z143⟩, st143⟩ := Jvm.LawKit.callS X141 hx (y := (⟨"com/example/fixd/fixd/client/LocationProviderStatusPinLaw", "named", "(I)I"⟩ : MethodName)) hown (mvT hZ (hw _ (List.mem_of_getElem? (i := 27) rfl))) (mvT hZ (hw _ (List.mem_of_getElem? (i := 28) rfl))) (mvT hZ (hw _ (List.mem_of_getElem? (i := 3) rfl))) (mvT hZ (hw _ (List.mem_of_getElem? (i := 29) rfl))) (by decide) (backOf (W := 1) (own_named2 l Z a0 hw []  h0 n0 Zs144 ) hZ (hw _ (List.mem_of_getElem? (i := 29) rfl)) (hw _ (List.mem_of_getElem? (i := 3) rfl)) (by decide) (by decide)) (g := (mkF m 70 #[.val (.int px), .val (.int py), .val (.int (2 : Int32)), .val (.int (2 : Int32)), .val (.ref w2), .val (.ref w2), .val (.int (2 : Int32)), .val (.int (2 : Int32)), .unset, .unset] [(.int (2 : Int32)), (.int (2 : Int32))])) rfl (by rw [hml]; rfl) (argsL := [(.int (2 : Int32))]) (rest := [(.int (2 : Int32))]) (lenOf own_law_pd2 rfl) rfl (by show 2 * 0 + _ ≤ _; exact Nat.le_of_eq rfl) (hb hby at_70) (fun _ _ => ⟨rfl, R141, (by decide : 0 + 0 ≤ _), (by decide : 0 + 0 ≤ _)⟩)
      dsimp only [Pt.U, Pt.locs, Pt.cells, Pt.slots] at X143 l143 y143 z143 st143 hQ143
      subst l143 y143 z143
      obtain ⟨rfl, N143q, R143⟩ := hQ143
      have N143 := Fr.app N141 N143q
      refine ownStep (fun _ k => st143 _ k) ?_
      refine ownStep (fun _ k => XS.icmpNo X143.here hx rfl (hb hby at_73) rfl (teq (by decide : (2 : Int32) = (2 : Int32))).2 k) ?_
      refine ownStep (fun _ k => XS.iconst X143.here hx rfl (hb hby at_76) k) ?_
      refine ownStep (fun _ k => XS.goto X143.here hx rfl (pc0 := 77) (pc' := 81) rfl (hb hby at_77) (by decide) (by decide) k) ?_
      refine ownStep (fun _ k => XS.istore X143.here hx rfl (hb hby at_81) rfl (l' := #[.val (.int px), .val (.int py), .val (.int (2 : Int32)), .val (.int (2 : Int32)), .val (.ref w2), .val (.ref w2), .val (.int (2 : Int32)), .val (.int (2 : Int32)), .val (.int (1 : Int32)), .unset]) rfl k) ?_
      show ownGo p.tables e below (T143.setTop (mkF m 83 #[.val (.int px), .val (.int py), .val (.int (2 : Int32)), .val (.int (2 : Int32)), .val (.ref w2), .val (.ref w2), .val (.int (2 : Int32)), .val (.int (2 : Int32)), .val (.int (1 : Int32)), .unset] [])) _
      refine ownStep (fun _ k => XS.iload X143.here hx rfl (hb hby at_83) rfl  k) ?_
      refine ownStep (fun _ k => XS.iload X143.here hx rfl (hb hby at_85) rfl  k) ?_
      refine ownStep (fun _ k => XS.icmpNo X143.here hx rfl (hb hby at_87) rfl (teq (by decide : (2 : Int32) = (2 : Int32))).2 k) ?_
      refine ownStep (fun _ k => XS.iconst X143.here hx rfl (hb hby at_90) k) ?_
      refine ownStep (fun _ k => XS.goto X143.here hx rfl (pc0 := 91) (pc' := 95) rfl (hb hby at_91) (by decide) (by decide) k) ?_
      show ownGo p.tables e below (T143.setTop (mkF m 95 #[.val (.int px), .val (.int py), .val (.int (2 : Int32)), .val (.int (2 : Int32)), .val (.ref w2), .val (.ref w2), .val (.int (2 : Int32)), .val (.int (2 : Int32)), .val (.int (1 : Int32)), .unset] [(.int (1 : Int32))])) _
      refine ownStep (fun _ k => XS.iloadN X143.here hx rfl (hb hby at_95) rfl  k) ?_
      refine ownStep (fun _ k => XS.iloadN X143.here hx rfl (hb hby at_96) rfl  k) ?_
      refine ownStep (fun _ k => XS.icmpNo X143.here hx rfl (hb hby at_97) rfl (teq (by decide : (2 : Int32) = (2 : Int32))).2 k) ?_
      refine ownStep (fun _ k => XS.iconst X143.here hx rfl (hb hby at_100) k) ?_
      refine ownStep (fun _ k => XS.goto X143.here hx rfl (pc0 := 101) (pc' := 105) rfl (hb hby at_101) (by decide) (by decide) k) ?_
      show ownGo p.tables e below (T143.setTop (mkF m 105 #[.val (.int px), .val (.int py), .val (.int (2 : Int32)), .val (.int (2 : Int32)), .val (.ref w2), .val (.ref w2), .val (.int (2 : Int32)), .val (.int (2 : Int32)), .val (.int (1 : Int32)), .unset] [(.int (1 : Int32)), (.int (1 : Int32))])) _
      refine ownStep (fun _ k => XS.icmpNo X143.here hx rfl (hb hby at_105) rfl (teq (by decide : (1 : Int32) = (1 : Int32))).2 k) ?_
      refine ownStep (fun _ k => XS.iconst X143.here hx rfl (hb hby at_108) k) ?_
      refine ownStep (fun _ k => XS.goto X143.here hx rfl (pc0 := 109) (pc' := 113) rfl (hb hby at_109) (by decide) (by decide) k) ?_
      refine ownStep (fun _ k => XS.istore X143.here hx rfl (hb hby at_113) rfl (l' := #[.val (.int px), .val (.int py), .val (.int (2 : Int32)), .val (.int (2 : Int32)), .val (.ref w2), .val (.ref w2), .val (.int (2 : Int32)), .val (.int (2 : Int32)), .val (.int (1 : Int32)), .val (.int (1 : Int32))]) rfl k) ?_
      refine ownStep (fun _ k => XS.iload X143.here hx rfl (hb hby at_115) rfl  k) ?_
      show ownGo p.tables e below (T143.setTop (mkF m 117 #[.val (.int px), .val (.int py), .val (.int (2 : Int32)), .val (.int (2 : Int32)), .val (.ref w2), .val (.ref w2), .val (.int (2 : Int32)), .val (.int (2 : Int32)), .val (.int (1 : Int32)), .val (.int (1 : Int32))] [(.int (1 : Int32))])) _
      refine ownStep (fun _ k => XS.ifNo X143.here hx rfl (hb hby at_117) rfl ((if0 _ _).trans (feq (by decide : ¬ (1 : Int32) = (0 : Int32))).1) k) ?_
      refine ownStep (fun _ k => XS.iload X143.here hx rfl (hb hby at_120) rfl  k) ?_
      refine ownStep (fun _ k => XS.ifNo X143.here hx rfl (hb hby at_122) rfl ((if0 _ _).trans (feq (by decide : ¬ (1 : Int32) = (0 : Int32))).1) k) ?_
      refine ownStep (fun _ k => XS.iconst X143.here hx rfl (hb hby at_125) k) ?_
      refine ownStep (fun _ k => XS.goto X143.here hx rfl (pc0 := 126) (pc' := 130) rfl (hb hby at_126) (by decide) (by decide) k) ?_
      show ownGo p.tables e below (T143.setTop (mkF m 130 #[.val (.int px), .val (.int py), .val (.int (2 : Int32)), .val (.int (2 : Int32)), .val (.ref w2), .val (.ref w2), .val (.int (2 : Int32)), .val (.int (2 : Int32)), .val (.int (1 : Int32)), .val (.int (1 : Int32))] [(.int (1 : Int32))])) _
      exact ownRet X143 (v := some (.int (1 : Int32))) Bd.notSynchronized (fun h => by rw [Bd.returns] at h; cases h) (fun _ hr => retN X143 hx (t := .boolean) Bd.returns (by simp) (hb hby at_130) hr) (by rw [R143]; exact ⟨rfl, N143, rfl⟩) (by decide) (by decide)
set_option maxRecDepth 65536 in
set_option maxHeartbeats 40000000 in
theorem comes_1 {Post : Tables → Env → Array Value → State → Outcome → State → Prop} (hpost : ∀ tb e args s v u, (limb_1_1.after args s (.returned v) u = true ∧ limb_1_2.after args s (.returned v) u = true ∧ True) → FrameEnd s (.returned v) u (Jvm.fieldLocs frame_1_writes args s ++ Jvm.arrayLocs frame_1_arrays args s ++ Jvm.staticLocs frame_1_statics s) 0 0 → Post tb e args s (.returned v) u) :
    ArmFor flags0 classFile x code maxLocals ret World_1 tables_1 room_1 Calls_1 rest_1 Pre_1 Post := by
  intro l hfl _ _ p e ha hc hk s m args below hf hA hF happ hP
  obtain ⟨hcalls, hrest, hpre⟩ := hP
  obtain ⟨-, -, -, hnamed, -, -, -, hat⟩ := (Spec.applies_iff hf).mp happ
  obtain ⟨hg, hn⟩ := and_e (Cond.before_iff.mp (show (Jvm.Cond.and given_1 narrow_1).before args s = true from hpre))
  obtain ⟨g1, g2⟩ := and_e hg
  obtain ⟨g3, g4⟩ := and_e g2
  obtain ⟨w0, w1, rfl⟩ : ∃ w0 w1 : Value, args = #[w0, w1] := by
    have hs : args.size = 2 := by simpa [Cond.value, given_1] using g1
    obtain ⟨L⟩ := args
    match L, hs with
    | [w0, w1], _ => exact ⟨w0, w1, rfl⟩
  have hw := fun d (hd : d ∈ tables_1) => atoms_spec (ws := Jvm.Cond.code x code maxLocals ret :: tables_1) hat d (List.mem_cons_of_mem _ hd)
  have hfit : Fit s := fun {y c} hc i hi => by
    obtain ⟨ha, rfl⟩ := Array.getElem?_eq_some_iff.mp hc
    have q := List.all_eq_true.mp ((Array.all_eq_true_iff_forall_mem.mp hF) _ (Array.getElem_mem ha)) i (List.mem_range.mpr hi)
    simpa [Array.getElem?_eq_getElem hi] using q
  obtain ⟨i0, ei0⟩ := is_v g3
  obtain rfl : w0 = (.int i0) := Option.some.inj ei0
  obtain ⟨i1, ei1⟩ := is_v g4
  obtain rfl : w1 = (.int i1) := Option.some.inj ei1
  obtain ⟨g5, g6⟩ := and_e hn
  obtain ⟨g7, g8⟩ := and_e g6
  obtain ⟨g9, g10⟩ := and_e g8
  obtain ⟨g11, g12⟩ := and_e g10
  obtain ⟨g13, g14⟩ := and_e g12
  obtain ⟨g15, g16⟩ := and_e g14
  obtain ⟨g17, g18⟩ := and_e g16
  obtain ⟨g19, g20⟩ := and_e g18
  obtain ⟨g21, g22⟩ := and_e g20
  obtain ⟨g23, g24⟩ := and_e g22
  obtain ⟨w_OUT_OF_SERVICE, ev_OUT_OF_SERVICE⟩ := exa_v g5
  have E_OUT_OF_SERVICE := Exa.start ev_OUT_OF_SERVICE g5
  have S_OUT_OF_SERVICE := Sta.start ev_OUT_OF_SERVICE (Or.inr ⟨(hw _ (List.mem_of_getElem? (i := 6) rfl)), (hw _ (List.mem_of_getElem? (i := 7) rfl))⟩)
  obtain ⟨w__SwitchMap_com_example_fixd_fixd_location_Provider_Status, ev__SwitchMap_com_example_fixd_fixd_location_Provider_Status⟩ := arr_v g7
  obtain ⟨cl__SwitchMap_com_example_fixd_fixd_location_Provider_Status, A__SwitchMap_com_example_fixd_fixd_location_Provider_Status⟩ := Arr.start ev__SwitchMap_com_example_fixd_fixd_location_Provider_Status g7
  have S__SwitchMap_com_example_fixd_fixd_location_Provider_Status := Sta.start ev__SwitchMap_com_example_fixd_fixd_location_Provider_Status (Or.inr ⟨(hw _ (List.mem_of_getElem? (i := 13) rfl)), (hw _ (List.mem_of_getElem? (i := 14) rfl))⟩)
  have Len__SwitchMap_com_example_fixd_fixd_location_Provider_Status := own_len0 (own_eqI g9) ev__SwitchMap_com_example_fixd_fixd_location_Provider_Status A__SwitchMap_com_example_fixd_fixd_location_Provider_Status
  have F_OUT_OF_SERVICE_ordinal := Fld.start ((fld_at ev_OUT_OF_SERVICE).symm.trans (own_eqI g11))
  have El__SwitchMap_com_example_fixd_fixd_location_Provider_Status_0 := elem_in (own_eqI g13) ev__SwitchMap_com_example_fixd_fixd_location_Provider_Status rfl A__SwitchMap_com_example_fixd_fixd_location_Provider_Status.1
  obtain ⟨w_AVAILABLE, ev_AVAILABLE⟩ := exa_v g15
  have E_AVAILABLE := Exa.start ev_AVAILABLE g15
  have S_AVAILABLE := Sta.start ev_AVAILABLE (Or.inr ⟨(hw _ (List.mem_of_getElem? (i := 6) rfl)), (hw _ (List.mem_of_getElem? (i := 31) rfl))⟩)
  obtain ⟨w_TEMPORARILY_UNAVAILABLE, ev_TEMPORARILY_UNAVAILABLE⟩ := exa_v g17
  have E_TEMPORARILY_UNAVAILABLE := Exa.start ev_TEMPORARILY_UNAVAILABLE g17
  have S_TEMPORARILY_UNAVAILABLE := Sta.start ev_TEMPORARILY_UNAVAILABLE (Or.inr ⟨(hw _ (List.mem_of_getElem? (i := 6) rfl)), (hw _ (List.mem_of_getElem? (i := 33) rfl))⟩)
  have F_AVAILABLE_ordinal := Fld.start ((fld_at ev_AVAILABLE).symm.trans (own_eqI g19))
  have El__SwitchMap_com_example_fixd_fixd_location_Provider_Status_2 := elem_in (own_eqI g21) ev__SwitchMap_com_example_fixd_fixd_location_Provider_Status rfl A__SwitchMap_com_example_fixd_fixd_location_Provider_Status.1
  have F_TEMPORARILY_UNAVAILABLE_ordinal := Fld.start ((fld_at ev_TEMPORARILY_UNAVAILABLE).symm.trans (own_eqI g23))
  have El__SwitchMap_com_example_fixd_fixd_location_Provider_Status_1 := elem_in (own_eqI g24) ev__SwitchMap_com_example_fixd_fixd_location_Provider_Status rfl A__SwitchMap_com_example_fixd_fixd_location_Provider_Status.1
  obtain ⟨n, o, h1, h2, h3, _, L, rfl, ⟨rfl, N, hrel⟩, hq⟩ := own_law l s _ hw tables_1 i0 i1 w_OUT_OF_SERVICE w_TEMPORARILY_UNAVAILABLE w_AVAILABLE w__SwitchMap_com_example_fixd_fixd_location_Provider_Status cl__SwitchMap_com_example_fixd_fixd_location_Provider_Status s.heap s.heap.size (Nat.le_refl _) S_OUT_OF_SERVICE S_TEMPORARILY_UNAVAILABLE S_AVAILABLE E_OUT_OF_SERVICE E_TEMPORARILY_UNAVAILABLE E_AVAILABLE F_OUT_OF_SERVICE_ordinal F_TEMPORARILY_UNAVAILABLE_ordinal F_AVAILABLE_ordinal S__SwitchMap_com_example_fixd_fixd_location_Provider_Status A__SwitchMap_com_example_fixd_fixd_location_Provider_Status El__SwitchMap_com_example_fixd_fixd_location_Provider_Status_0 El__SwitchMap_com_example_fixd_fixd_location_Provider_Status_1 El__SwitchMap_com_example_fixd_fixd_location_Provider_Status_2 p e ha hc hk s m _ below hf ((Spec.applies_iff_loose hf).mp happ).1 ⟨rfl, State.Warmed39.refl s, rfl⟩ trivial
  refine ⟨n, _, h1, h2, h3, hpost _ _ _ _ _ _ ⟨Cond.after_iff.mpr rfl, Cond.after_iff.mpr (eq_i res_at (Term.int_eval (1)) rfl), trivial⟩ ⟨hq.1, hq.2.1, (hq.2.2.sift fun y hy => Or.inr (N y hy)).mono (by decide) (by decide)⟩⟩
theorem main_1_1 : Claimed_1_1 := comes_1 fun _ _ _ _ _ _ h hF => ⟨h.1, hF⟩
theorem main_1_2 : Claimed_1_2 := comes_1 fun _ _ _ _ _ _ h hF => ⟨h.2.1, hF⟩
end Jvm.Pilot.@@N@@
namespace Jvm.Pilot.@@N@@
open Jvm Jvm.ClassFile Sem Op Lib Jvm.Free Jvm.Stand Jvm.Pilot.@@N@@.Jvm.D
/-! MADE BY PROGRAM (witnessworld.py) out of the Statement's table words and the real class files: 14 classes; the members and pool entries that the words name. The judged class is class 1, her method 4. -/
namespace start1
open Jvm.ClassFile
def u (s : String) : CpInfo := .utf8 (stringToUtf16 s)
/-- a pool by its gaps: so many unusable entries, then the entry; so many at the end -/
def gap : Nat → List CpInfo → List CpInfo
  | 0, r => r
  | n + 1, r => .unusable :: gap n r
def poolList (es : List (Nat × CpInfo)) (last : Nat) : List CpInfo := es.foldr (fun e r => gap e.1 (e.2 :: r)) (gap last [])
def pool (es : List (Nat × CpInfo)) (last : Nat) : Array CpInfo := ⟨poolList es last⟩
def fileOf (pool : Array CpInfo) (this : Nat) (attrs : Array Attribute := #[]) (ms : Array MethodInfo := #[]) (fl : Nat := 33) (sup : Nat := 0) (ifs : Array Nat := #[]) (fds : Array FieldInfo := #[]) : ClassFile where
  minorVersion := 0
  majorVersion := 65
  constantPool := pool
  accessFlags := fl
  thisClass := this
  superClass := sup
  interfaces := ifs
  fields := fds
  methods := ms
  attributes := attrs
def plain (name : String) (sup : Option ClassId) : Class where
  name := name
  kind := .ordinary
  loader := none
  accessFlags := 33
  super := sup
  interfaces := #[]
  cf := none
  fields := #[]
  methods := #[]
  instanceTypes := #[]
  staticTypes := #[]
  resolved := #[]
  callSites := []
  init := .initialized
  statics := none
  mirror := none

def pool0 : Array CpInfo := pool [(5, u "<init>"), (0, u "()V"), (1, .class_ 10), (1, u "java/lang/Object")] 113

def k0m0 : Method := { name := "<init>", desc := "()V", sig := { parameters := [], returnType := none }, accessFlags := 1, code := none }
/-- java/lang/Object -/
def k0 : Class := { plain "java/lang/Object" none with
  accessFlags := 33
  interfaces := #[]
  cf := some (fileOf pool0 8 #[] #[{ accessFlags := 1, nameIndex := 5, descriptorIndex := 6, attributes := #[] }] 33 0 #[] #[])
  fields := #[]
  methods := #[k0m0]
  instanceTypes := #[]
  staticTypes := #[]
  resolved := Array.replicate 124 none
  statics := none }

def pool1 : Array CpInfo := pool [(2, .class_ 4), (1, u "java/lang/Object"), (0, u "<init>"), (0, u "()V"), (0, .fieldref 8 9), (0, .class_ 10), (0, .nameAndType 11 12), (0, u "com/example/fixd/fixd/location/Provider$Status"), (0, u "OUT_OF_SERVICE"), (0, u "Lcom/example/fixd/fixd/location/Provider$Status;"), (0, .fieldref 8 14), (0, .nameAndType 15 12), (0, u "TEMPORARILY_UNAVAILABLE"), (0, .fieldref 8 17), (0, .nameAndType 18 12), (0, u "AVAILABLE"), (0, .class_ 20), (0, u "com/example/fixd/fixd/client/LocationProvider"), (0, .integer 2147483647), (0, .methodref 23 24), (0, .class_ 25), (0, .nameAndType 26 27), (0, u "com/example/fixd/fixd/client/LocationProviderStatusPinLaw"), (0, u "pick"), (0, u "(I)Lcom/example/fixd/fixd/location/Provider$Status;"), (0, .methodref 19 29), (0, .nameAndType 30 31), (0, u "status"), (0, u "(Lcom/example/fixd/fixd/location/Provider$Status;)I"), (0, .methodref 23 33), (0, .nameAndType 34 35), (0, u "expected"), (0, u "(I)I"), (0, .methodref 23 37), (0, .nameAndType 38 35), (0, u "named"), (3, u "law"), (0, u "(II)Z")] 6

def k1m0 : Method := { name := "<init>", desc := "()V", sig := { parameters := [], returnType := none }, accessFlags := 1, code := none }
def k1c1 : Code := { maxStack := 2, maxLocals := 1, code := method_2_code, exceptionTable := #[], attributes := #[] }
def k1m1 : Method := { name := "pick", desc := "(I)Lcom/example/fixd/fixd/location/Provider$Status;", sig := { parameters := [.int], returnType := some (.object "com/example/fixd/fixd/location/Provider$Status") }, accessFlags := 10, code := some k1c1 }
def k1c2 : Code := { maxStack := 2, maxLocals := 1, code := method_3_code, exceptionTable := #[], attributes := #[] }
def k1m2 : Method := { name := "expected", desc := "(I)I", sig := { parameters := [.int], returnType := some .int }, accessFlags := 10, code := some k1c2 }
def k1c3 : Code := { maxStack := 2, maxLocals := 1, code := method_4_code, exceptionTable := #[], attributes := #[] }
def k1m3 : Method := { name := "named", desc := "(I)I", sig := { parameters := [.int], returnType := some .int }, accessFlags := 10, code := some k1c3 }
def k1c4 : Code := { maxStack := 3, maxLocals := 10, code := code, exceptionTable := #[], attributes := #[] }
def k1m4 : Method := { name := "law", desc := "(II)Z", sig := { parameters := [.int, .int], returnType := some .boolean }, accessFlags := 9, code := some k1c4 }
/-- com/example/fixd/fixd/client/LocationProviderStatusPinLaw -/
def k1 : Class := { plain "com/example/fixd/fixd/client/LocationProviderStatusPinLaw" (some 0) with
  accessFlags := 49
  interfaces := #[]
  cf := some (fileOf pool1 23 #[] #[{ accessFlags := 1, nameIndex := 5, descriptorIndex := 6, attributes := #[] }, { accessFlags := 10, nameIndex := 26, descriptorIndex := 27, attributes := #[] }, { accessFlags := 10, nameIndex := 34, descriptorIndex := 35, attributes := #[] }, { accessFlags := 10, nameIndex := 38, descriptorIndex := 35, attributes := #[] }, { accessFlags := 9, nameIndex := 42, descriptorIndex := 43, attributes := #[] }] 49 2 #[] #[])
  fields := #[]
  methods := #[k1m0, k1m1, k1m2, k1m3, k1m4]
  instanceTypes := #[]
  staticTypes := #[]
  resolved := Array.replicate 50 none
  statics := none }

def pool2 : Array CpInfo := pool [(1, .class_ 2), (0, u "java/lang/constant/Constable"), (0, .class_ 4), (0, u "java/lang/Object")] 6

/-- java/lang/constant/Constable -/
def k2 : Class := { plain "java/lang/constant/Constable" (some 0) with
  accessFlags := 1537
  interfaces := #[]
  cf := some (fileOf pool2 1 #[] #[] 1537 3 #[] #[])
  fields := #[]
  methods := #[]
  instanceTypes := #[]
  staticTypes := #[]
  resolved := Array.replicate 11 none
  statics := none }

def pool3 : Array CpInfo := pool [(1, .class_ 2), (0, u "java/lang/Comparable"), (0, .class_ 4), (0, u "java/lang/Object")] 7

/-- java/lang/Comparable -/
def k3 : Class := { plain "java/lang/Comparable" (some 0) with
  accessFlags := 1537
  interfaces := #[]
  cf := some (fileOf pool3 1 #[] #[] 1537 3 #[] #[])
  fields := #[]
  methods := #[]
  instanceTypes := #[]
  staticTypes := #[]
  resolved := Array.replicate 12 none
  statics := none }

def pool4 : Array CpInfo := pool [(1, .class_ 2), (0, u "java/io/Serializable"), (0, .class_ 4), (0, u "java/lang/Object")] 2

/-- java/io/Serializable -/
def k4 : Class := { plain "java/io/Serializable" (some 0) with
  accessFlags := 1537
  interfaces := #[]
  cf := some (fileOf pool4 1 #[] #[] 1537 3 #[] #[])
  fields := #[]
  methods := #[]
  instanceTypes := #[]
  staticTypes := #[]
  resolved := Array.replicate 7 none
  statics := none }

def pool5 : Array CpInfo := pool [(2, .class_ 4), (1, u "java/lang/Enum"), (0, u "name"), (0, u "Ljava/lang/String;"), (0, .fieldref 2 8), (0, .nameAndType 9 10), (0, u "ordinal"), (0, u "I"), (1, .class_ 14), (1, u "java/lang/Object"), (4, u "hash"), (86, .class_ 108), (1, u "java/lang/Enum$EnumDesc"), (2, .class_ 112), (0, u "java/lang/constant/Constable"), (0, .class_ 114), (0, u "java/lang/Comparable"), (0, .class_ 116), (0, u "java/io/Serializable"), (9, u "()I")] 77

def k5c0 : Code := { maxStack := 1, maxLocals := 1, code := jdk_37_method_2_code, exceptionTable := #[], attributes := #[] }
def k5m0 : Method := { name := "ordinal", desc := "()I", sig := { parameters := [], returnType := some .int }, accessFlags := 17, code := some k5c0 }
/-- java/lang/Enum -/
def k5 : Class := { plain "java/lang/Enum" (some 0) with
  accessFlags := 1057
  interfaces := #[2, 3, 4]
  cf := some (fileOf pool5 2 #[.nestMembers #[106]] #[{ accessFlags := 17, nameIndex := 9, descriptorIndex := 126, attributes := #[] }] 1057 12 #[111, 113, 115] #[{ accessFlags := 18, nameIndex := 5, descriptorIndex := 6, attributes := #[] }, { accessFlags := 18, nameIndex := 9, descriptorIndex := 10, attributes := #[] }, { accessFlags := 2, nameIndex := 19, descriptorIndex := 10, attributes := #[] }])
  fields := #[{ name := "name", type := (.object "java/lang/String"), accessFlags := 18, slot := 0, constantValue := 0 }, { name := "ordinal", type := .int, accessFlags := 18, slot := 1, constantValue := 0 }, { name := "hash", type := .int, accessFlags := 2, slot := 2, constantValue := 0 }]
  methods := #[k5m0]
  instanceTypes := #[(.object "java/lang/String"), .int, .int]
  staticTypes := #[]
  resolved := Array.replicate 204 none
  statics := none }

def pool6 : Array CpInfo := pool [(1, .class_ 2), (0, u "com/example/fixd/fixd/location/Provider$Status"), (2, u "OUT_OF_SERVICE"), (0, u "Lcom/example/fixd/fixd/location/Provider$Status;"), (2, u "TEMPORARILY_UNAVAILABLE"), (2, u "AVAILABLE"), (2, u "$VALUES"), (0, u "[Lcom/example/fixd/fixd/location/Provider$Status;"), (6, .class_ 25), (1, u "java/lang/Enum"), (26, .class_ 53), (0, u "com/example/fixd/fixd/location/Provider")] 2

/-- com/example/fixd/fixd/location/Provider$Status -/
def k6 : Class := { plain "com/example/fixd/fixd/location/Provider$Status" (some 5) with
  accessFlags := 16433
  interfaces := #[]
  cf := some (fileOf pool6 1 #[.nestHost 52] #[] 16433 23 #[] #[{ accessFlags := 16409, nameIndex := 5, descriptorIndex := 6, attributes := #[] }, { accessFlags := 16409, nameIndex := 9, descriptorIndex := 6, attributes := #[] }, { accessFlags := 16409, nameIndex := 12, descriptorIndex := 6, attributes := #[] }, { accessFlags := 4122, nameIndex := 15, descriptorIndex := 16, attributes := #[] }])
  fields := #[{ name := "OUT_OF_SERVICE", type := (.object "com/example/fixd/fixd/location/Provider$Status"), accessFlags := 16409, slot := 0, constantValue := 0 }, { name := "TEMPORARILY_UNAVAILABLE", type := (.object "com/example/fixd/fixd/location/Provider$Status"), accessFlags := 16409, slot := 1, constantValue := 0 }, { name := "AVAILABLE", type := (.object "com/example/fixd/fixd/location/Provider$Status"), accessFlags := 16409, slot := 2, constantValue := 0 }, { name := "$VALUES", type := (.array (.object "com/example/fixd/fixd/location/Provider$Status")), accessFlags := 4122, slot := 3, constantValue := 0 }]
  methods := #[]
  instanceTypes := #[(.object "java/lang/String"), .int, .int]
  staticTypes := #[(.object "com/example/fixd/fixd/location/Provider$Status"), (.object "com/example/fixd/fixd/location/Provider$Status"), (.object "com/example/fixd/fixd/location/Provider$Status"), (.array (.object "com/example/fixd/fixd/location/Provider$Status"))]
  resolved := Array.replicate 56 none
  statics := some 0 }

def pool7 : Array CpInfo := pool [(2, .class_ 4), (1, u "java/lang/Object"), (3, .class_ 10), (1, u "com/example/fixd/fixd/client/LocationProvider"), (0, u "name"), (0, u "Ljava/lang/String;"), (2, u "properties"), (0, u "Lcom/example/fixd/fixd/location/Provider$Properties;"), (47, .fieldref 65 66), (0, .class_ 67), (0, .nameAndType 68 69), (0, u "com/example/fixd/fixd/client/LocationProvider$1"), (0, u "$SwitchMap$com$example$fixd$fixd$location$Provider$Status"), (0, u "[I"), (0, .methodref 71 72), (0, .class_ 73), (0, .nameAndType 74 75), (0, u "com/example/fixd/fixd/location/Provider$Status"), (0, u "ordinal"), (0, u "()I"), (48, u "status"), (0, u "(Lcom/example/fixd/fixd/location/Provider$Status;)I"), (0, u "OUT_OF_SERVICE"), (0, u "I"), (2, u "TEMPORARILY_UNAVAILABLE"), (1, u "AVAILABLE")] 72

def k7c0 : Code := { maxStack := 4, maxLocals := 1, code := prog_7_method_12_code, exceptionTable := #[], attributes := #[] }
def k7m0 : Method := { name := "status", desc := "(Lcom/example/fixd/fixd/location/Provider$Status;)I", sig := { parameters := [(.object "com/example/fixd/fixd/location/Provider$Status")], returnType := some .int }, accessFlags := 8, code := some k7c0 }
/-- com/example/fixd/fixd/client/LocationProvider -/
def k7 : Class := { plain "com/example/fixd/fixd/client/LocationProvider" (some 0) with
  accessFlags := 33
  interfaces := #[]
  cf := some (fileOf pool7 8 #[.nestMembers #[65]] #[{ accessFlags := 8, nameIndex := 124, descriptorIndex := 125, attributes := #[] }] 33 2 #[] #[{ accessFlags := 25, nameIndex := 126, descriptorIndex := 127, attributes := #[] }, { accessFlags := 25, nameIndex := 130, descriptorIndex := 127, attributes := #[] }, { accessFlags := 25, nameIndex := 132, descriptorIndex := 127, attributes := #[] }, { accessFlags := 18, nameIndex := 11, descriptorIndex := 12, attributes := #[] }, { accessFlags := 18, nameIndex := 15, descriptorIndex := 16, attributes := #[] }])
  fields := #[{ name := "OUT_OF_SERVICE", type := .int, accessFlags := 25, slot := 0, constantValue := 0 }, { name := "TEMPORARILY_UNAVAILABLE", type := .int, accessFlags := 25, slot := 1, constantValue := 0 }, { name := "AVAILABLE", type := .int, accessFlags := 25, slot := 2, constantValue := 0 }, { name := "name", type := (.object "java/lang/String"), accessFlags := 18, slot := 0, constantValue := 0 }, { name := "properties", type := (.object "com/example/fixd/fixd/location/Provider$Properties"), accessFlags := 18, slot := 1, constantValue := 0 }]
  methods := #[k7m0]
  instanceTypes := #[(.object "java/lang/String"), (.object "com/example/fixd/fixd/location/Provider$Properties")]
  staticTypes := #[.int, .int, .int]
  resolved := Array.replicate 205 none
  statics := none }

def pool8 : Array CpInfo := pool [(8, .class_ 10), (1, u "com/example/fixd/fixd/client/LocationProvider$1"), (0, u "$SwitchMap$com$example$fixd$fixd$location$Provider$Status"), (0, u "[I"), (16, .class_ 30), (0, u "java/lang/Object"), (8, .class_ 40), (0, u "com/example/fixd/fixd/client/LocationProvider")] 5

/-- com/example/fixd/fixd/client/LocationProvider$1 -/
def k8 : Class := { plain "com/example/fixd/fixd/client/LocationProvider$1" (some 0) with
  accessFlags := 4128
  interfaces := #[]
  cf := some (fileOf pool8 8 #[.nestHost 39] #[] 4128 29 #[] #[{ accessFlags := 4120, nameIndex := 11, descriptorIndex := 12, attributes := #[] }])
  fields := #[{ name := "$SwitchMap$com$example$fixd$fixd$location$Provider$Status", type := (.array .int), accessFlags := 4120, slot := 0, constantValue := 0 }]
  methods := #[]
  instanceTypes := #[]
  staticTypes := #[(.array .int)]
  resolved := Array.replicate 46 none
  statics := some 1 }

def pool9 : Array CpInfo := pool [(1, u "java/lang/Cloneable"), (0, .class_ 1), (0, u "java/lang/Object"), (0, .class_ 3)] 3

/-- java/lang/Cloneable -/
def k9 : Class := { plain "java/lang/Cloneable" (some 0) with
  accessFlags := 1537
  interfaces := #[]
  cf := some (fileOf pool9 2 #[] #[] 1537 4 #[] #[])
  fields := #[]
  methods := #[]
  instanceTypes := #[]
  staticTypes := #[]
  resolved := Array.replicate 8 none
  statics := none }

/-- the primitive byte -/
def k10 : Class := { plain "byte" none with kind := .primitive 'B', accessFlags := 0x411 }
/-- [B -/
def k11 : Class := { plain "[B" (some 0) with kind := .array 10 .byte, interfaces := #[9, 4], accessFlags := 1041 }

/-- the primitive int -/
def k12 : Class := { plain "int" none with kind := .primitive 'I', accessFlags := 0x411 }
/-- [I -/
def k13 : Class := { plain "[I" (some 0) with kind := .array 12 .int, interfaces := #[9, 4], accessFlags := 1041 }

def heap : Heap := #[{ cls := 6, slots := #[.ref 2, .ref 3, .ref 4, .null], vm := .statics 6 },
  { cls := 8, slots := #[.ref 5], vm := .statics 8 },
  { cls := 6, slots := #[.null, .int 0, .int 0], vm := .none },
  { cls := 6, slots := #[.null, .int 1, .int 0], vm := .none },
  { cls := 6, slots := #[.null, .int 2, .int 0], vm := .none },
  { cls := 13, slots := #[.int 1, .int 2, .int 3], vm := .none }]
def classes : Array Class := #[k0, k1, k2, k3, k4, k5, k6, k7, k8, k9, k10, k11, k12, k13]
def interned : List (Array UInt16 × Addr) := []
def slotsUsed : Nat := 17
def theMethod : MethodId := ⟨1, 4⟩
def args0 : Array Value := #[.int 5, .int 7]
def aboutOver (below : List Frame) : State where
  vm := { classes := classes, interned := interned.toArray }
  heap := heap
  slotsUsed := slotsUsed
  threads := #[{ frames := .invoking theMethod args0 :: below }]
def below0 : List Frame := [.native { method := ⟨0, 0⟩, args := #[] }]
def about1 : State := aboutOver below0
def p0 : Program := .bare "" "" ""
def e0 : Env := launch0.env 0 0 0
theorem w_frames : about1.frames = Frame.invoking theMethod args0 :: below0 := rfl
set_option maxRecDepth 65536 in
theorem w_args : argsFit about1.vm theMethod args0 = true := by decide +kernel
set_option maxRecDepth 65536 in
theorem w_heap : heapFits about1 = true := by decide +kernel
set_option maxRecDepth 65536 in
theorem w_runnable : about1.curStatus? = some .runnable := by decide +kernel
set_option maxRecDepth 65536 in
theorem w_alone : about1.alone = true := by decide +kernel
set_option maxRecDepth 65536 in
theorem w_named : about1.methodNamed? x = some theMethod := by decide +kernel
set_option maxRecDepth 65536 in
theorem w_hears : about1.hears theMethod below0 = true := by decide +kernel
set_option maxRecDepth 65536 in
theorem w_ripe : about1.ripe theMethod args0 below0 = true := by decide +kernel
theorem w_running : about1.status = .running := rfl
set_option maxRecDepth 65536 in
theorem w_room : about1.hasRoom e0.platform room_1 = true :=
  launch0.hasRoom_least _ room_1 (by decide +kernel) (by decide +kernel) (by decide +kernel) (by decide +kernel) (by decide +kernel) (by decide +kernel)
theorem allAtoms_all (ts : List Jvm.Cond) (a : Array Jvm.Value) (st : Jvm.State) : (allAtoms ts).before a st = ts.all (fun c => c.before a st) := by
  induction ts with
  | nil => rfl
  | cons c t ih =>
    show (Jvm.Cond.and c (allAtoms t)).before a st = _
    rw [Jvm.Cond.before_and, ih, List.all_cons]
def words1 : List Jvm.Cond := Jvm.Cond.code x code maxLocals ret :: tables_1
/-- a 'code' word, met by the world's own term for the bytes: nothing is compared byte by byte -/
theorem code_word {y : MethodName} {bytes : ByteArray} {mx : Nat} {rt : Option FieldType} {a : Array Value} {s : State} {m : MethodId} {meth : Method} {c : Code} (h1 : s.methodNamed? y = some m) (h2 : s.vm.method? m = some meth) (h3 : meth.code = some c) (h4 : c.code = bytes)
    (h5 : (c.maxLocals == mx && c.exceptionTable.isEmpty && decide (c.maxStack ≤ mostOperands) && decide (meth.sig.returnType = rt) && !meth.locks && decide (parseMethodDescriptor y.desc = some meth.sig)) = true) : (Jvm.Cond.code y bytes mx rt).before a s = true := by
  simp only [Bool.and_eq_true, beq_iff_eq, Bool.not_eq_true', decide_eq_true_eq] at h5
  obtain ⟨⟨⟨⟨⟨g1, g2⟩, g3⟩, g4⟩, g5⟩, g6⟩ := h5
  simp [Cond.before, Cond.holds, Cond.value, h1, h2, h3, h4, g1, g2, g3, g4, g5, g6]
def isCode : Jvm.Cond → Bool
  | .code _ _ _ _ => true
  | _ => false
theorem all_split {L : List Jvm.Cond} {P : Jvm.Cond → Bool} (h1 : L.all (fun c => isCode c || P c) = true) (h2 : ∀ c ∈ L.filter isCode, P c = true) : L.all P = true := by
  refine List.all_eq_true.mpr fun c hc => ?_
  have h := List.all_eq_true.mp h1 c hc
  rcases Bool.eq_false_or_eq_true (isCode c) with hi | hi
  · exact h2 c (List.mem_filter.mpr ⟨hc, hi⟩)
  · simpa [hi] using h
set_option maxRecDepth 65536 in
theorem w_c0 : (Jvm.Cond.code x code maxLocals ret).before args0 about1 = true := code_word (m := ⟨1, 4⟩) (meth := k1m4) (c := k1c4) (by decide +kernel) rfl rfl rfl (by decide +kernel)
set_option maxRecDepth 65536 in
theorem w_c1 : (Jvm.Cond.code ({ cls := "com/example/fixd/fixd/client/LocationProviderStatusPinLaw", name := "pick", desc := "(I)Lcom/example/fixd/fixd/location/Provider$Status;" } : Jvm.MethodName) method_2_code (1 : Nat) (Option.some (Jvm.ClassFile.FieldType.object "com/example/fixd/fixd/location/Provider$Status"))).before args0 about1 = true := code_word (m := ⟨1, 1⟩) (meth := k1m1) (c := k1c1) (by decide +kernel) rfl rfl rfl (by decide +kernel)
set_option maxRecDepth 65536 in
theorem w_c2 : (Jvm.Cond.code ({ cls := "com/example/fixd/fixd/client/LocationProvider", name := "status", desc := "(Lcom/example/fixd/fixd/location/Provider$Status;)I" } : Jvm.MethodName) prog_7_method_12_code (1 : Nat) (Option.some Jvm.ClassFile.FieldType.int)).before args0 about1 = true := code_word (m := ⟨7, 0⟩) (meth := k7m0) (c := k7c0) (by decide +kernel) rfl rfl rfl (by decide +kernel)
set_option maxRecDepth 65536 in
theorem w_c3 : (Jvm.Cond.code ({ cls := "java/lang/Enum", name := "ordinal", desc := "()I" } : Jvm.MethodName) jdk_37_method_2_code (1 : Nat) (Option.some Jvm.ClassFile.FieldType.int)).before args0 about1 = true := code_word (m := ⟨5, 0⟩) (meth := k5m0) (c := k5c0) (by decide +kernel) rfl rfl rfl (by decide +kernel)
set_option maxRecDepth 65536 in
theorem w_c4 : (Jvm.Cond.code ({ cls := "com/example/fixd/fixd/client/LocationProviderStatusPinLaw", name := "expected", desc := "(I)I" } : Jvm.MethodName) method_3_code (1 : Nat) (Option.some Jvm.ClassFile.FieldType.int)).before args0 about1 = true := code_word (m := ⟨1, 2⟩) (meth := k1m2) (c := k1c2) (by decide +kernel) rfl rfl rfl (by decide +kernel)
set_option maxRecDepth 65536 in
theorem w_c5 : (Jvm.Cond.code ({ cls := "com/example/fixd/fixd/client/LocationProviderStatusPinLaw", name := "named", desc := "(I)I" } : Jvm.MethodName) method_4_code (1 : Nat) (Option.some Jvm.ClassFile.FieldType.int)).before args0 about1 = true := code_word (m := ⟨1, 3⟩) (meth := k1m3) (c := k1c3) (by decide +kernel) rfl rfl rfl (by decide +kernel)
def codes1 : List Jvm.Cond := [Jvm.Cond.code x code maxLocals ret, Jvm.Cond.code ({ cls := "com/example/fixd/fixd/client/LocationProviderStatusPinLaw", name := "pick", desc := "(I)Lcom/example/fixd/fixd/location/Provider$Status;" } : Jvm.MethodName) method_2_code (1 : Nat) (Option.some (Jvm.ClassFile.FieldType.object "com/example/fixd/fixd/location/Provider$Status")), Jvm.Cond.code ({ cls := "com/example/fixd/fixd/client/LocationProvider", name := "status", desc := "(Lcom/example/fixd/fixd/location/Provider$Status;)I" } : Jvm.MethodName) prog_7_method_12_code (1 : Nat) (Option.some Jvm.ClassFile.FieldType.int), Jvm.Cond.code ({ cls := "java/lang/Enum", name := "ordinal", desc := "()I" } : Jvm.MethodName) jdk_37_method_2_code (1 : Nat) (Option.some Jvm.ClassFile.FieldType.int), Jvm.Cond.code ({ cls := "com/example/fixd/fixd/client/LocationProviderStatusPinLaw", name := "expected", desc := "(I)I" } : Jvm.MethodName) method_3_code (1 : Nat) (Option.some Jvm.ClassFile.FieldType.int), Jvm.Cond.code ({ cls := "com/example/fixd/fixd/client/LocationProviderStatusPinLaw", name := "named", desc := "(I)I" } : Jvm.MethodName) method_4_code (1 : Nat) (Option.some Jvm.ClassFile.FieldType.int)]
set_option maxRecDepth 65536 in
theorem codes_eq : words1.filter isCode = codes1 := rfl
theorem w_codes : ∀ c ∈ words1.filter isCode, c.before args0 about1 = true := by
  rw [codes_eq]
  intro c hc
  simp only [codes1, List.mem_cons, List.not_mem_nil, or_false] at hc
  rcases hc with rfl | rfl | rfl | rfl | rfl | rfl
  · exact w_c0
  · exact w_c1
  · exact w_c2
  · exact w_c3
  · exact w_c4
  · exact w_c5
set_option maxRecDepth 65536 in
theorem w_t1 : (words1.take 24).all (fun c => isCode c || c.before args0 about1) = true := by decide +kernel
set_option maxRecDepth 65536 in
theorem w_t2 : (words1.drop 24).all (fun c => isCode c || c.before args0 about1) = true := by decide +kernel
theorem w_tables : (allAtoms (Jvm.Cond.code x code maxLocals ret :: tables_1)).before args0 about1 = true := by
  rw [allAtoms_all]
  show words1.all (fun c => c.before args0 about1) = true
  refine all_split ?_ w_codes
  rw [← List.take_append_drop 24 words1, List.all_append, w_t1, w_t2]
  rfl
set_option maxRecDepth 65536 in
theorem w_case : (Jvm.Cond.and given_1 narrow_1).before args0 about1 = true := by decide +kernel
theorem w_applies : (headSpec (Jvm.Cond.code x code maxLocals ret :: tables_1) room_1).applies x e0.platform about1 = true :=
  (Spec.applies_iff w_frames).mpr ⟨w_running, w_runnable, w_alone, w_named, w_hears, w_ripe, w_room, w_tables⟩
theorem atStart : AtStart classFile x code maxLocals ret World_1 tables_1 room_1 Calls_1 rest_1 Pre_1 launch0 p0 e0 about1 theMethod args0 below0 :=
  ⟨lists_1, trivial, launch0.admits_env _ _ _, launch0.least_env, fairChoices_fair.cas, fairChoices_fair.clock, w_frames, w_args, w_heap, w_applies, trivial, trivial, w_case⟩
end start1
theorem witness_1 : WitnessClaimed_1 := ⟨start1.p0, start1.e0, start1.about1, start1.theMethod, start1.args0, start1.below0, start1.atStart⟩
end Jvm.Pilot.@@N@@
