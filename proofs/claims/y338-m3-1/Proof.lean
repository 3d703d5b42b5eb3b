import JvmDerived
import JvmDerived.Pilot.@@N@@Statement
import JvmDerived.Pilot.@@N@@Code
set_option linter.unusedVariables false
set_option linter.unusedSimpArgs false
namespace Jvm.RoadKit
open Sem ClassFile Op Lib Jvm.Stand Jvm.Free Jvm.LawKit
section New
variable {p : Program} {l : Launch} {e : Env} {R : Room} {s : State} {m : MethodId} {args : Array Value} {below : List Frame} {meth : Method} {c : Code} {T : State} {locs : List Loc} {cells slots : Nat}
theorem retI (X : Stand p l e R s m args below meth c T locs cells slots) (hx : p.tables.exec = Jvm.exec) {pc : Nat} {Ls : Array Slot} {z : Int32} {rest : List Value} (hret : meth.sig.returnType = some .int) (hd : decode c.code pc = .ok (.ireturn, 1)) {fs : List Frame}
    (hl : ∀ (f : JFrame) (acts : List Action), f.method = m → f.locked = none → f.entered = [] → (doReturn e (T.setTop f) acts (some (.int z))).1 = T.setFrames fs) : Steps p.tables e below (T.setTop (mkF m pc Ls (.int z :: rest))) (T.setFrames fs) := by
  have hm' : T.vm.method? m = some meth := X.method'
  have hn : narrow .int (.int z) = .int z := rfl
  show Steps p.tables e below (T.setTop { method := m, pc := pc, locals := Ls, stack := _ :: rest, locked := none }) _
  jvm_step X.here [X.here.top, hx, hd, hm', hret, hn]
  first | (intro acts; rw [hl _ acts rfl rfl rfl]) | rw [hl _ _ rfl rfl rfl]
  exact Steps.refl _
/-- the run comes from S to a state of which Φ holds -/
def ownGo (tb : Tables) (e : Env) (below : List Frame) (S : State) (Φ : State → Prop) : Prop := ∃ t, Steps tb e below S t ∧ Φ t
theorem ownStep {tb : Tables} {S S' : State} {Φ : State → Prop} (h : ∀ t, Steps tb e below S' t → Steps tb e below S t) (k : ownGo tb e below S' Φ) : ownGo tb e below S Φ := by
  obtain ⟨t, a, b⟩ := k; exact ⟨t, h t a, b⟩
/-- a body's end: what its contract says -/
def ownEnd (below : List Frame) (s : State) (Q : Option Value → Heap → List Loc → Prop) (k n : Nat) (t : State) : Prop :=
  t.status = .running ∧ ∃ v L, Ended t below (.returned v) ∧ Q v t.heap L ∧ FrameEnd s (.returned v) t L k n
theorem ownFin {tb : Tables} {S : State} {Q : Option Value → Heap → List Loc → Prop} {k n : Nat} (h : ownGo tb e below S (ownEnd below s Q k n)) :
    ∃ s₂ o, Steps tb e below S s₂ ∧ s₂.status = .running ∧ Ended s₂ below o ∧ ∃ v L, o = .returned v ∧ Q v s₂.heap L ∧ FrameEnd s o s₂ L k n := by
  obtain ⟨t, a, b, v, L, c1, d, f⟩ := h; exact ⟨t, _, a, b, c1, v, L, rfl, d, f⟩
theorem ownRet (X : Stand p l e R s m args below meth c T locs cells slots) {g : JFrame} {v : Option Value} {Q : Option Value → Heap → List Loc → Prop} {k n : Nat} (hlocks : meth.locks = false) (hv : meth.sig.returnType = none → v = none)
    (hs : ∀ fs, (∀ (f : JFrame) (acts : List Action), f.method = m → f.locked = none → f.entered = [] → (doReturn e (T.setTop f) acts v).1 = T.setFrames fs) → Steps p.tables e below (T.setTop g) (T.setFrames fs))
    (hQ : Q v T.heap locs) (hc : cells ≤ k) (hn : slots ≤ n) : ownGo p.tables e below (T.setTop g) (ownEnd below s Q k n) := by
  obtain ⟨fs, hr, hrun, hended, hW, hsame⟩ := X.leave hv hlocks
  exact ⟨_, hs fs hr, hrun, v, locs, hended, hQ, ⟨_, rfl⟩, hW, hsame.mono hc hn⟩
end New
section Heaps
variable {Z : State} {h h' h0 : Heap} {ws : List Addr}
theorem own_extOf (K : Keep h h' []) : Ext h h' := ⟨K.1, fun a c q => K.2.1 a c q nin0⟩
theorem own_extRefl (h : Heap) : Ext h h := ⟨Nat.le_refl _, fun _ _ q => q⟩
theorem own_extTrans {h2 : Heap} (E : Ext h h') (F : Ext h' h2) : Ext h h2 := ⟨Nat.le_trans E.1 F.1, fun a c q => F.2 a c (E.2 a c q)⟩
theorem own_staKeep {C n d : String} {w : Value} (F : Sta Z h C n d w) (K : Keep h h' ws) (q : ∀ x ∈ ws, ∀ cell : Cell, h[x]? = some cell → cell.vm.isStatics = false) : Sta Z h' C n d w := by
  obtain ⟨cf, i, k, f, st, cell, h1, h2, h3, h4, h5, h6, h7⟩ := F
  exact ⟨cf, i, k, f, st, cell, h1, h2, h3, h4, K.2.1 st cell h5 (fun z => by rw [q st z cell h5] at h6; cases h6), h6, h7⟩
theorem own_insKeep {a : Addr} {C : String} {b : Bool} (F : Ins Z h a C b) (K : Keep h h' ws) : Ins Z h' a C b := by
  obtain ⟨cell, cT, h1, h2, h3⟩ := F
  obtain ⟨c', e1, e2, e3, -⟩ := K.2.2 a cell h1
  exact ⟨c', cT, e1, h2, by rw [e2, e3]; exact h3⟩
theorem own_scrSet {a : Addr} {cl : Cell} {z j x : Int32} (F : Scr Z h a cl z) (hj : ¬ (j < 0 ∨ cl.slots.size ≤ j.toNatClampNeg)) (W : Wr h h' a j.toNatClampNeg (.int x)) : ∃ cl', Scr Z h' a cl' z := by
  obtain ⟨A, S, N, H⟩ := F
  refine ⟨_, A.same W, by rw [sz_set]; exact S, N, fun i hi => ?_⟩
  rw [sz_set] at hi
  by_cases e : i = j
  · have q := get_hit (v := Value.int x) hj e
    rw [q, atv_of q]
  · have q := get_miss (c := cl) (v := Value.int x) (fun y => hj (Or.inl y)) (fun y => hi (Or.inl y)) e
    have r := H i hi
    rw [← q] at r
    rw [r, atv_of r]
theorem own_scrOf {a : Addr} {k : ClassId} {z : Int32} {vs : List Value} {d : Value} (F : Arv Z h a k .int z vs d) : ∃ cl, Scr Z h a cl z := by
  obtain ⟨c, A, q, S, N, H, G⟩ := F
  refine ⟨c, A, S, N, fun i hi => ?_⟩
  have lt : i.toNatClampNeg < c.slots.size := Nat.lt_of_not_le fun y => hi (Or.inr y)
  obtain ⟨w, hw⟩ := fit_I (G _ lt) (Or.inl rfl)
  have e := H _ lt
  rw [hw] at e
  rw [e, atv_of e]
end Heaps
section Start
variable {args : Array Value} {first s : State} {o : Option Outcome} {idx : List Nat} {t : Term}
theorem own_eqI {k : Int32} (h : (Cond.eq t (.int k)).value args first o s idx = some true) : t.eval args first o idx s = some (.int k) := by
  simp only [Cond.value, Term.eval] at h
  cases ht : t.eval args first o idx s with
  | none => simp [ht] at h
  | some x => cases x <;> simp [ht] at h ⊢; exact h
theorem own_len0 {k : Int32} {a : Addr} {cl : Cell} {ty : FieldType} (h : (Term.length t).eval args first o idx s = some (.int k)) (ht : t.eval args first o idx s = some (.ref a)) (A : Arr s s.heap a cl ty) : cl.slots.size < 2 ^ 31 ∧ cl.slots.size.toInt32 = k := by
  have e5 := A.fin (U := s) (Vm.Alike.refl _)
  simp only [Term.eval, ht, Option.bind_eq_bind, Option.bind_some, e5] at h
  by_cases q : cl.slots.size < 2 ^ 31
  · rw [if_pos q] at h; exact ⟨q, Value.int.inj (Option.some.inj h)⟩
  · rw [if_neg q] at h; cases h
theorem own_idxsub {k j : Int32} (hj : ¬ j < 0) : (Term.sub (.index 0) (.int k)).eval args s o [j.toNatClampNeg] s = some (.int (j - k)) := by
  have q : (Term.index 0).eval args s o [j.toNatClampNeg] s = some (.int j) := idx_at hj
  simp only [Term.eval] at q ⊢
  simpa using q
theorem own_arv0 {Z : State} {a : Addr} {cl : Cell} {ty : FieldType} {d : Value} (A : Arr Z s.heap a cl ty) (h : cl.slots.size < 2 ^ 31 ∧ cl.slots.size.toInt32 = (0 : Int32)) : Arv Z s.heap a cl.cls ty (0 : Int32) [] d := by
  have z : cl.slots.size = 0 := by
    have q := len_toInt h.1
    rw [h.2] at q
    have e0 : (0 : Int32).toInt = 0 := by decide
    omega
  exact ⟨cl, A, rfl, z, by decide, fun k hk => absurd hk (by omega), fun k hk => absurd hk (by omega)⟩
end Start
end Jvm.RoadKit
namespace Jvm.Pilot.@@N@@
open Jvm Jvm.ClassFile Sem Op Lib Jvm.Free Jvm.Stand Jvm.LawKit Jvm.RoadKit Bundle Jvm.Pilot.@@N@@.Jvm.D
theorem own_in10 {n : Int32} (h1 : ¬ n < (0 : Int32)) (h2 : n < (10 : Int32)) : ¬ (n < 0 ∨ 10 ≤ n.toNatClampNeg) := by
  have := nat_of h1
  have e10 : (10 : Int32).toInt = 10 := by decide
  rw [Int32.lt_iff_toInt_lt, e10] at h2
  rintro (q | q)
  · exact h1 q
  · omega
theorem own_al_acol_d0 : decode jdk_22_method_1_code 0 = .ok (.aload_n 0, 1) := by decide +kernel
theorem own_al_acol_d1 : decode jdk_22_method_1_code 1 = .ok (.invokespecial 1, 3) := by decide +kernel
theorem own_al_acol_d4 : decode jdk_22_method_1_code 4 = .ok (.return_, 1) := by decide +kernel
theorem own_al_acol_pn : plainName "java/util/AbstractCollection" = true := by first | (simp [plainName, overriddenIn]; done) | decide +kernel
theorem own_al_acol_ef (m : MethodId) (x0 : Addr) : entryFrame m #[(.ref x0)] 1 = mkF m 0 #[.val (.ref x0)] [] := by first | (simp [entryFrame, mkF, argsToLocals, Value.category]; done) | rfl
def own_al_acol_Q (Z : State) (a : Addr) (h0 : Heap) (n0 : Nat) (vv_ : Option Value) (hh_ : Heap) (LL_ : List Loc) : Prop := vv_ = none ∧ Fr n0 LL_ ∧ hh_ = h0
set_option maxRecDepth 65536 in
set_option maxHeartbeats 40000000 in
theorem own_al_acol (l : Launch) (Z : State) (a0 : Array Value) (hw : ∀ d ∈ tables_1, d.before a0 Z = true) (ws : List Jvm.Cond) (a : Addr) (h0 : Heap) (n0 : Nat) (Z0 : n0 ≤ h0.size) :
    MetFree l (⟨"java/util/AbstractCollection", "<init>", "()V"⟩ : MethodName) (head1 (Jvm.Cond.code (⟨"java/util/AbstractCollection", "<init>", "()V"⟩ : MethodName) jdk_22_method_1_code 1 none :: ws) ({ frames := 1, cells := 0, slots := 0, locals := 12 } : Room)) (fun aa_ UU_ => aa_ = #[(.ref a)] ∧ Z.Warmed39 UU_.vm ∧ UU_.heap = h0) (fun _ _ _ _ _ => True) (fun _ UU_ oo_ UV_ => ∃ vv_ LL_, oo_ = .returned vv_ ∧ own_al_acol_Q Z a h0 n0 vv_ UV_.heap LL_ ∧ FrameEnd UU_ oo_ UV_ LL_ ({ frames := 1, cells := 0, slots := 0, locals := 12 } : Room).cells ({ frames := 1, cells := 0, slots := 0, locals := 12 } : Room).slots) := by
  refine MetFree.of_bodySF (plainFor_of_name own_al_acol_pn) hisR ?_
  intro p e s m args below meth c s₁ Bd hml0 hP hK
  obtain ⟨rfl, hZ, hh⟩ := hP
  have hx := Bd.exec
  have hby := Bd.bytes
  have hml : c.maxLocals = 1 := hml0
  have hown : s.vm.findClass "java/util/AbstractCollection" = some m.cls := findClass_of_methodNamed Bd.named
  have hnm := (name_of_methodNamed Bd.named Bd.method).1
  have X0 : Stand p l e ({ frames := 1, cells := 0, slots := 0, locals := 12 } : Room) s m #[(.ref a)] below meth c s₁ [] 0 0 := Stand.of_body Bd
  have e0 : s₁.heap = h0 := by rw [← hh, Bd.state]; rfl
  have N0 := Fr.nil n0
  have KP0 : Keep h0 h0 [] := Keep.refl _ _
  refine ownFin (Q := own_al_acol_Q Z a h0 n0) ?_
  refine ownStep (fun _ k => castTop (own_al_acol_ef m a) k) ?_
  show ownGo p.tables e below (s₁.setTop (mkF m 0 #[.val (.ref a)] [])) _
  refine ownStep (fun _ k => XS.aloadN X0.here hx rfl (hb hby own_al_acol_d0) rfl rfl k) ?_
  show ownGo p.tables e below (s₁.setTop (mkF m 1 #[.val (.ref a)] [(.ref a)])) _
  obtain ⟨T1, X1, e1, st1⟩ := initO X0 hx hZ hown (hw _ (List.mem_of_getElem? (i := 30) rfl)) (hw _ (List.mem_of_getElem? (i := 10) rfl)) (hw _ (List.mem_of_getElem? (i := 11) rfl)) e0 (g := (mkF m 1 #[.val (.ref a)] [(.ref a)])) rfl (by rw [hml]; rfl) rfl (hb hby own_al_acol_d1) (by decide) (W := 0) (by show 2 * 0 + _ ≤ _; exact Nat.le_of_eq rfl) (by decide)
  refine ownStep st1 ?_
  show ownGo p.tables e below (T1.setTop (mkF m 4 #[.val (.ref a)] [])) _
  exact ownRet X1 (v := none) Bd.notSynchronized (fun _ => rfl) (fun _ hr => X1.returnOut hx Bd.returns (hb hby own_al_acol_d4) hr) (by rw [e1]; exact ⟨rfl, N0, rfl⟩) (by decide) (by decide)
theorem own_al_alist_d0 : decode jdk_39_method_1_code 0 = .ok (.aload_n 0, 1) := by decide +kernel
theorem own_al_alist_d1 : decode jdk_39_method_1_code 1 = .ok (.invokespecial 1, 3) := by decide +kernel
theorem own_al_alist_d4 : decode jdk_39_method_1_code 4 = .ok (.aload_n 0, 1) := by decide +kernel
theorem own_al_alist_d5 : decode jdk_39_method_1_code 5 = .ok (.iconst 0, 1) := by decide +kernel
theorem own_al_alist_d6 : decode jdk_39_method_1_code 6 = .ok (.putfield 7, 3) := by decide +kernel
theorem own_al_alist_d9 : decode jdk_39_method_1_code 9 = .ok (.return_, 1) := by decide +kernel
theorem own_al_alist_pn : plainName "java/util/AbstractList" = true := by first | (simp [plainName, overriddenIn]; done) | decide +kernel
theorem own_al_alist_pd0 : parseMethodDescriptor "()V" = some ⟨[], none⟩ := by decide +kernel
theorem own_al_alist_ef (m : MethodId) (x0 : Addr) : entryFrame m #[(.ref x0)] 1 = mkF m 0 #[.val (.ref x0)] [] := by first | (simp [entryFrame, mkF, argsToLocals, Value.category]; done) | rfl
def own_al_alist_Q (Z : State) (a : Addr) (h0 : Heap) (n0 : Nat) (vv_ : Option Value) (hh_ : Heap) (LL_ : List Loc) : Prop := vv_ = none ∧ Fr n0 LL_ ∧ Keep h0 hh_ [a] ∧ Fld Z hh_ a "java/util/ArrayList" "elementData" "[Ljava/lang/Object;" .null ∧ Fld Z hh_ a "java/util/ArrayList" "size" "I" (.int (0 : Int32)) ∧ Fld Z hh_ a "java/util/AbstractList" "modCount" "I" (.int (0 : Int32))
set_option maxRecDepth 65536 in
set_option maxHeartbeats 40000000 in
theorem own_al_alist (l : Launch) (Z : State) (a0 : Array Value) (hw : ∀ d ∈ tables_1, d.before a0 Z = true) (ws : List Jvm.Cond) (a : Addr) (h0 : Heap) (n0 : Nat) (Z0 : n0 ≤ h0.size) (E : Exa Z h0 a "java/util/ArrayList") (Fe : Fld Z h0 a "java/util/ArrayList" "elementData" "[Ljava/lang/Object;" .null) (Fs : Fld Z h0 a "java/util/ArrayList" "size" "I" (.int (0 : Int32))) (Fm : Fld Z h0 a "java/util/AbstractList" "modCount" "I" (.int (0 : Int32))) (g : n0 ≤ a) :
    MetFree l (⟨"java/util/AbstractList", "<init>", "()V"⟩ : MethodName) (head1 (Jvm.Cond.code (⟨"java/util/AbstractList", "<init>", "()V"⟩ : MethodName) jdk_39_method_1_code 1 none :: ws) ({ frames := 2, cells := 0, slots := 0, locals := 24 } : Room)) (fun aa_ UU_ => aa_ = #[(.ref a)] ∧ Z.Warmed39 UU_.vm ∧ UU_.heap = h0) (fun _ _ _ _ _ => True) (fun _ UU_ oo_ UV_ => ∃ vv_ LL_, oo_ = .returned vv_ ∧ own_al_alist_Q Z a h0 n0 vv_ UV_.heap LL_ ∧ FrameEnd UU_ oo_ UV_ LL_ ({ frames := 2, cells := 0, slots := 0, locals := 24 } : Room).cells ({ frames := 2, cells := 0, slots := 0, locals := 24 } : Room).slots) := by
  refine MetFree.of_bodySF (plainFor_of_name own_al_alist_pn) hisR ?_
  intro p e s m args below meth c s₁ Bd hml0 hP hK
  obtain ⟨rfl, hZ, hh⟩ := hP
  have hx := Bd.exec
  have hby := Bd.bytes
  have hml : c.maxLocals = 1 := hml0
  have hown : s.vm.findClass "java/util/AbstractList" = some m.cls := findClass_of_methodNamed Bd.named
  have hnm := (name_of_methodNamed Bd.named Bd.method).1
  have X0 : Stand p l e ({ frames := 2, cells := 0, slots := 0, locals := 24 } : Room) s m #[(.ref a)] below meth c s₁ [] 0 0 := Stand.of_body Bd
  have e0 : s₁.heap = h0 := by rw [← hh, Bd.state]; rfl
  have N0 := Fr.nil n0
  have KP0 : Keep h0 h0 [a] := Keep.refl _ _
  refine ownFin (Q := own_al_alist_Q Z a h0 n0) ?_
  refine ownStep (fun _ k => castTop (own_al_alist_ef m a) k) ?_
  show ownGo p.tables e below (s₁.setTop (mkF m 0 #[.val (.ref a)] [])) _
  refine ownStep (fun _ k => XS.aloadN X0.here hx rfl (hb hby own_al_alist_d0) rfl rfl k) ?_
  show ownGo p.tables e below (s₁.setTop (mkF m 1 #[.val (.ref a)] [(.ref a)])) _
  have Zs2 : n0 ≤ h0.size := Nat.le_trans Z0 KP0.1
  obtain ⟨_, _, ⟨T1, L1, k1, n1⟩, -, X1, ⟨Lc1, hQ1, l1, y1, z1⟩, st1⟩ := X0.specialBack hx (y := (⟨"java/util/AbstractCollection", "<init>", "()V"⟩ : MethodName)) rfl hown (mvT hZ (hw _ (List.mem_of_getElem? (i := 24) rfl))) (mvT hZ (hw _ (List.mem_of_getElem? (i := 25) rfl))) (mvT hZ (hw _ (List.mem_of_getElem? (i := 29) rfl))) (by decide) (backOf (W := 0) (own_al_acol l Z a0 hw [] a h0 n0 Zs2 ) hZ (hw _ (List.mem_of_getElem? (i := 29) rfl)) (hw _ (List.mem_of_getElem? (i := 28) rfl)) (by decide) (by decide)) (g := (mkF m 1 #[.val (.ref a)] [(.ref a)])) rfl (by rw [hml]; rfl) (Steps.refl _) (a := a) (argsL := []) (rest := []) (lenOf own_al_alist_pd0 rfl) rfl (by show 2 * 0 + _ ≤ _; exact Nat.le_of_eq rfl) (hb hby own_al_alist_d1) (fun _ _ => ⟨rfl, e0, (by decide : 0 + 0 ≤ _), (by decide : 0 + 0 ≤ _)⟩)
  dsimp only [Pt.U, Pt.locs, Pt.cells, Pt.slots] at X1 l1 y1 z1 st1 hQ1
  obtain rfl : k1 = 0 := y1
  obtain rfl : n1 = 0 := z1
  obtain ⟨rfl, N1q, R1⟩ := hQ1
  have N1 : Fr n0 L1 := l1 ▸ Fr.app N0 N1q
  refine ownStep (fun _ k => st1.trans k) ?_
  refine ownStep (fun _ k => XS.aloadN X1.here hx rfl (hb hby own_al_alist_d4) rfl rfl k) ?_
  refine ownStep (fun _ k => XS.iconst X1.here hx rfl (hb hby own_al_alist_d5) k) ?_
  show ownGo p.tables e below (T1.setTop (mkF m 6 #[.val (.ref a)] [(.int (0 : Int32)), (.ref a)])) _
  obtain ⟨T3, h3, X3, e3, W3, st3⟩ := putF X1 hx hZ hown (host := "") (Or.inl (hw _ (List.mem_of_getElem? (i := 31) rfl))) Via.refl R1 Fm E (Or.inl (hw _ (List.mem_of_getElem? (i := 32) rfl))) (hw _ (List.mem_of_getElem? (i := 13) rfl)) (ty := .int) (by decide) rfl rfl (g := (mkF m 6 #[.val (.ref a)] [(.int (0 : Int32)), (.ref a)])) rfl rfl (hb hby own_al_alist_d6)
  have N4 := Fr.snoc X3 N1 g
  have KP5 : Keep h0 h3 [a] := KP0.wr W3 (Or.inl (List.mem_of_getElem? (i := 0) rfl))
  have F6 : Fld Z h3 a "java/util/AbstractList" "modCount" "I" (.int (0 : Int32)) := Fm.same W3
  refine ownStep st3 ?_
  show ownGo p.tables e below (T3.setTop (mkF m 9 #[.val (.ref a)] [])) _
  have Q7 : Fld Z h3 a "java/util/ArrayList" "elementData" "[Ljava/lang/Object;" .null := (Fe.other W3 (Or.inr (slot_ne (Or.inl (hw _ (List.mem_of_getElem? (i := 35) rfl))) (Or.inl (hw _ (List.mem_of_getElem? (i := 32) rfl))) (by decide) (t := (.array (.object "java/lang/Object"))) (t' := .int) (by decide) (by decide))))
  have Q8 : Fld Z h3 a "java/util/ArrayList" "size" "I" (.int (0 : Int32)) := (Fs.other W3 (Or.inr (slot_ne (Or.inl (hw _ (List.mem_of_getElem? (i := 62) rfl))) (Or.inl (hw _ (List.mem_of_getElem? (i := 32) rfl))) (by decide) (t := .int) (t' := .int) (by decide) (by decide))))
  exact ownRet X3 (v := none) Bd.notSynchronized (fun _ => rfl) (fun _ hr => X3.returnOut hx Bd.returns (hb hby own_al_alist_d9) hr) (by rw [e3]; exact ⟨rfl, N4, KP5, Q7, Q8, F6⟩) (by decide) (by decide)
theorem own_al_init_d0 : decode jdk_38_method_2_code 0 = .ok (.aload_n 0, 1) := by decide +kernel
theorem own_al_init_d1 : decode jdk_38_method_2_code 1 = .ok (.invokespecial 1, 3) := by decide +kernel
theorem own_al_init_d4 : decode jdk_38_method_2_code 4 = .ok (.aload_n 0, 1) := by decide +kernel
theorem own_al_init_d5 : decode jdk_38_method_2_code 5 = .ok (.getstatic 39, 3) := by decide +kernel
theorem own_al_init_d8 : decode jdk_38_method_2_code 8 = .ok (.putfield 9, 3) := by decide +kernel
theorem own_al_init_d11 : decode jdk_38_method_2_code 11 = .ok (.return_, 1) := by decide +kernel
theorem own_al_init_pn : plainName "java/util/ArrayList" = true := by first | (simp [plainName, overriddenIn]; done) | decide +kernel
theorem own_al_init_pd0 : parseMethodDescriptor "()V" = some ⟨[], none⟩ := by decide +kernel
theorem own_al_init_ef (m : MethodId) (x0 : Addr) : entryFrame m #[(.ref x0)] 1 = mkF m 0 #[.val (.ref x0)] [] := by first | (simp [entryFrame, mkF, argsToLocals, Value.category]; done) | rfl
def own_al_init_Q (Z : State) (a : Addr) (ed : Addr) (h0 : Heap) (n0 : Nat) (vv_ : Option Value) (hh_ : Heap) (LL_ : List Loc) : Prop := vv_ = none ∧ Fr n0 LL_ ∧ Keep h0 hh_ [a] ∧ Fld Z hh_ a "java/util/ArrayList" "elementData" "[Ljava/lang/Object;" (.ref ed) ∧ Fld Z hh_ a "java/util/ArrayList" "size" "I" (.int (0 : Int32)) ∧ Fld Z hh_ a "java/util/AbstractList" "modCount" "I" (.int (0 : Int32))
set_option maxRecDepth 65536 in
set_option maxHeartbeats 40000000 in
theorem own_al_init (l : Launch) (Z : State) (a0 : Array Value) (hw : ∀ d ∈ tables_1, d.before a0 Z = true) (ws : List Jvm.Cond) (a : Addr) (ed : Addr) (h0 : Heap) (n0 : Nat) (Z0 : n0 ≤ h0.size) (hOld : Old Z n0 h0) (S : Sta Z Z.heap "java/util/ArrayList" "DEFAULTCAPACITY_EMPTY_ELEMENTDATA" "[Ljava/lang/Object;" (.ref ed)) (E : Exa Z h0 a "java/util/ArrayList") (Fe : Fld Z h0 a "java/util/ArrayList" "elementData" "[Ljava/lang/Object;" .null) (Fs : Fld Z h0 a "java/util/ArrayList" "size" "I" (.int (0 : Int32))) (Fm : Fld Z h0 a "java/util/AbstractList" "modCount" "I" (.int (0 : Int32))) (g : n0 ≤ a) :
    MetFree l (⟨"java/util/ArrayList", "<init>", "()V"⟩ : MethodName) (head1 (Jvm.Cond.code (⟨"java/util/ArrayList", "<init>", "()V"⟩ : MethodName) jdk_38_method_2_code 1 none :: ws) ({ frames := 3, cells := 0, slots := 0, locals := 36 } : Room)) (fun aa_ UU_ => aa_ = #[(.ref a)] ∧ Z.Warmed39 UU_.vm ∧ UU_.heap = h0) (fun _ _ _ _ _ => True) (fun _ UU_ oo_ UV_ => ∃ vv_ LL_, oo_ = .returned vv_ ∧ own_al_init_Q Z a ed h0 n0 vv_ UV_.heap LL_ ∧ FrameEnd UU_ oo_ UV_ LL_ ({ frames := 3, cells := 0, slots := 0, locals := 36 } : Room).cells ({ frames := 3, cells := 0, slots := 0, locals := 36 } : Room).slots) := by
  refine MetFree.of_bodySF (plainFor_of_name own_al_init_pn) hisR ?_
  intro p e s m args below meth c s₁ Bd hml0 hP hK
  obtain ⟨rfl, hZ, hh⟩ := hP
  have hx := Bd.exec
  have hby := Bd.bytes
  have hml : c.maxLocals = 1 := hml0
  have hown : s.vm.findClass "java/util/ArrayList" = some m.cls := findClass_of_methodNamed Bd.named
  have hnm := (name_of_methodNamed Bd.named Bd.method).1
  have X0 : Stand p l e ({ frames := 3, cells := 0, slots := 0, locals := 36 } : Room) s m #[(.ref a)] below meth c s₁ [] 0 0 := Stand.of_body Bd
  have e0 : s₁.heap = h0 := by rw [← hh, Bd.state]; rfl
  have N0 := Fr.nil n0
  have KP0 : Keep h0 h0 [a] := Keep.refl _ _
  refine ownFin (Q := own_al_init_Q Z a ed h0 n0) ?_
  refine ownStep (fun _ k => castTop (own_al_init_ef m a) k) ?_
  show ownGo p.tables e below (s₁.setTop (mkF m 0 #[.val (.ref a)] [])) _
  refine ownStep (fun _ k => XS.aloadN X0.here hx rfl (hb hby own_al_init_d0) rfl rfl k) ?_
  show ownGo p.tables e below (s₁.setTop (mkF m 1 #[.val (.ref a)] [(.ref a)])) _
  have Zs2 : n0 ≤ h0.size := Nat.le_trans Z0 KP0.1
  obtain ⟨_, _, ⟨T1, L1, k1, n1⟩, -, X1, ⟨Lc1, hQ1, l1, y1, z1⟩, st1⟩ := X0.specialBack hx (y := (⟨"java/util/AbstractList", "<init>", "()V"⟩ : MethodName)) rfl hown (mvT hZ (hw _ (List.mem_of_getElem? (i := 18) rfl))) (mvT hZ (hw _ (List.mem_of_getElem? (i := 19) rfl))) (mvT hZ (hw _ (List.mem_of_getElem? (i := 23) rfl))) (by decide) (backOf (W := 0) (own_al_alist l Z a0 hw [] a h0 n0 Zs2 E Fe Fs Fm g) hZ (hw _ (List.mem_of_getElem? (i := 23) rfl)) (hw _ (List.mem_of_getElem? (i := 22) rfl)) (by decide) (by decide)) (g := (mkF m 1 #[.val (.ref a)] [(.ref a)])) rfl (by rw [hml]; rfl) (Steps.refl _) (a := a) (argsL := []) (rest := []) (lenOf own_al_init_pd0 rfl) rfl (by show 2 * 0 + _ ≤ _; exact Nat.le_of_eq rfl) (hb hby own_al_init_d1) (fun _ _ => ⟨rfl, e0, (by decide : 0 + 0 ≤ _), (by decide : 0 + 0 ≤ _)⟩)
  dsimp only [Pt.U, Pt.locs, Pt.cells, Pt.slots] at X1 l1 y1 z1 st1 hQ1
  obtain rfl : k1 = 0 := y1
  obtain rfl : n1 = 0 := z1
  obtain ⟨rfl, N1q, R1, P3, P4, P5⟩ := hQ1
  have N1 : Fr n0 L1 := l1 ▸ Fr.app N0 N1q
  refine ownStep (fun _ k => st1.trans k) ?_
  have KP6 : Keep h0 T1.heap [a] := KP0.trans R1 (allS (Or.inl (List.mem_of_getElem? (i := 0) rfl)) all0)
  refine ownStep (fun _ k => XS.aloadN X1.here hx rfl (hb hby own_al_init_d4) rfl rfl k) ?_
  show ownGo p.tables e below (T1.setTop (mkF m 5 #[.val (.ref a)] [(.ref a)])) _
  have Q7 : Old Z n0 T1.heap := (hOld.keep R1 (allS g all0))
  have Q8 : Sta Z T1.heap "java/util/ArrayList" "DEFAULTCAPACITY_EMPTY_ELEMENTDATA" "[Ljava/lang/Object;" (.ref ed) := S.ext Q7.2
  obtain ⟨T9, X9, e9, st9⟩ := getS2 X1 hx hZ hown (host := "") (Or.inl (hw _ (List.mem_of_getElem? (i := 33) rfl))) Via.refl rfl Q8 (g := (mkF m 5 #[.val (.ref a)] [(.ref a)])) rfl (hb hby own_al_init_d5)
  refine ownStep st9 ?_
  show ownGo p.tables e below (T9.setTop (mkF m 8 #[.val (.ref a)] [(.ref ed), (.ref a)])) _
  have Q10 : Exa Z T1.heap a "java/util/ArrayList" := (E.keep R1)
  obtain ⟨T11, h11, X11, e11, W11, st11⟩ := putF X9 hx hZ hown (host := "") (Or.inl (hw _ (List.mem_of_getElem? (i := 34) rfl))) Via.refl e9 P3 Q10 (Or.inl (hw _ (List.mem_of_getElem? (i := 35) rfl))) (hw _ (List.mem_of_getElem? (i := 13) rfl)) (ty := (.array (.object "java/lang/Object"))) (by decide) rfl rfl (g := (mkF m 8 #[.val (.ref a)] [(.ref ed), (.ref a)])) rfl rfl (hb hby own_al_init_d8)
  have N12 := Fr.snoc X11 N1 g
  have KP13 : Keep h0 h11 [a] := KP6.wr W11 (Or.inl (List.mem_of_getElem? (i := 0) rfl))
  have F14 : Fld Z h11 a "java/util/ArrayList" "elementData" "[Ljava/lang/Object;" (.ref ed) := P3.same W11
  refine ownStep st11 ?_
  show ownGo p.tables e below (T11.setTop (mkF m 11 #[.val (.ref a)] [])) _
  have Q15 : Fld Z h11 a "java/util/ArrayList" "size" "I" (.int (0 : Int32)) := (P4.other W11 (Or.inr (slot_ne (Or.inl (hw _ (List.mem_of_getElem? (i := 62) rfl))) (Or.inl (hw _ (List.mem_of_getElem? (i := 35) rfl))) (by decide) (t := .int) (t' := (.array (.object "java/lang/Object"))) (by decide) (by decide))))
  have Q16 : Fld Z h11 a "java/util/AbstractList" "modCount" "I" (.int (0 : Int32)) := (P5.other W11 (Or.inr (slot_ne (Or.inl (hw _ (List.mem_of_getElem? (i := 32) rfl))) (Or.inl (hw _ (List.mem_of_getElem? (i := 35) rfl))) (by decide) (t := .int) (t' := (.array (.object "java/lang/Object"))) (by decide) (by decide))))
  exact ownRet X11 (v := none) Bd.notSynchronized (fun _ => rfl) (fun _ hr => X11.returnOut hx Bd.returns (hb hby own_al_init_d11) hr) (by rw [e11]; exact ⟨rfl, N12, KP13, F14, Q15, Q16⟩) (by decide) (by decide)
theorem own_al_max_10_1_d0 : decode jdk_29_method_65_code 0 = .ok (.iload_n 0, 1) := by decide +kernel
theorem own_al_max_10_1_d1 : decode jdk_29_method_65_code 1 = .ok (.iload_n 1, 1) := by decide +kernel
theorem own_al_max_10_1_d2 : decode jdk_29_method_65_code 2 = .ok (.if_icmp .lt 7, 3) := by decide +kernel
theorem own_al_max_10_1_d5 : decode jdk_29_method_65_code 5 = .ok (.iload_n 0, 1) := by decide +kernel
theorem own_al_max_10_1_d6 : decode jdk_29_method_65_code 6 = .ok (.goto 4, 3) := by decide +kernel
theorem own_al_max_10_1_d10 : decode jdk_29_method_65_code 10 = .ok (.ireturn, 1) := by decide +kernel
theorem own_al_max_10_1_ef (m : MethodId) (x0 : Int32) (x1 : Int32) : entryFrame m #[(.int x0), (.int x1)] 2 = mkF m 0 #[.val (.int x0), .val (.int x1)] [] := by first | (simp [entryFrame, mkF, argsToLocals, Value.category]; done) | rfl
def own_al_max_10_1_Q (Z : State)  (h0 : Heap) (n0 : Nat) (vv_ : Option Value) (hh_ : Heap) (LL_ : List Loc) : Prop := vv_ = some (.int (10 : Int32)) ∧ Fr n0 LL_ ∧ hh_ = h0
set_option maxRecDepth 65536 in
set_option maxHeartbeats 40000000 in
theorem own_al_max_10_1 (l : Launch) (Z : State) (a0 : Array Value) (hw : ∀ d ∈ tables_1, d.before a0 Z = true) (ws : List Jvm.Cond)  (h0 : Heap) (n0 : Nat) (Z0 : n0 ≤ h0.size) :
    MetFree l (⟨"java/lang/Math", "max", "(II)I"⟩ : MethodName) (head1 (Jvm.Cond.code (⟨"java/lang/Math", "max", "(II)I"⟩ : MethodName) jdk_29_method_65_code 2 (some .int) :: ws) ({ frames := 0, cells := 0, slots := 0, locals := 0 } : Room)) (fun aa_ UU_ => aa_ = #[(.int (10 : Int32)), (.int (1 : Int32))] ∧ Z.Warmed39 UU_.vm ∧ UU_.heap = h0) (fun _ _ _ _ _ => True) (fun _ UU_ oo_ UV_ => ∃ vv_ LL_, oo_ = .returned vv_ ∧ own_al_max_10_1_Q Z  h0 n0 vv_ UV_.heap LL_ ∧ FrameEnd UU_ oo_ UV_ LL_ ({ frames := 0, cells := 0, slots := 0, locals := 0 } : Room).cells ({ frames := 0, cells := 0, slots := 0, locals := 0 } : Room).slots) := by
  refine MetFree.of_bodySF (Jvm.Free.JP.mathPlain rfl (by decide +kernel)) hisR ?_
  intro p e s m args below meth c s₁ Bd hml0 hP hK
  obtain ⟨rfl, hZ, hh⟩ := hP
  have hx := Bd.exec
  have hby := Bd.bytes
  have hml : c.maxLocals = 2 := hml0
  have hown : s.vm.findClass "java/lang/Math" = some m.cls := findClass_of_methodNamed Bd.named
  have hnm := (name_of_methodNamed Bd.named Bd.method).1
  have X0 : Stand p l e ({ frames := 0, cells := 0, slots := 0, locals := 0 } : Room) s m #[(.int (10 : Int32)), (.int (1 : Int32))] below meth c s₁ [] 0 0 := Stand.of_body Bd
  have e0 : s₁.heap = h0 := by rw [← hh, Bd.state]; rfl
  have N0 := Fr.nil n0
  have KP0 : Keep h0 h0 [] := Keep.refl _ _
  refine ownFin (Q := own_al_max_10_1_Q Z  h0 n0) ?_
  refine ownStep (fun _ k => castTop (own_al_max_10_1_ef m (10 : Int32) (1 : Int32)) k) ?_
  show ownGo p.tables e below (s₁.setTop (mkF m 0 #[.val (.int (10 : Int32)), .val (.int (1 : Int32))] [])) _
  refine ownStep (fun _ k => XS.iloadN X0.here hx rfl (hb hby own_al_max_10_1_d0) rfl  k) ?_
  refine ownStep (fun _ k => XS.iloadN X0.here hx rfl (hb hby own_al_max_10_1_d1) rfl  k) ?_
  refine ownStep (fun _ k => XS.icmpNo X0.here hx rfl (hb hby own_al_max_10_1_d2) rfl (flt (by decide : ¬ (10 : Int32) < (1 : Int32))).1 k) ?_
  refine ownStep (fun _ k => XS.iloadN X0.here hx rfl (hb hby own_al_max_10_1_d5) rfl  k) ?_
  refine ownStep (fun _ k => XS.goto X0.here hx rfl (pc0 := 6) (pc' := 10) rfl (hb hby own_al_max_10_1_d6) (by decide) (by decide) k) ?_
  show ownGo p.tables e below (s₁.setTop (mkF m 10 #[.val (.int (10 : Int32)), .val (.int (1 : Int32))] [(.int (10 : Int32))])) _
  exact ownRet X0 (v := some (.int (10 : Int32))) Bd.notSynchronized (fun h => by rw [Bd.returns] at h; cases h) (fun _ hr => retI X0 hx Bd.returns (hb hby own_al_max_10_1_d10) hr) (by rw [e0]; exact ⟨rfl, N0, rfl⟩) (by decide) (by decide)
theorem own_al_growI_d0 : decode jdk_38_method_6_code 0 = .ok (.aload_n 0, 1) := by decide +kernel
theorem own_al_growI_d1 : decode jdk_38_method_6_code 1 = .ok (.getfield 9, 3) := by decide +kernel
theorem own_al_growI_d4 : decode jdk_38_method_6_code 4 = .ok (.arraylength, 1) := by decide +kernel
theorem own_al_growI_d5 : decode jdk_38_method_6_code 5 = .ok (.istore_n 2, 1) := by decide +kernel
theorem own_al_growI_d6 : decode jdk_38_method_6_code 6 = .ok (.iload_n 2, 1) := by decide +kernel
theorem own_al_growI_d7 : decode jdk_38_method_6_code 7 = .ok (.ifCond .gt 13, 3) := by decide +kernel
theorem own_al_growI_d10 : decode jdk_38_method_6_code 10 = .ok (.aload_n 0, 1) := by decide +kernel
theorem own_al_growI_d11 : decode jdk_38_method_6_code 11 = .ok (.getfield 9, 3) := by decide +kernel
theorem own_al_growI_d14 : decode jdk_38_method_6_code 14 = .ok (.getstatic 39, 3) := by decide +kernel
theorem own_al_growI_d17 : decode jdk_38_method_6_code 17 = .ok (.if_acmp .eq 28, 3) := by decide +kernel
theorem own_al_growI_d45 : decode jdk_38_method_6_code 45 = .ok (.aload_n 0, 1) := by decide +kernel
theorem own_al_growI_d46 : decode jdk_38_method_6_code 46 = .ok (.bipush 10, 2) := by decide +kernel
theorem own_al_growI_d48 : decode jdk_38_method_6_code 48 = .ok (.iload_n 1, 1) := by decide +kernel
theorem own_al_growI_d49 : decode jdk_38_method_6_code 49 = .ok (.invokestatic 79, 3) := by decide +kernel
theorem own_al_growI_d52 : decode jdk_38_method_6_code 52 = .ok (.anewarray 7, 3) := by decide +kernel
theorem own_al_growI_d55 : decode jdk_38_method_6_code 55 = .ok (.dup_x1, 1) := by decide +kernel
theorem own_al_growI_d56 : decode jdk_38_method_6_code 56 = .ok (.putfield 9, 3) := by decide +kernel
theorem own_al_growI_d59 : decode jdk_38_method_6_code 59 = .ok (.areturn, 1) := by decide +kernel
theorem own_al_growI_pn : plainName "java/util/ArrayList" = true := by first | (simp [plainName, overriddenIn]; done) | decide +kernel
theorem own_al_growI_pd0 : parseMethodDescriptor "(II)I" = some ⟨[.int, .int], some .int⟩ := by decide +kernel
theorem own_al_growI_ef (m : MethodId) (x0 : Addr) (x1 : Int32) : entryFrame m #[(.ref x0), (.int x1)] 4 = mkF m 0 #[.val (.ref x0), .val (.int x1), .unset, .unset] [] := by first | (simp [entryFrame, mkF, argsToLocals, Value.category]; done) | rfl
def own_al_growI_Q (Z : State) (a : Addr) (ed : Addr) (kd : ClassId) (mc : Int32) (h0 : Heap) (n0 : Nat) (vv_ : Option Value) (hh_ : Heap) (LL_ : List Loc) : Prop := ∃ dd : Addr, ∃ kk : ClassId, vv_ = some (.ref dd) ∧ Fr n0 LL_ ∧ Keep h0 hh_ [a] ∧ Fld Z hh_ a "java/util/ArrayList" "elementData" "[Ljava/lang/Object;" (.ref dd) ∧ Fld Z hh_ a "java/util/ArrayList" "size" "I" (.int (0 : Int32)) ∧ Fld Z hh_ a "java/util/AbstractList" "modCount" "I" (.int mc) ∧ Arv Z hh_ dd kk (.object "java/lang/Object") (10 : Int32) [.null, .null, .null, .null, .null, .null, .null, .null, .null, .null] .null ∧ Ovr Z kk "java/lang/Object" ∧ h0.size ≤ dd
set_option maxRecDepth 65536 in
set_option maxHeartbeats 40000000 in
theorem own_al_growI (l : Launch) (Z : State) (a0 : Array Value) (hw : ∀ d ∈ tables_1, d.before a0 Z = true) (ws : List Jvm.Cond) (a : Addr) (ed : Addr) (kd : ClassId) (mc : Int32) (h0 : Heap) (n0 : Nat) (Z0 : n0 ≤ h0.size) (hOld : Old Z n0 h0) (S : Sta Z Z.heap "java/util/ArrayList" "DEFAULTCAPACITY_EMPTY_ELEMENTDATA" "[Ljava/lang/Object;" (.ref ed)) (V : Arv Z Z.heap ed kd (.object "java/lang/Object") (0 : Int32) [] .null) (E : Exa Z h0 a "java/util/ArrayList") (Fe : Fld Z h0 a "java/util/ArrayList" "elementData" "[Ljava/lang/Object;" (.ref ed)) (Fs : Fld Z h0 a "java/util/ArrayList" "size" "I" (.int (0 : Int32))) (Fm : Fld Z h0 a "java/util/AbstractList" "modCount" "I" (.int mc)) (g : n0 ≤ a) :
    MetFree l (⟨"java/util/ArrayList", "grow", "(I)[Ljava/lang/Object;"⟩ : MethodName) (head1 (Jvm.Cond.code (⟨"java/util/ArrayList", "grow", "(I)[Ljava/lang/Object;"⟩ : MethodName) jdk_38_method_6_code 4 (some (.array (.object "java/lang/Object"))) :: ws) ({ frames := 1, cells := 1, slots := 10, locals := 14 } : Room)) (fun aa_ UU_ => aa_ = #[(.ref a), (.int (1 : Int32))] ∧ Z.Warmed39 UU_.vm ∧ UU_.heap = h0) (fun _ _ _ _ _ => True) (fun _ UU_ oo_ UV_ => ∃ vv_ LL_, oo_ = .returned vv_ ∧ own_al_growI_Q Z a ed kd mc h0 n0 vv_ UV_.heap LL_ ∧ FrameEnd UU_ oo_ UV_ LL_ ({ frames := 1, cells := 1, slots := 10, locals := 14 } : Room).cells ({ frames := 1, cells := 1, slots := 10, locals := 14 } : Room).slots) := by
  refine MetFree.of_bodySF (plainFor_of_name own_al_growI_pn) hisR ?_
  intro p e s m args below meth c s₁ Bd hml0 hP hK
  obtain ⟨rfl, hZ, hh⟩ := hP
  have hx := Bd.exec
  have hby := Bd.bytes
  have hml : c.maxLocals = 4 := hml0
  have hown : s.vm.findClass "java/util/ArrayList" = some m.cls := findClass_of_methodNamed Bd.named
  have hnm := (name_of_methodNamed Bd.named Bd.method).1
  have X0 : Stand p l e ({ frames := 1, cells := 1, slots := 10, locals := 14 } : Room) s m #[(.ref a), (.int (1 : Int32))] below meth c s₁ [] 0 0 := Stand.of_body Bd
  have e0 : s₁.heap = h0 := by rw [← hh, Bd.state]; rfl
  have N0 := Fr.nil n0
  have KP0 : Keep h0 h0 [a] := Keep.refl _ _
  refine ownFin (Q := own_al_growI_Q Z a ed kd mc h0 n0) ?_
  refine ownStep (fun _ k => castTop (own_al_growI_ef m a (1 : Int32)) k) ?_
  show ownGo p.tables e below (s₁.setTop (mkF m 0 #[.val (.ref a), .val (.int (1 : Int32)), .unset, .unset] [])) _
  refine ownStep (fun _ k => XS.aloadN X0.here hx rfl (hb hby own_al_growI_d0) rfl rfl k) ?_
  show ownGo p.tables e below (s₁.setTop (mkF m 1 #[.val (.ref a), .val (.int (1 : Int32)), .unset, .unset] [(.ref a)])) _
  obtain ⟨T1, X1, e1, st1⟩ := getF X0 hx hZ hown (host := "") (Or.inl (hw _ (List.mem_of_getElem? (i := 34) rfl))) Via.refl e0 Fe (g := (mkF m 1 #[.val (.ref a), .val (.int (1 : Int32)), .unset, .unset] [(.ref a)])) rfl rfl (hb hby own_al_growI_d1)
  refine ownStep st1 ?_
  show ownGo p.tables e below (T1.setTop (mkF m 4 #[.val (.ref a), .val (.int (1 : Int32)), .unset, .unset] [(.ref ed)])) _
  have Q3 : Arv Z h0 ed kd (.object "java/lang/Object") (0 : Int32) [] .null := V.ext hOld.2
  have Vo2 := Q3
  obtain ⟨cl2, Ar2, q2, S2, N2, H2, G2⟩ := Vo2
  refine ownStep (X1.arraylength hx (by rw [e1]; exact Ar2.1) (State.isArrayOf_alike hZ.alike Ar2.2.1) (g := (mkF m 4 #[.val (.ref a), .val (.int (1 : Int32)), .unset, .unset] [(.ref ed)])) rfl rfl (hb hby own_al_growI_d4)) ?_
  rw [len_of S2 N2]
  refine ownStep (fun _ k => XS.istoreN X1.here hx rfl (hb hby own_al_growI_d5) rfl (l' := #[.val (.ref a), .val (.int (1 : Int32)), .val (.int (0 : Int32)), .unset]) rfl k) ?_
  refine ownStep (fun _ k => XS.iloadN X1.here hx rfl (hb hby own_al_growI_d6) rfl  k) ?_
  refine ownStep (fun _ k => XS.ifNo X1.here hx rfl (hb hby own_al_growI_d7) rfl ((if0 _ _).trans (flt (by decide : ¬ (0 : Int32) < (0 : Int32))).2.2.1) k) ?_
  refine ownStep (fun _ k => XS.aloadN X1.here hx rfl (hb hby own_al_growI_d10) rfl rfl k) ?_
  show ownGo p.tables e below (T1.setTop (mkF m 11 #[.val (.ref a), .val (.int (1 : Int32)), .val (.int (0 : Int32)), .unset] [(.ref a)])) _
  obtain ⟨T4, X4, e4, st4⟩ := getF X1 hx hZ hown (host := "") (Or.inl (hw _ (List.mem_of_getElem? (i := 34) rfl))) Via.refl e1 Fe (g := (mkF m 11 #[.val (.ref a), .val (.int (1 : Int32)), .val (.int (0 : Int32)), .unset] [(.ref a)])) rfl rfl (hb hby own_al_growI_d11)
  refine ownStep st4 ?_
  show ownGo p.tables e below (T4.setTop (mkF m 14 #[.val (.ref a), .val (.int (1 : Int32)), .val (.int (0 : Int32)), .unset] [(.ref ed)])) _
  have Q5 : Sta Z h0 "java/util/ArrayList" "DEFAULTCAPACITY_EMPTY_ELEMENTDATA" "[Ljava/lang/Object;" (.ref ed) := S.ext hOld.2
  obtain ⟨T6, X6, e6, st6⟩ := getS2 X4 hx hZ hown (host := "") (Or.inl (hw _ (List.mem_of_getElem? (i := 33) rfl))) Via.refl e4 Q5 (g := (mkF m 14 #[.val (.ref a), .val (.int (1 : Int32)), .val (.int (0 : Int32)), .unset] [(.ref ed)])) rfl (hb hby own_al_growI_d14)
  refine ownStep st6 ?_
  show ownGo p.tables e below (T6.setTop (mkF m 17 #[.val (.ref a), .val (.int (1 : Int32)), .val (.int (0 : Int32)), .unset] [(.ref ed), (.ref ed)])) _
  refine ownStep (fun _ k => Jvm.RoadKit.acmp (g := (mkF m 17 #[.val (.ref a), .val (.int (1 : Int32)), .val (.int (0 : Int32)), .unset] [(.ref ed), (.ref ed)])) X6 hx rfl rfl rfl (pc0 := 17) (pc' := 45) (same := true) rfl (hb hby own_al_growI_d17) rfl (decide_eq_true rfl) (by decide) (by decide) k) ?_
  refine ownStep (fun _ k => XS.aloadN X6.here hx rfl (hb hby own_al_growI_d45) rfl rfl k) ?_
  refine ownStep (fun _ k => XS.bipush X6.here hx rfl (hb hby own_al_growI_d46) k) ?_
  refine ownStep (fun _ k => XS.iloadN X6.here hx rfl (hb hby own_al_growI_d48) rfl  k) ?_
  show ownGo p.tables e below (T6.setTop (mkF m 49 #[.val (.ref a), .val (.int (1 : Int32)), .val (.int (0 : Int32)), .unset] [(.int (1 : Int32)), (.int (10 : Int32)), (.ref a)])) _
  have Zs8 : n0 ≤ h0.size := Nat.le_trans Z0 KP0.1
  obtain ⟨_, _, ⟨T7, L7, k7, n7⟩, -, X7, ⟨Lc7, hQ7, l7, y7, z7⟩, st7⟩ := Jvm.LawKit.callS X6 hx (y := (⟨"java/lang/Math", "max", "(II)I"⟩ : MethodName)) hown (mvT hZ (hw _ (List.mem_of_getElem? (i := 78) rfl))) (mvT hZ (hw _ (List.mem_of_getElem? (i := 79) rfl))) (mvT hZ (hw _ (List.mem_of_getElem? (i := 80) rfl))) (mvT hZ (hw _ (List.mem_of_getElem? (i := 81) rfl))) (by decide) (backOf (W := 1) (own_al_max_10_1 l Z a0 hw []  h0 n0 Zs8 ) hZ (hw _ (List.mem_of_getElem? (i := 81) rfl)) (hw _ (List.mem_of_getElem? (i := 80) rfl)) (by decide) (by decide)) (g := (mkF m 49 #[.val (.ref a), .val (.int (1 : Int32)), .val (.int (0 : Int32)), .unset] [(.int (1 : Int32)), (.int (10 : Int32)), (.ref a)])) rfl (by rw [hml]; rfl) (argsL := [(.int (10 : Int32)), (.int (1 : Int32))]) (rest := [(.ref a)]) (lenOf own_al_growI_pd0 rfl) rfl (by show 2 * 0 + _ ≤ _; exact Nat.le_of_eq rfl) (hb hby own_al_growI_d49) (fun _ _ => ⟨rfl, e6, (by decide : 0 + 0 ≤ _), (by decide : 0 + 0 ≤ _)⟩)
  dsimp only [Pt.U, Pt.locs, Pt.cells, Pt.slots] at X7 l7 y7 z7 st7 hQ7
  obtain rfl : k7 = 0 := y7
  obtain rfl : n7 = 0 := z7
  obtain ⟨rfl, N7q, R7⟩ := hQ7
  have N7 : Fr n0 L7 := l7 ▸ Fr.app N0 N7q
  refine ownStep (fun _ k => st7 _ k) ?_
  show ownGo p.tables e below (T7.setTop (mkF m 52 #[.val (.ref a), .val (.int (1 : Int32)), .val (.int (0 : Int32)), .unset] [(.int (10 : Int32)), (.ref a)])) _
  obtain ⟨T9, h9, k9, X9, e9, E9, A9, O9, st9⟩ := newR X7 hx hZ hown (hw _ (List.mem_of_getElem? (i := 82) rfl)) (hw _ (List.mem_of_getElem? (i := 83) rfl)) R7 (g := (mkF m 52 #[.val (.ref a), .val (.int (1 : Int32)), .val (.int (0 : Int32)), .unset] [(.int (10 : Int32)), (.ref a)])) rfl (hb hby own_al_growI_d52) rfl (by decide) (cap := 10) (by decide) (by decide) (by decide) (by decide)
  obtain ⟨b9, g9⟩ : ∃ z, z = h0.size := ⟨_, rfl⟩
  rw [← g9] at A9 st9
  have gh_b9 : h0.size ≤ b9 := Nat.le_trans KP0.1 (Nat.le_of_eq g9.symm)
  have gn_b9 : n0 ≤ b9 := Nat.le_trans Z0 gh_b9
  have KP10 : Keep h0 h9 [a] := KP0.ext E9
  have V9 : Arv Z h9 b9 k9 (.object "java/lang/Object") (10 : Int32) [.null, .null, .null, .null, .null, .null, .null, .null, .null, .null] .null := (Arv.new A9 (by decide)).pad (pad_rep [] .null 10)
  refine ownStep st9 ?_
  refine ownStep (fun _ k => XS.dupX1 X9.here hx rfl (hb hby own_al_growI_d55) rfl rfl rfl k) ?_
  show ownGo p.tables e below (T9.setTop (mkF m 56 #[.val (.ref a), .val (.int (1 : Int32)), .val (.int (0 : Int32)), .unset] [(.ref b9), (.ref a), (.ref b9)])) _
  have Q11 : Fld Z h9 a "java/util/ArrayList" "elementData" "[Ljava/lang/Object;" (.ref ed) := (Fe.ext E9)
  have Q12 : Exa Z h9 a "java/util/ArrayList" := (E.ext E9)
  obtain ⟨T13, h13, X13, e13, W13, st13⟩ := putF X9 hx hZ hown (host := "") (Or.inl (hw _ (List.mem_of_getElem? (i := 34) rfl))) Via.refl e9 Q11 Q12 (Or.inl (hw _ (List.mem_of_getElem? (i := 35) rfl))) (hw _ (List.mem_of_getElem? (i := 13) rfl)) (ty := (.array (.object "java/lang/Object"))) (by decide) rfl rfl (g := (mkF m 56 #[.val (.ref a), .val (.int (1 : Int32)), .val (.int (0 : Int32)), .unset] [(.ref b9), (.ref a), (.ref b9)])) rfl rfl (hb hby own_al_growI_d56)
  have N14 := Fr.snoc X13 N7 g
  have KP15 : Keep h0 h13 [a] := KP10.wr W13 (Or.inl (List.mem_of_getElem? (i := 0) rfl))
  have F16 : Fld Z h13 a "java/util/ArrayList" "elementData" "[Ljava/lang/Object;" (.ref b9) := Q11.same W13
  refine ownStep st13 ?_
  show ownGo p.tables e below (T13.setTop (mkF m 59 #[.val (.ref a), .val (.int (1 : Int32)), .val (.int (0 : Int32)), .unset] [(.ref b9)])) _
  have Q17 : Fld Z h13 a "java/util/ArrayList" "size" "I" (.int (0 : Int32)) := ((Fs.ext E9).other W13 (Or.inr (slot_ne (Or.inl (hw _ (List.mem_of_getElem? (i := 62) rfl))) (Or.inl (hw _ (List.mem_of_getElem? (i := 35) rfl))) (by decide) (t := .int) (t' := (.array (.object "java/lang/Object"))) (by decide) (by decide))))
  have Q18 : Fld Z h13 a "java/util/AbstractList" "modCount" "I" (.int mc) := ((Fm.ext E9).other W13 (Or.inr (slot_ne (Or.inl (hw _ (List.mem_of_getElem? (i := 32) rfl))) (Or.inl (hw _ (List.mem_of_getElem? (i := 35) rfl))) (by decide) (t := .int) (t' := (.array (.object "java/lang/Object"))) (by decide) (by decide))))
  have ne19 : a ≠ b9 := Nat.ne_of_lt (Nat.lt_of_lt_of_le (Nat.lt_of_lt_of_le E.lt (Nat.le_refl _)) (Nat.le_of_eq g9.symm))
  have Q20 : Arv Z h13 b9 k9 (.object "java/lang/Object") (10 : Int32) [.null, .null, .null, .null, .null, .null, .null, .null, .null, .null] .null := (V9.other W13 (Ne.symm ne19))
  exact ownRet X13 (v := some (.ref b9)) Bd.notSynchronized (fun h => by rw [Bd.returns] at h; cases h) (fun _ hr => retOut X13 hx (t := (.array (.object "java/lang/Object"))) Bd.returns rfl (Or.inr (Or.inr (Or.inr (Or.inr ⟨rfl, rfl, rfl⟩)))) (hb hby own_al_growI_d59) hr) (by rw [e13]; exact ⟨b9, k9, rfl, N14, KP15, F16, Q17, Q18, Q20, O9, gh_b9⟩) (by decide) (by decide)
theorem own_al_grow_d0 : decode jdk_38_method_7_code 0 = .ok (.aload_n 0, 1) := by decide +kernel
theorem own_al_grow_d1 : decode jdk_38_method_7_code 1 = .ok (.aload_n 0, 1) := by decide +kernel
theorem own_al_grow_d2 : decode jdk_38_method_7_code 2 = .ok (.getfield 48, 3) := by decide +kernel
theorem own_al_grow_d5 : decode jdk_38_method_7_code 5 = .ok (.iconst 1, 1) := by decide +kernel
theorem own_al_grow_d6 : decode jdk_38_method_7_code 6 = .ok (.iadd, 1) := by decide +kernel
theorem own_al_grow_d7 : decode jdk_38_method_7_code 7 = .ok (.invokevirtual 69, 3) := by decide +kernel
theorem own_al_grow_d10 : decode jdk_38_method_7_code 10 = .ok (.areturn, 1) := by decide +kernel
theorem own_al_grow_pn : plainName "java/util/ArrayList" = true := by first | (simp [plainName, overriddenIn]; done) | decide +kernel
theorem own_al_grow_pd0 : parseMethodDescriptor "(I)[Ljava/lang/Object;" = some ⟨[.int], some (.array (.object "java/lang/Object"))⟩ := by decide +kernel
theorem own_al_grow_ef (m : MethodId) (x0 : Addr) : entryFrame m #[(.ref x0)] 1 = mkF m 0 #[.val (.ref x0)] [] := by first | (simp [entryFrame, mkF, argsToLocals, Value.category]; done) | rfl
def own_al_grow_Q (Z : State) (a : Addr) (ed : Addr) (kd : ClassId) (mc : Int32) (h0 : Heap) (n0 : Nat) (vv_ : Option Value) (hh_ : Heap) (LL_ : List Loc) : Prop := ∃ dd : Addr, ∃ kk : ClassId, vv_ = some (.ref dd) ∧ Fr n0 LL_ ∧ Keep h0 hh_ [a] ∧ Fld Z hh_ a "java/util/ArrayList" "elementData" "[Ljava/lang/Object;" (.ref dd) ∧ Fld Z hh_ a "java/util/ArrayList" "size" "I" (.int (0 : Int32)) ∧ Fld Z hh_ a "java/util/AbstractList" "modCount" "I" (.int mc) ∧ Arv Z hh_ dd kk (.object "java/lang/Object") (10 : Int32) [.null, .null, .null, .null, .null, .null, .null, .null, .null, .null] .null ∧ Ovr Z kk "java/lang/Object" ∧ h0.size ≤ dd
set_option maxRecDepth 65536 in
set_option maxHeartbeats 40000000 in
theorem own_al_grow (l : Launch) (Z : State) (a0 : Array Value) (hw : ∀ d ∈ tables_1, d.before a0 Z = true) (ws : List Jvm.Cond) (a : Addr) (ed : Addr) (kd : ClassId) (mc : Int32) (h0 : Heap) (n0 : Nat) (Z0 : n0 ≤ h0.size) (hOld : Old Z n0 h0) (S : Sta Z Z.heap "java/util/ArrayList" "DEFAULTCAPACITY_EMPTY_ELEMENTDATA" "[Ljava/lang/Object;" (.ref ed)) (V : Arv Z Z.heap ed kd (.object "java/lang/Object") (0 : Int32) [] .null) (E : Exa Z h0 a "java/util/ArrayList") (Fe : Fld Z h0 a "java/util/ArrayList" "elementData" "[Ljava/lang/Object;" (.ref ed)) (Fs : Fld Z h0 a "java/util/ArrayList" "size" "I" (.int (0 : Int32))) (Fm : Fld Z h0 a "java/util/AbstractList" "modCount" "I" (.int mc)) (g : n0 ≤ a) :
    MetFree l (⟨"java/util/ArrayList", "grow", "()[Ljava/lang/Object;"⟩ : MethodName) (head1 (Jvm.Cond.code (⟨"java/util/ArrayList", "grow", "()[Ljava/lang/Object;"⟩ : MethodName) jdk_38_method_7_code 1 (some (.array (.object "java/lang/Object"))) :: ws) ({ frames := 2, cells := 1, slots := 10, locals := 29 } : Room)) (fun aa_ UU_ => aa_ = #[(.ref a)] ∧ Z.Warmed39 UU_.vm ∧ UU_.heap = h0) (fun _ _ _ _ _ => True) (fun _ UU_ oo_ UV_ => ∃ vv_ LL_, oo_ = .returned vv_ ∧ own_al_grow_Q Z a ed kd mc h0 n0 vv_ UV_.heap LL_ ∧ FrameEnd UU_ oo_ UV_ LL_ ({ frames := 2, cells := 1, slots := 10, locals := 29 } : Room).cells ({ frames := 2, cells := 1, slots := 10, locals := 29 } : Room).slots) := by
  refine MetFree.of_bodySF (plainFor_of_name own_al_grow_pn) hisR ?_
  intro p e s m args below meth c s₁ Bd hml0 hP hK
  obtain ⟨rfl, hZ, hh⟩ := hP
  have hx := Bd.exec
  have hby := Bd.bytes
  have hml : c.maxLocals = 1 := hml0
  have hown : s.vm.findClass "java/util/ArrayList" = some m.cls := findClass_of_methodNamed Bd.named
  have hnm := (name_of_methodNamed Bd.named Bd.method).1
  have X0 : Stand p l e ({ frames := 2, cells := 1, slots := 10, locals := 29 } : Room) s m #[(.ref a)] below meth c s₁ [] 0 0 := Stand.of_body Bd
  have e0 : s₁.heap = h0 := by rw [← hh, Bd.state]; rfl
  have N0 := Fr.nil n0
  have KP0 : Keep h0 h0 [a] := Keep.refl _ _
  refine ownFin (Q := own_al_grow_Q Z a ed kd mc h0 n0) ?_
  refine ownStep (fun _ k => castTop (own_al_grow_ef m a) k) ?_
  show ownGo p.tables e below (s₁.setTop (mkF m 0 #[.val (.ref a)] [])) _
  refine ownStep (fun _ k => XS.aloadN X0.here hx rfl (hb hby own_al_grow_d0) rfl rfl k) ?_
  refine ownStep (fun _ k => XS.aloadN X0.here hx rfl (hb hby own_al_grow_d1) rfl rfl k) ?_
  show ownGo p.tables e below (s₁.setTop (mkF m 2 #[.val (.ref a)] [(.ref a), (.ref a)])) _
  obtain ⟨T1, X1, e1, st1⟩ := getF X0 hx hZ hown (host := "") (Or.inl (hw _ (List.mem_of_getElem? (i := 61) rfl))) Via.refl e0 Fs (g := (mkF m 2 #[.val (.ref a)] [(.ref a), (.ref a)])) rfl rfl (hb hby own_al_grow_d2)
  refine ownStep st1 ?_
  refine ownStep (fun _ k => XS.iconst X1.here hx rfl (hb hby own_al_grow_d5) k) ?_
  refine ownStep (fun _ k => XS.iadd X1.here hx rfl (hb hby own_al_grow_d6) rfl k) ?_
  show ownGo p.tables e below (T1.setTop (mkF m 7 #[.val (.ref a)] [(.int (1 : Int32)), (.ref a)])) _
  have Zs3 : n0 ≤ h0.size := Nat.le_trans Z0 KP0.1
  obtain ⟨cq2, q2, q2'⟩ := E.cell
  obtain ⟨_, _, ⟨T2, L2, k2, n2⟩, -, X2, ⟨Lc2, hQ2, l2, y2, z2⟩, st2⟩ := X1.privateBack hx (y := (⟨"java/util/ArrayList", "grow", "(I)[Ljava/lang/Object;"⟩ : MethodName)) hown (mvT hZ (hw _ (List.mem_of_getElem? (i := 73) rfl))) (mvT hZ (hw _ (List.mem_of_getElem? (i := 74) rfl))) (mvT hZ (hw _ (List.mem_of_getElem? (i := 76) rfl))) (Cond.privateMethod_at (mvP hZ (hw _ (List.mem_of_getElem? (i := 75) rfl)) (args := #[]))) (mvT hZ (hw _ (List.mem_of_getElem? (i := 77) rfl))) (by decide) (backOf (W := 0) (own_al_growI l Z a0 hw [] a ed kd mc h0 n0 Zs3 hOld S V E Fe Fs Fm g) hZ (hw _ (List.mem_of_getElem? (i := 77) rfl)) (hw _ (List.mem_of_getElem? (i := 14) rfl)) (by decide) (by decide)) (g := (mkF m 7 #[.val (.ref a)] [(.int (1 : Int32)), (.ref a)])) rfl (by rw [hml]; rfl) (Steps.refl _) (a := a) (by rw [e1]; exact q2) q2' (argsL := [(.int (1 : Int32))]) (rest := []) (lenOf own_al_grow_pd0 rfl) rfl (by show 2 * 0 + _ ≤ _; exact Nat.le_of_eq rfl) (hb hby own_al_grow_d7) (fun _ _ => ⟨rfl, e1, (by decide : 0 + 1 ≤ _), (by decide : 0 + 10 ≤ _)⟩)
  dsimp only [Pt.U, Pt.locs, Pt.cells, Pt.slots] at X2 l2 y2 z2 st2 hQ2
  obtain rfl : k2 = 1 := y2
  obtain rfl : n2 = 10 := z2
  obtain ⟨dd_2, kk_2, rfl, N2q, R2, P4, P5, P6, P7, P8, P9⟩ := hQ2
  have N2 : Fr n0 L2 := l2 ▸ Fr.app N0 N2q
  have gh_dd_2 : h0.size ≤ dd_2 := Nat.le_trans KP0.1 P9
  have gn_dd_2 : n0 ≤ dd_2 := Nat.le_trans Z0 gh_dd_2
  refine ownStep (fun _ k => st2.trans k) ?_
  have KP10 : Keep h0 T2.heap [a] := KP0.trans R2 (allS (Or.inl (List.mem_of_getElem? (i := 0) rfl)) all0)
  show ownGo p.tables e below (T2.setTop (mkF m 10 #[.val (.ref a)] [(.ref dd_2)])) _
  exact ownRet X2 (v := some (.ref dd_2)) Bd.notSynchronized (fun h => by rw [Bd.returns] at h; cases h) (fun _ hr => retOut X2 hx (t := (.array (.object "java/lang/Object"))) Bd.returns rfl (Or.inr (Or.inr (Or.inr (Or.inr ⟨rfl, rfl, rfl⟩)))) (hb hby own_al_grow_d10) hr) (⟨dd_2, kk_2, rfl, N2, KP10, P4, P5, P6, P7, P8, gh_dd_2⟩) (by decide) (by decide)
theorem own_al_add3_0_d0 : decode jdk_38_method_24_code 0 = .ok (.iload_n 3, 1) := by decide +kernel
theorem own_al_add3_0_d1 : decode jdk_38_method_24_code 1 = .ok (.aload_n 2, 1) := by decide +kernel
theorem own_al_add3_0_d2 : decode jdk_38_method_24_code 2 = .ok (.arraylength, 1) := by decide +kernel
theorem own_al_add3_0_d3 : decode jdk_38_method_24_code 3 = .ok (.if_icmp .ne 8, 3) := by decide +kernel
theorem own_al_add3_0_d6 : decode jdk_38_method_24_code 6 = .ok (.aload_n 0, 1) := by decide +kernel
theorem own_al_add3_0_d7 : decode jdk_38_method_24_code 7 = .ok (.invokevirtual 129, 3) := by decide +kernel
theorem own_al_add3_0_d10 : decode jdk_38_method_24_code 10 = .ok (.astore_n 2, 1) := by decide +kernel
theorem own_al_add3_0_d11 : decode jdk_38_method_24_code 11 = .ok (.aload_n 2, 1) := by decide +kernel
theorem own_al_add3_0_d12 : decode jdk_38_method_24_code 12 = .ok (.iload_n 3, 1) := by decide +kernel
theorem own_al_add3_0_d13 : decode jdk_38_method_24_code 13 = .ok (.aload_n 1, 1) := by decide +kernel
theorem own_al_add3_0_d14 : decode jdk_38_method_24_code 14 = .ok (.aastore, 1) := by decide +kernel
theorem own_al_add3_0_d15 : decode jdk_38_method_24_code 15 = .ok (.aload_n 0, 1) := by decide +kernel
theorem own_al_add3_0_d16 : decode jdk_38_method_24_code 16 = .ok (.iload_n 3, 1) := by decide +kernel
theorem own_al_add3_0_d17 : decode jdk_38_method_24_code 17 = .ok (.iconst 1, 1) := by decide +kernel
theorem own_al_add3_0_d18 : decode jdk_38_method_24_code 18 = .ok (.iadd, 1) := by decide +kernel
theorem own_al_add3_0_d19 : decode jdk_38_method_24_code 19 = .ok (.putfield 48, 3) := by decide +kernel
theorem own_al_add3_0_d22 : decode jdk_38_method_24_code 22 = .ok (.return_, 1) := by decide +kernel
theorem own_al_add3_0_pn : plainName "java/util/ArrayList" = true := by first | (simp [plainName, overriddenIn]; done) | decide +kernel
theorem own_al_add3_0_pd0 : parseMethodDescriptor "()[Ljava/lang/Object;" = some ⟨[], some (.array (.object "java/lang/Object"))⟩ := by decide +kernel
theorem own_al_add3_0_ef (m : MethodId) (x0 : Addr) (x1 : Addr) (x2 : Addr) (x3 : Int32) : entryFrame m #[(.ref x0), (.ref x1), (.ref x2), (.int x3)] 4 = mkF m 0 #[.val (.ref x0), .val (.ref x1), .val (.ref x2), .val (.int x3)] [] := by first | (simp [entryFrame, mkF, argsToLocals, Value.category]; done) | rfl
def own_al_add3_0_Q (Z : State) (a : Addr) (ed : Addr) (kd : ClassId) (mc : Int32) (ee : Addr) (h0 : Heap) (n0 : Nat) (vv_ : Option Value) (hh_ : Heap) (LL_ : List Loc) : Prop := ∃ dd : Addr, ∃ kk : ClassId, vv_ = none ∧ Fr n0 LL_ ∧ Keep h0 hh_ [a] ∧ Fld Z hh_ a "java/util/ArrayList" "elementData" "[Ljava/lang/Object;" (.ref dd) ∧ Fld Z hh_ a "java/util/ArrayList" "size" "I" (.int (1 : Int32)) ∧ Fld Z hh_ a "java/util/AbstractList" "modCount" "I" (.int mc) ∧ Arv Z hh_ dd kk (.object "java/lang/Object") (10 : Int32) [(.ref ee), .null, .null, .null, .null, .null, .null, .null, .null, .null] .null ∧ Ovr Z kk "java/lang/Object" ∧ h0.size ≤ dd
set_option maxRecDepth 65536 in
set_option maxHeartbeats 40000000 in
theorem own_al_add3_0 (l : Launch) (Z : State) (a0 : Array Value) (hw : ∀ d ∈ tables_1, d.before a0 Z = true) (ws : List Jvm.Cond) (a : Addr) (ed : Addr) (kd : ClassId) (mc : Int32) (ee : Addr) (h0 : Heap) (n0 : Nat) (Z0 : n0 ≤ h0.size) (hOld : Old Z n0 h0) (S : Sta Z Z.heap "java/util/ArrayList" "DEFAULTCAPACITY_EMPTY_ELEMENTDATA" "[Ljava/lang/Object;" (.ref ed)) (V : Arv Z Z.heap ed kd (.object "java/lang/Object") (0 : Int32) [] .null) (E : Exa Z h0 a "java/util/ArrayList") (Fe : Fld Z h0 a "java/util/ArrayList" "elementData" "[Ljava/lang/Object;" (.ref ed)) (Fs : Fld Z h0 a "java/util/ArrayList" "size" "I" (.int (0 : Int32))) (Fm : Fld Z h0 a "java/util/AbstractList" "modCount" "I" (.int mc)) (g : n0 ≤ a) (I : Ins Z h0 ee "java/lang/Object" true) :
    MetFree l (⟨"java/util/ArrayList", "add", "(Ljava/lang/Object;[Ljava/lang/Object;I)V"⟩ : MethodName) (head1 (Jvm.Cond.code (⟨"java/util/ArrayList", "add", "(Ljava/lang/Object;[Ljava/lang/Object;I)V"⟩ : MethodName) jdk_38_method_24_code 4 none :: ws) ({ frames := 3, cells := 1, slots := 10, locals := 41 } : Room)) (fun aa_ UU_ => aa_ = #[(.ref a), (.ref ee), (.ref ed), (.int (0 : Int32))] ∧ Z.Warmed39 UU_.vm ∧ UU_.heap = h0) (fun _ _ _ _ _ => True) (fun _ UU_ oo_ UV_ => ∃ vv_ LL_, oo_ = .returned vv_ ∧ own_al_add3_0_Q Z a ed kd mc ee h0 n0 vv_ UV_.heap LL_ ∧ FrameEnd UU_ oo_ UV_ LL_ ({ frames := 3, cells := 1, slots := 10, locals := 41 } : Room).cells ({ frames := 3, cells := 1, slots := 10, locals := 41 } : Room).slots) := by
  refine MetFree.of_bodySF (plainFor_of_name own_al_add3_0_pn) hisR ?_
  intro p e s m args below meth c s₁ Bd hml0 hP hK
  obtain ⟨rfl, hZ, hh⟩ := hP
  have hx := Bd.exec
  have hby := Bd.bytes
  have hml : c.maxLocals = 4 := hml0
  have hown : s.vm.findClass "java/util/ArrayList" = some m.cls := findClass_of_methodNamed Bd.named
  have hnm := (name_of_methodNamed Bd.named Bd.method).1
  have X0 : Stand p l e ({ frames := 3, cells := 1, slots := 10, locals := 41 } : Room) s m #[(.ref a), (.ref ee), (.ref ed), (.int (0 : Int32))] below meth c s₁ [] 0 0 := Stand.of_body Bd
  have e0 : s₁.heap = h0 := by rw [← hh, Bd.state]; rfl
  have N0 := Fr.nil n0
  have KP0 : Keep h0 h0 [a] := Keep.refl _ _
  refine ownFin (Q := own_al_add3_0_Q Z a ed kd mc ee h0 n0) ?_
  refine ownStep (fun _ k => castTop (own_al_add3_0_ef m a ee ed (0 : Int32)) k) ?_
  show ownGo p.tables e below (s₁.setTop (mkF m 0 #[.val (.ref a), .val (.ref ee), .val (.ref ed), .val (.int (0 : Int32))] [])) _
  refine ownStep (fun _ k => XS.iloadN X0.here hx rfl (hb hby own_al_add3_0_d0) rfl  k) ?_
  refine ownStep (fun _ k => XS.aloadN X0.here hx rfl (hb hby own_al_add3_0_d1) rfl rfl k) ?_
  show ownGo p.tables e below (s₁.setTop (mkF m 2 #[.val (.ref a), .val (.ref ee), .val (.ref ed), .val (.int (0 : Int32))] [(.ref ed), (.int (0 : Int32))])) _
  have Q2 : Arv Z h0 ed kd (.object "java/lang/Object") (0 : Int32) [] .null := V.ext hOld.2
  have Vo1 := Q2
  obtain ⟨cl1, Ar1, q1, S1, N1, H1, G1⟩ := Vo1
  refine ownStep (X0.arraylength hx (by rw [e0]; exact Ar1.1) (State.isArrayOf_alike hZ.alike Ar1.2.1) (g := (mkF m 2 #[.val (.ref a), .val (.ref ee), .val (.ref ed), .val (.int (0 : Int32))] [(.ref ed), (.int (0 : Int32))])) rfl rfl (hb hby own_al_add3_0_d2)) ?_
  rw [len_of S1 N1]
  refine ownStep (fun _ k => XS.icmpNo X0.here hx rfl (hb hby own_al_add3_0_d3) rfl (teq (by decide : (0 : Int32) = (0 : Int32))).2 k) ?_
  refine ownStep (fun _ k => XS.aloadN X0.here hx rfl (hb hby own_al_add3_0_d6) rfl rfl k) ?_
  show ownGo p.tables e below (s₁.setTop (mkF m 7 #[.val (.ref a), .val (.ref ee), .val (.ref ed), .val (.int (0 : Int32))] [(.ref a)])) _
  have Zs4 : n0 ≤ h0.size := Nat.le_trans Z0 KP0.1
  obtain ⟨cq3, q3, q3'⟩ := E.cell
  obtain ⟨_, _, ⟨T3, L3, k3, n3⟩, -, X3, ⟨Lc3, hQ3, l3, y3, z3⟩, st3⟩ := X0.privateBack hx (y := (⟨"java/util/ArrayList", "grow", "()[Ljava/lang/Object;"⟩ : MethodName)) hown (mvT hZ (hw _ (List.mem_of_getElem? (i := 68) rfl))) (mvT hZ (hw _ (List.mem_of_getElem? (i := 69) rfl))) (mvT hZ (hw _ (List.mem_of_getElem? (i := 71) rfl))) (Cond.privateMethod_at (mvP hZ (hw _ (List.mem_of_getElem? (i := 70) rfl)) (args := #[]))) (mvT hZ (hw _ (List.mem_of_getElem? (i := 72) rfl))) (by decide) (backOf (W := 0) (own_al_grow l Z a0 hw [] a ed kd mc h0 n0 Zs4 hOld S V E Fe Fs Fm g) hZ (hw _ (List.mem_of_getElem? (i := 72) rfl)) (hw _ (List.mem_of_getElem? (i := 14) rfl)) (by decide) (by decide)) (g := (mkF m 7 #[.val (.ref a), .val (.ref ee), .val (.ref ed), .val (.int (0 : Int32))] [(.ref a)])) rfl (by rw [hml]; rfl) (Steps.refl _) (a := a) (by rw [e0]; exact q3) q3' (argsL := []) (rest := []) (lenOf own_al_add3_0_pd0 rfl) rfl (by show 2 * 0 + _ ≤ _; exact Nat.le_of_eq rfl) (hb hby own_al_add3_0_d7) (fun _ _ => ⟨rfl, e0, (by decide : 0 + 1 ≤ _), (by decide : 0 + 10 ≤ _)⟩)
  dsimp only [Pt.U, Pt.locs, Pt.cells, Pt.slots] at X3 l3 y3 z3 st3 hQ3
  obtain rfl : k3 = 1 := y3
  obtain rfl : n3 = 10 := z3
  obtain ⟨dd_3, kk_3, rfl, N3q, R3, P5, P6, P7, P8, P9, P10⟩ := hQ3
  have N3 : Fr n0 L3 := l3 ▸ Fr.app N0 N3q
  have gh_dd_3 : h0.size ≤ dd_3 := Nat.le_trans KP0.1 P10
  have gn_dd_3 : n0 ≤ dd_3 := Nat.le_trans Z0 gh_dd_3
  refine ownStep (fun _ k => st3.trans k) ?_
  have KP11 : Keep h0 T3.heap [a] := KP0.trans R3 (allS (Or.inl (List.mem_of_getElem? (i := 0) rfl)) all0)
  refine ownStep (fun _ k => XS.astoreN X3.here hx rfl (hb hby own_al_add3_0_d10) rfl rfl (l' := #[.val (.ref a), .val (.ref ee), .val (.ref dd_3), .val (.int (0 : Int32))]) rfl k) ?_
  refine ownStep (fun _ k => XS.aloadN X3.here hx rfl (hb hby own_al_add3_0_d11) rfl rfl k) ?_
  refine ownStep (fun _ k => XS.iloadN X3.here hx rfl (hb hby own_al_add3_0_d12) rfl  k) ?_
  refine ownStep (fun _ k => XS.aloadN X3.here hx rfl (hb hby own_al_add3_0_d13) rfl rfl k) ?_
  show ownGo p.tables e below (T3.setTop (mkF m 14 #[.val (.ref a), .val (.ref ee), .val (.ref dd_3), .val (.int (0 : Int32))] [(.ref ee), (.int (0 : Int32)), (.ref dd_3)])) _
  have Vo12 := P8
  obtain ⟨cl12, Ar12, q12, S12, N12, H12, G12⟩ := Vo12
  have hin12 : ¬ ((0 : Int32) < 0 ∨ cl12.slots.size ≤ ((0 : Int32)).toNatClampNeg) := inb_of S12 ⟨by decide, by decide⟩
  have Q13 : Ins Z T3.heap ee "java/lang/Object" true := (own_insKeep I R3)
  obtain ⟨T14, h14, X14, e14, W14, st14⟩ := stR X3 hx hZ rfl Ar12 (j := (0 : Int32)) hin12 rfl (Sto.ofV Ar12 q12 P9 Q13) (g := (mkF m 14 #[.val (.ref a), .val (.ref ee), .val (.ref dd_3), .val (.int (0 : Int32))] [(.ref ee), (.int (0 : Int32)), (.ref dd_3)])) rfl rfl (hb hby own_al_add3_0_d14)
  have N15 := Fr.snoc X14 N3 gn_dd_3
  have KP16 : Keep h0 h14 [a] := KP11.wr W14 (Or.inr gh_dd_3)
  have V17 : Arv Z h14 dd_3 kk_3 (.object "java/lang/Object") (10 : Int32) [(.ref ee), .null, .null, .null, .null, .null, .null, .null, .null, .null] .null := Arv.set Ar12 q12 S12 N12 H12 G12 rfl W14 0 rfl (Nat.le_of_ble_eq_true rfl)
  refine ownStep st14 ?_
  refine ownStep (fun _ k => XS.aloadN X14.here hx rfl (hb hby own_al_add3_0_d15) rfl rfl k) ?_
  refine ownStep (fun _ k => XS.iloadN X14.here hx rfl (hb hby own_al_add3_0_d16) rfl  k) ?_
  refine ownStep (fun _ k => XS.iconst X14.here hx rfl (hb hby own_al_add3_0_d17) k) ?_
  refine ownStep (fun _ k => XS.iadd X14.here hx rfl (hb hby own_al_add3_0_d18) rfl k) ?_
  show ownGo p.tables e below (T14.setTop (mkF m 19 #[.val (.ref a), .val (.ref ee), .val (.ref dd_3), .val (.int (0 : Int32))] [(.int (1 : Int32)), (.ref a)])) _
  have ne18 : a ≠ dd_3 := Nat.ne_of_lt (Nat.lt_of_lt_of_le (Nat.lt_of_lt_of_le E.lt (Nat.le_refl _)) P10)
  have Q19 : Fld Z h14 a "java/util/ArrayList" "size" "I" (.int (0 : Int32)) := (P6.other W14 (Or.inl ne18))
  have Q20 : Exa Z h14 a "java/util/ArrayList" := ((E.keep R3).wr W14)
  obtain ⟨T21, h21, X21, e21, W21, st21⟩ := putF X14 hx hZ hown (host := "") (Or.inl (hw _ (List.mem_of_getElem? (i := 61) rfl))) Via.refl e14 Q19 Q20 (Or.inl (hw _ (List.mem_of_getElem? (i := 62) rfl))) (hw _ (List.mem_of_getElem? (i := 13) rfl)) (ty := .int) (by decide) rfl rfl (g := (mkF m 19 #[.val (.ref a), .val (.ref ee), .val (.ref dd_3), .val (.int (0 : Int32))] [(.int (1 : Int32)), (.ref a)])) rfl rfl (hb hby own_al_add3_0_d19)
  have N22 := Fr.snoc X21 N15 g
  have KP23 : Keep h0 h21 [a] := KP16.wr W21 (Or.inl (List.mem_of_getElem? (i := 0) rfl))
  have F24 : Fld Z h21 a "java/util/ArrayList" "size" "I" (.int (1 : Int32)) := Q19.same W21
  refine ownStep st21 ?_
  show ownGo p.tables e below (T21.setTop (mkF m 22 #[.val (.ref a), .val (.ref ee), .val (.ref dd_3), .val (.int (0 : Int32))] [])) _
  have Q25 : Fld Z h21 a "java/util/ArrayList" "elementData" "[Ljava/lang/Object;" (.ref dd_3) := ((P5.other W14 (Or.inl ne18)).other W21 (Or.inr (slot_ne (Or.inl (hw _ (List.mem_of_getElem? (i := 35) rfl))) (Or.inl (hw _ (List.mem_of_getElem? (i := 62) rfl))) (by decide) (t := (.array (.object "java/lang/Object"))) (t' := .int) (by decide) (by decide))))
  have Q26 : Fld Z h21 a "java/util/AbstractList" "modCount" "I" (.int mc) := ((P7.other W14 (Or.inl ne18)).other W21 (Or.inr (slot_ne (Or.inl (hw _ (List.mem_of_getElem? (i := 32) rfl))) (Or.inl (hw _ (List.mem_of_getElem? (i := 62) rfl))) (by decide) (t := .int) (t' := .int) (by decide) (by decide))))
  have Q27 : Arv Z h21 dd_3 kk_3 (.object "java/lang/Object") (10 : Int32) [(.ref ee), .null, .null, .null, .null, .null, .null, .null, .null, .null] .null := (V17.other W21 (Ne.symm ne18))
  exact ownRet X21 (v := none) Bd.notSynchronized (fun _ => rfl) (fun _ hr => X21.returnOut hx Bd.returns (hb hby own_al_add3_0_d22) hr) (by rw [e21]; exact ⟨dd_3, kk_3, rfl, N22, KP23, Q25, F24, Q26, Q27, P9, gh_dd_3⟩) (by decide) (by decide)
theorem own_al_add_0_d0 : decode jdk_38_method_25_code 0 = .ok (.aload_n 0, 1) := by decide +kernel
theorem own_al_add_0_d1 : decode jdk_38_method_25_code 1 = .ok (.dup, 1) := by decide +kernel
theorem own_al_add_0_d2 : decode jdk_38_method_25_code 2 = .ok (.getfield 63, 3) := by decide +kernel
theorem own_al_add_0_d5 : decode jdk_38_method_25_code 5 = .ok (.iconst 1, 1) := by decide +kernel
theorem own_al_add_0_d6 : decode jdk_38_method_25_code 6 = .ok (.iadd, 1) := by decide +kernel
theorem own_al_add_0_d7 : decode jdk_38_method_25_code 7 = .ok (.putfield 63, 3) := by decide +kernel
theorem own_al_add_0_d10 : decode jdk_38_method_25_code 10 = .ok (.aload_n 0, 1) := by decide +kernel
theorem own_al_add_0_d11 : decode jdk_38_method_25_code 11 = .ok (.aload_n 1, 1) := by decide +kernel
theorem own_al_add_0_d12 : decode jdk_38_method_25_code 12 = .ok (.aload_n 0, 1) := by decide +kernel
theorem own_al_add_0_d13 : decode jdk_38_method_25_code 13 = .ok (.getfield 9, 3) := by decide +kernel
theorem own_al_add_0_d16 : decode jdk_38_method_25_code 16 = .ok (.aload_n 0, 1) := by decide +kernel
theorem own_al_add_0_d17 : decode jdk_38_method_25_code 17 = .ok (.getfield 48, 3) := by decide +kernel
theorem own_al_add_0_d20 : decode jdk_38_method_25_code 20 = .ok (.invokevirtual 131, 3) := by decide +kernel
theorem own_al_add_0_d23 : decode jdk_38_method_25_code 23 = .ok (.iconst 1, 1) := by decide +kernel
theorem own_al_add_0_d24 : decode jdk_38_method_25_code 24 = .ok (.ireturn, 1) := by decide +kernel
theorem own_al_add_0_pn : plainName "java/util/ArrayList" = true := by first | (simp [plainName, overriddenIn]; done) | decide +kernel
theorem own_al_add_0_pd0 : parseMethodDescriptor "(Ljava/lang/Object;[Ljava/lang/Object;I)V" = some ⟨[(.object "java/lang/Object"), (.array (.object "java/lang/Object")), .int], none⟩ := by decide +kernel
theorem own_al_add_0_ef (m : MethodId) (x0 : Addr) (x1 : Addr) : entryFrame m #[(.ref x0), (.ref x1)] 2 = mkF m 0 #[.val (.ref x0), .val (.ref x1)] [] := by first | (simp [entryFrame, mkF, argsToLocals, Value.category]; done) | rfl
def own_al_add_0_Q (Z : State) (a : Addr) (ed : Addr) (kd : ClassId) (mc : Int32) (ee : Addr) (h0 : Heap) (n0 : Nat) (vv_ : Option Value) (hh_ : Heap) (LL_ : List Loc) : Prop := ∃ dd : Addr, ∃ kk : ClassId, vv_ = some (.int (1 : Int32)) ∧ Fr n0 LL_ ∧ Keep h0 hh_ [a] ∧ Fld Z hh_ a "java/util/ArrayList" "elementData" "[Ljava/lang/Object;" (.ref dd) ∧ Fld Z hh_ a "java/util/ArrayList" "size" "I" (.int (1 : Int32)) ∧ Fld Z hh_ a "java/util/AbstractList" "modCount" "I" (.int (mc + (1 : Int32))) ∧ Arv Z hh_ dd kk (.object "java/lang/Object") (10 : Int32) [(.ref ee), .null, .null, .null, .null, .null, .null, .null, .null, .null] .null ∧ Ovr Z kk "java/lang/Object" ∧ h0.size ≤ dd
set_option maxRecDepth 65536 in
set_option maxHeartbeats 40000000 in
theorem own_al_add_0 (l : Launch) (Z : State) (a0 : Array Value) (hw : ∀ d ∈ tables_1, d.before a0 Z = true) (ws : List Jvm.Cond) (a : Addr) (ed : Addr) (kd : ClassId) (mc : Int32) (ee : Addr) (h0 : Heap) (n0 : Nat) (Z0 : n0 ≤ h0.size) (hOld : Old Z n0 h0) (S : Sta Z Z.heap "java/util/ArrayList" "DEFAULTCAPACITY_EMPTY_ELEMENTDATA" "[Ljava/lang/Object;" (.ref ed)) (V : Arv Z Z.heap ed kd (.object "java/lang/Object") (0 : Int32) [] .null) (E : Exa Z h0 a "java/util/ArrayList") (Fe : Fld Z h0 a "java/util/ArrayList" "elementData" "[Ljava/lang/Object;" (.ref ed)) (Fs : Fld Z h0 a "java/util/ArrayList" "size" "I" (.int (0 : Int32))) (Fm : Fld Z h0 a "java/util/AbstractList" "modCount" "I" (.int mc)) (g : n0 ≤ a) (I : Ins Z h0 ee "java/lang/Object" true) :
    MetFree l (⟨"java/util/ArrayList", "add", "(Ljava/lang/Object;)Z"⟩ : MethodName) (head1 (Jvm.Cond.code (⟨"java/util/ArrayList", "add", "(Ljava/lang/Object;)Z"⟩ : MethodName) jdk_38_method_25_code 2 (some .boolean) :: ws) ({ frames := 4, cells := 1, slots := 10, locals := 56 } : Room)) (fun aa_ UU_ => aa_ = #[(.ref a), (.ref ee)] ∧ Z.Warmed39 UU_.vm ∧ UU_.heap = h0) (fun _ _ _ _ _ => True) (fun _ UU_ oo_ UV_ => ∃ vv_ LL_, oo_ = .returned vv_ ∧ own_al_add_0_Q Z a ed kd mc ee h0 n0 vv_ UV_.heap LL_ ∧ FrameEnd UU_ oo_ UV_ LL_ ({ frames := 4, cells := 1, slots := 10, locals := 56 } : Room).cells ({ frames := 4, cells := 1, slots := 10, locals := 56 } : Room).slots) := by
  refine MetFree.of_bodySF (plainFor_of_name own_al_add_0_pn) hisR ?_
  intro p e s m args below meth c s₁ Bd hml0 hP hK
  obtain ⟨rfl, hZ, hh⟩ := hP
  have hx := Bd.exec
  have hby := Bd.bytes
  have hml : c.maxLocals = 2 := hml0
  have hown : s.vm.findClass "java/util/ArrayList" = some m.cls := findClass_of_methodNamed Bd.named
  have hnm := (name_of_methodNamed Bd.named Bd.method).1
  have X0 : Stand p l e ({ frames := 4, cells := 1, slots := 10, locals := 56 } : Room) s m #[(.ref a), (.ref ee)] below meth c s₁ [] 0 0 := Stand.of_body Bd
  have e0 : s₁.heap = h0 := by rw [← hh, Bd.state]; rfl
  have N0 := Fr.nil n0
  have KP0 : Keep h0 h0 [a] := Keep.refl _ _
  refine ownFin (Q := own_al_add_0_Q Z a ed kd mc ee h0 n0) ?_
  refine ownStep (fun _ k => castTop (own_al_add_0_ef m a ee) k) ?_
  show ownGo p.tables e below (s₁.setTop (mkF m 0 #[.val (.ref a), .val (.ref ee)] [])) _
  refine ownStep (fun _ k => XS.aloadN X0.here hx rfl (hb hby own_al_add_0_d0) rfl rfl k) ?_
  refine ownStep (fun _ k => XS.dup X0.here hx rfl (hb hby own_al_add_0_d1) rfl rfl k) ?_
  show ownGo p.tables e below (s₁.setTop (mkF m 2 #[.val (.ref a), .val (.ref ee)] [(.ref a), (.ref a)])) _
  obtain ⟨T1, X1, e1, st1⟩ := getF X0 hx hZ hown (host := "") (Or.inl (hw _ (List.mem_of_getElem? (i := 59) rfl))) (Via.of (hw _ (List.mem_of_getElem? (i := 60) rfl))) e0 Fm (g := (mkF m 2 #[.val (.ref a), .val (.ref ee)] [(.ref a), (.ref a)])) rfl rfl (hb hby own_al_add_0_d2)
  refine ownStep st1 ?_
  refine ownStep (fun _ k => XS.iconst X1.here hx rfl (hb hby own_al_add_0_d5) k) ?_
  refine ownStep (fun _ k => XS.iadd X1.here hx rfl (hb hby own_al_add_0_d6) rfl k) ?_
  show ownGo p.tables e below (T1.setTop (mkF m 7 #[.val (.ref a), .val (.ref ee)] [(.int (mc + (1 : Int32))), (.ref a)])) _
  obtain ⟨T2, h2, X2, e2, W2, st2⟩ := putF X1 hx hZ hown (host := "") (Or.inl (hw _ (List.mem_of_getElem? (i := 59) rfl))) (Via.of (hw _ (List.mem_of_getElem? (i := 60) rfl))) e1 Fm E (Or.inl (hw _ (List.mem_of_getElem? (i := 32) rfl))) (hw _ (List.mem_of_getElem? (i := 13) rfl)) (ty := .int) (by decide) rfl rfl (g := (mkF m 7 #[.val (.ref a), .val (.ref ee)] [(.int (mc + (1 : Int32))), (.ref a)])) rfl rfl (hb hby own_al_add_0_d7)
  have N3 := Fr.snoc X2 N0 g
  have KP4 : Keep h0 h2 [a] := KP0.wr W2 (Or.inl (List.mem_of_getElem? (i := 0) rfl))
  have F5 : Fld Z h2 a "java/util/AbstractList" "modCount" "I" (.int (mc + (1 : Int32))) := Fm.same W2
  refine ownStep st2 ?_
  refine ownStep (fun _ k => XS.aloadN X2.here hx rfl (hb hby own_al_add_0_d10) rfl rfl k) ?_
  refine ownStep (fun _ k => XS.aloadN X2.here hx rfl (hb hby own_al_add_0_d11) rfl rfl k) ?_
  refine ownStep (fun _ k => XS.aloadN X2.here hx rfl (hb hby own_al_add_0_d12) rfl rfl k) ?_
  show ownGo p.tables e below (T2.setTop (mkF m 13 #[.val (.ref a), .val (.ref ee)] [(.ref a), (.ref ee), (.ref a)])) _
  have Q6 : Fld Z h2 a "java/util/ArrayList" "elementData" "[Ljava/lang/Object;" (.ref ed) := (Fe.other W2 (Or.inr (slot_ne (Or.inl (hw _ (List.mem_of_getElem? (i := 35) rfl))) (Or.inl (hw _ (List.mem_of_getElem? (i := 32) rfl))) (by decide) (t := (.array (.object "java/lang/Object"))) (t' := .int) (by decide) (by decide))))
  obtain ⟨T7, X7, e7, st7⟩ := getF X2 hx hZ hown (host := "") (Or.inl (hw _ (List.mem_of_getElem? (i := 34) rfl))) Via.refl e2 Q6 (g := (mkF m 13 #[.val (.ref a), .val (.ref ee)] [(.ref a), (.ref ee), (.ref a)])) rfl rfl (hb hby own_al_add_0_d13)
  refine ownStep st7 ?_
  refine ownStep (fun _ k => XS.aloadN X7.here hx rfl (hb hby own_al_add_0_d16) rfl rfl k) ?_
  show ownGo p.tables e below (T7.setTop (mkF m 17 #[.val (.ref a), .val (.ref ee)] [(.ref a), (.ref ed), (.ref ee), (.ref a)])) _
  have Q8 : Fld Z h2 a "java/util/ArrayList" "size" "I" (.int (0 : Int32)) := (Fs.other W2 (Or.inr (slot_ne (Or.inl (hw _ (List.mem_of_getElem? (i := 62) rfl))) (Or.inl (hw _ (List.mem_of_getElem? (i := 32) rfl))) (by decide) (t := .int) (t' := .int) (by decide) (by decide))))
  obtain ⟨T9, X9, e9, st9⟩ := getF X7 hx hZ hown (host := "") (Or.inl (hw _ (List.mem_of_getElem? (i := 61) rfl))) Via.refl e7 Q8 (g := (mkF m 17 #[.val (.ref a), .val (.ref ee)] [(.ref a), (.ref ed), (.ref ee), (.ref a)])) rfl rfl (hb hby own_al_add_0_d17)
  refine ownStep st9 ?_
  show ownGo p.tables e below (T9.setTop (mkF m 20 #[.val (.ref a), .val (.ref ee)] [(.int (0 : Int32)), (.ref ed), (.ref ee), (.ref a)])) _
  have Q10 : Old Z n0 h2 := (hOld.wr W2 g)
  have Q11 : Exa Z h2 a "java/util/ArrayList" := (E.wr W2)
  have Q12 : Ins Z h2 ee "java/lang/Object" true := (I.wr W2)
  have Zs14 : n0 ≤ h2.size := Nat.le_trans Z0 KP4.1
  obtain ⟨cq13, q13, q13'⟩ := Q11.cell
  obtain ⟨_, _, ⟨T13, L13, k13, n13⟩, -, X13, ⟨Lc13, hQ13, l13, y13, z13⟩, st13⟩ := X9.privateBack hx (y := (⟨"java/util/ArrayList", "add", "(Ljava/lang/Object;[Ljava/lang/Object;I)V"⟩ : MethodName)) hown (mvT hZ (hw _ (List.mem_of_getElem? (i := 63) rfl))) (mvT hZ (hw _ (List.mem_of_getElem? (i := 64) rfl))) (mvT hZ (hw _ (List.mem_of_getElem? (i := 66) rfl))) (Cond.privateMethod_at (mvP hZ (hw _ (List.mem_of_getElem? (i := 65) rfl)) (args := #[]))) (mvT hZ (hw _ (List.mem_of_getElem? (i := 67) rfl))) (by decide) (backOf (W := 0) (own_al_add3_0 l Z a0 hw [] a ed kd (mc + (1 : Int32)) ee h2 n0 Zs14 Q10 S V Q11 Q6 Q8 F5 g Q12) hZ (hw _ (List.mem_of_getElem? (i := 67) rfl)) (hw _ (List.mem_of_getElem? (i := 14) rfl)) (by decide) (by decide)) (g := (mkF m 20 #[.val (.ref a), .val (.ref ee)] [(.int (0 : Int32)), (.ref ed), (.ref ee), (.ref a)])) rfl (by rw [hml]; rfl) (Steps.refl _) (a := a) (by rw [e9]; exact q13) q13' (argsL := [(.ref ee), (.ref ed), (.int (0 : Int32))]) (rest := []) (lenOf own_al_add_0_pd0 rfl) rfl (by show 2 * 0 + _ ≤ _; exact Nat.le_of_eq rfl) (hb hby own_al_add_0_d20) (fun _ _ => ⟨rfl, e9, (by decide : 0 + 1 ≤ _), (by decide : 0 + 10 ≤ _)⟩)
  dsimp only [Pt.U, Pt.locs, Pt.cells, Pt.slots] at X13 l13 y13 z13 st13 hQ13
  obtain rfl : k13 = 1 := y13
  obtain rfl : n13 = 10 := z13
  obtain ⟨dd_13, kk_13, rfl, N13q, R13, P15, P16, P17, P18, P19, P20⟩ := hQ13
  have N13 : Fr n0 L13 := l13 ▸ Fr.app N3 N13q
  have gh_dd_13 : h0.size ≤ dd_13 := Nat.le_trans KP4.1 P20
  have gn_dd_13 : n0 ≤ dd_13 := Nat.le_trans Z0 gh_dd_13
  refine ownStep (fun _ k => st13.trans k) ?_
  have KP21 : Keep h0 T13.heap [a] := KP4.trans R13 (allS (Or.inl (List.mem_of_getElem? (i := 0) rfl)) all0)
  refine ownStep (fun _ k => XS.iconst X13.here hx rfl (hb hby own_al_add_0_d23) k) ?_
  show ownGo p.tables e below (T13.setTop (mkF m 24 #[.val (.ref a), .val (.ref ee)] [(.int (1 : Int32))])) _
  exact ownRet X13 (v := some (.int (1 : Int32))) Bd.notSynchronized (fun h => by rw [Bd.returns] at h; cases h) (fun _ hr => retN X13 hx (t := .boolean) Bd.returns (by simp) (hb hby own_al_add_0_d24) hr) (⟨dd_13, kk_13, rfl, N13, KP21, P15, P16, P17, P18, P19, gh_dd_13⟩) (by decide) (by decide)
theorem own_al_add3_1_d0 : decode jdk_38_method_24_code 0 = .ok (.iload_n 3, 1) := by decide +kernel
theorem own_al_add3_1_d1 : decode jdk_38_method_24_code 1 = .ok (.aload_n 2, 1) := by decide +kernel
theorem own_al_add3_1_d2 : decode jdk_38_method_24_code 2 = .ok (.arraylength, 1) := by decide +kernel
theorem own_al_add3_1_d3 : decode jdk_38_method_24_code 3 = .ok (.if_icmp .ne 8, 3) := by decide +kernel
theorem own_al_add3_1_d11 : decode jdk_38_method_24_code 11 = .ok (.aload_n 2, 1) := by decide +kernel
theorem own_al_add3_1_d12 : decode jdk_38_method_24_code 12 = .ok (.iload_n 3, 1) := by decide +kernel
theorem own_al_add3_1_d13 : decode jdk_38_method_24_code 13 = .ok (.aload_n 1, 1) := by decide +kernel
theorem own_al_add3_1_d14 : decode jdk_38_method_24_code 14 = .ok (.aastore, 1) := by decide +kernel
theorem own_al_add3_1_d15 : decode jdk_38_method_24_code 15 = .ok (.aload_n 0, 1) := by decide +kernel
theorem own_al_add3_1_d16 : decode jdk_38_method_24_code 16 = .ok (.iload_n 3, 1) := by decide +kernel
theorem own_al_add3_1_d17 : decode jdk_38_method_24_code 17 = .ok (.iconst 1, 1) := by decide +kernel
theorem own_al_add3_1_d18 : decode jdk_38_method_24_code 18 = .ok (.iadd, 1) := by decide +kernel
theorem own_al_add3_1_d19 : decode jdk_38_method_24_code 19 = .ok (.putfield 48, 3) := by decide +kernel
theorem own_al_add3_1_d22 : decode jdk_38_method_24_code 22 = .ok (.return_, 1) := by decide +kernel
theorem own_al_add3_1_pn : plainName "java/util/ArrayList" = true := by first | (simp [plainName, overriddenIn]; done) | decide +kernel
theorem own_al_add3_1_ef (m : MethodId) (x0 : Addr) (x1 : Addr) (x2 : Addr) (x3 : Int32) : entryFrame m #[(.ref x0), (.ref x1), (.ref x2), (.int x3)] 4 = mkF m 0 #[.val (.ref x0), .val (.ref x1), .val (.ref x2), .val (.int x3)] [] := by first | (simp [entryFrame, mkF, argsToLocals, Value.category]; done) | rfl
def own_al_add3_1_Q (Z : State) (a : Addr) (dd : Addr) (kk : ClassId) (mc : Int32) (u0 : Value) (ee : Addr) (h0 : Heap) (n0 : Nat) (vv_ : Option Value) (hh_ : Heap) (LL_ : List Loc) : Prop := vv_ = none ∧ Fr n0 LL_ ∧ Keep h0 hh_ [a, dd] ∧ Fld Z hh_ a "java/util/ArrayList" "elementData" "[Ljava/lang/Object;" (.ref dd) ∧ Fld Z hh_ a "java/util/ArrayList" "size" "I" (.int (2 : Int32)) ∧ Fld Z hh_ a "java/util/AbstractList" "modCount" "I" (.int mc) ∧ Arv Z hh_ dd kk (.object "java/lang/Object") (10 : Int32) [u0, (.ref ee), .null, .null, .null, .null, .null, .null, .null, .null] .null
set_option maxRecDepth 65536 in
set_option maxHeartbeats 40000000 in
theorem own_al_add3_1 (l : Launch) (Z : State) (a0 : Array Value) (hw : ∀ d ∈ tables_1, d.before a0 Z = true) (ws : List Jvm.Cond) (a : Addr) (dd : Addr) (kk : ClassId) (mc : Int32) (u0 : Value) (ee : Addr) (h0 : Heap) (n0 : Nat) (Z0 : n0 ≤ h0.size) (E : Exa Z h0 a "java/util/ArrayList") (Fe : Fld Z h0 a "java/util/ArrayList" "elementData" "[Ljava/lang/Object;" (.ref dd)) (Fs : Fld Z h0 a "java/util/ArrayList" "size" "I" (.int (1 : Int32))) (Fm : Fld Z h0 a "java/util/AbstractList" "modCount" "I" (.int mc)) (V : Arv Z h0 dd kk (.object "java/lang/Object") (10 : Int32) [u0, .null, .null, .null, .null, .null, .null, .null, .null, .null] .null) (O : Ovr Z kk "java/lang/Object") (g : n0 ≤ a) (gd : n0 ≤ dd) (nad : a ≠ dd) (I : Ins Z h0 ee "java/lang/Object" true) :
    MetFree l (⟨"java/util/ArrayList", "add", "(Ljava/lang/Object;[Ljava/lang/Object;I)V"⟩ : MethodName) (head1 (Jvm.Cond.code (⟨"java/util/ArrayList", "add", "(Ljava/lang/Object;[Ljava/lang/Object;I)V"⟩ : MethodName) jdk_38_method_24_code 4 none :: ws) ({ frames := 0, cells := 0, slots := 0, locals := 0 } : Room)) (fun aa_ UU_ => aa_ = #[(.ref a), (.ref ee), (.ref dd), (.int (1 : Int32))] ∧ Z.Warmed39 UU_.vm ∧ UU_.heap = h0) (fun _ _ _ _ _ => True) (fun _ UU_ oo_ UV_ => ∃ vv_ LL_, oo_ = .returned vv_ ∧ own_al_add3_1_Q Z a dd kk mc u0 ee h0 n0 vv_ UV_.heap LL_ ∧ FrameEnd UU_ oo_ UV_ LL_ ({ frames := 0, cells := 0, slots := 0, locals := 0 } : Room).cells ({ frames := 0, cells := 0, slots := 0, locals := 0 } : Room).slots) := by
  refine MetFree.of_bodySF (plainFor_of_name own_al_add3_1_pn) hisR ?_
  intro p e s m args below meth c s₁ Bd hml0 hP hK
  obtain ⟨rfl, hZ, hh⟩ := hP
  have hx := Bd.exec
  have hby := Bd.bytes
  have hml : c.maxLocals = 4 := hml0
  have hown : s.vm.findClass "java/util/ArrayList" = some m.cls := findClass_of_methodNamed Bd.named
  have hnm := (name_of_methodNamed Bd.named Bd.method).1
  have X0 : Stand p l e ({ frames := 0, cells := 0, slots := 0, locals := 0 } : Room) s m #[(.ref a), (.ref ee), (.ref dd), (.int (1 : Int32))] below meth c s₁ [] 0 0 := Stand.of_body Bd
  have e0 : s₁.heap = h0 := by rw [← hh, Bd.state]; rfl
  have N0 := Fr.nil n0
  have KP0 : Keep h0 h0 [a, dd] := Keep.refl _ _
  refine ownFin (Q := own_al_add3_1_Q Z a dd kk mc u0 ee h0 n0) ?_
  refine ownStep (fun _ k => castTop (own_al_add3_1_ef m a ee dd (1 : Int32)) k) ?_
  show ownGo p.tables e below (s₁.setTop (mkF m 0 #[.val (.ref a), .val (.ref ee), .val (.ref dd), .val (.int (1 : Int32))] [])) _
  refine ownStep (fun _ k => XS.iloadN X0.here hx rfl (hb hby own_al_add3_1_d0) rfl  k) ?_
  refine ownStep (fun _ k => XS.aloadN X0.here hx rfl (hb hby own_al_add3_1_d1) rfl rfl k) ?_
  show ownGo p.tables e below (s₁.setTop (mkF m 2 #[.val (.ref a), .val (.ref ee), .val (.ref dd), .val (.int (1 : Int32))] [(.ref dd), (.int (1 : Int32))])) _
  have Vo1 := V
  obtain ⟨cl1, Ar1, q1, S1, N1, H1, G1⟩ := Vo1
  refine ownStep (X0.arraylength hx (by rw [e0]; exact Ar1.1) (State.isArrayOf_alike hZ.alike Ar1.2.1) (g := (mkF m 2 #[.val (.ref a), .val (.ref ee), .val (.ref dd), .val (.int (1 : Int32))] [(.ref dd), (.int (1 : Int32))])) rfl rfl (hb hby own_al_add3_1_d2)) ?_
  rw [len_of S1 N1]
  refine ownStep (fun _ k => XS.icmpYes X0.here hx rfl (pc0 := 3) (pc' := 11) rfl (hb hby own_al_add3_1_d3) rfl (feq (by decide : ¬ (1 : Int32) = (10 : Int32))).2 (by decide) (by decide) k) ?_
  refine ownStep (fun _ k => XS.aloadN X0.here hx rfl (hb hby own_al_add3_1_d11) rfl rfl k) ?_
  refine ownStep (fun _ k => XS.iloadN X0.here hx rfl (hb hby own_al_add3_1_d12) rfl  k) ?_
  refine ownStep (fun _ k => XS.aloadN X0.here hx rfl (hb hby own_al_add3_1_d13) rfl rfl k) ?_
  show ownGo p.tables e below (s₁.setTop (mkF m 14 #[.val (.ref a), .val (.ref ee), .val (.ref dd), .val (.int (1 : Int32))] [(.ref ee), (.int (1 : Int32)), (.ref dd)])) _
  have Vo2 := V
  obtain ⟨cl2, Ar2, q2, S2, N2, H2, G2⟩ := Vo2
  have hin2 : ¬ ((1 : Int32) < 0 ∨ cl2.slots.size ≤ ((1 : Int32)).toNatClampNeg) := inb_of S2 ⟨by decide, by decide⟩
  obtain ⟨T3, h3, X3, e3, W3, st3⟩ := stR X0 hx hZ e0 Ar2 (j := (1 : Int32)) hin2 rfl (Sto.ofV Ar2 q2 O I) (g := (mkF m 14 #[.val (.ref a), .val (.ref ee), .val (.ref dd), .val (.int (1 : Int32))] [(.ref ee), (.int (1 : Int32)), (.ref dd)])) rfl rfl (hb hby own_al_add3_1_d14)
  have N4 := Fr.snoc X3 N0 gd
  have KP5 : Keep h0 h3 [a, dd] := KP0.wr W3 (Or.inl (List.mem_of_getElem? (i := 1) rfl))
  have V6 : Arv Z h3 dd kk (.object "java/lang/Object") (10 : Int32) [u0, (.ref ee), .null, .null, .null, .null, .null, .null, .null, .null] .null := Arv.set Ar2 q2 S2 N2 H2 G2 rfl W3 1 rfl (Nat.le_of_ble_eq_true rfl)
  refine ownStep st3 ?_
  refine ownStep (fun _ k => XS.aloadN X3.here hx rfl (hb hby own_al_add3_1_d15) rfl rfl k) ?_
  refine ownStep (fun _ k => XS.iloadN X3.here hx rfl (hb hby own_al_add3_1_d16) rfl  k) ?_
  refine ownStep (fun _ k => XS.iconst X3.here hx rfl (hb hby own_al_add3_1_d17) k) ?_
  refine ownStep (fun _ k => XS.iadd X3.here hx rfl (hb hby own_al_add3_1_d18) rfl k) ?_
  show ownGo p.tables e below (T3.setTop (mkF m 19 #[.val (.ref a), .val (.ref ee), .val (.ref dd), .val (.int (1 : Int32))] [(.int (2 : Int32)), (.ref a)])) _
  have Q7 : Fld Z h3 a "java/util/ArrayList" "size" "I" (.int (1 : Int32)) := (Fs.other W3 (Or.inl nad))
  have Q8 : Exa Z h3 a "java/util/ArrayList" := (E.wr W3)
  obtain ⟨T9, h9, X9, e9, W9, st9⟩ := putF X3 hx hZ hown (host := "") (Or.inl (hw _ (List.mem_of_getElem? (i := 61) rfl))) Via.refl e3 Q7 Q8 (Or.inl (hw _ (List.mem_of_getElem? (i := 62) rfl))) (hw _ (List.mem_of_getElem? (i := 13) rfl)) (ty := .int) (by decide) rfl rfl (g := (mkF m 19 #[.val (.ref a), .val (.ref ee), .val (.ref dd), .val (.int (1 : Int32))] [(.int (2 : Int32)), (.ref a)])) rfl rfl (hb hby own_al_add3_1_d19)
  have N10 := Fr.snoc X9 N4 g
  have KP11 : Keep h0 h9 [a, dd] := KP5.wr W9 (Or.inl (List.mem_of_getElem? (i := 0) rfl))
  have F12 : Fld Z h9 a "java/util/ArrayList" "size" "I" (.int (2 : Int32)) := Q7.same W9
  refine ownStep st9 ?_
  show ownGo p.tables e below (T9.setTop (mkF m 22 #[.val (.ref a), .val (.ref ee), .val (.ref dd), .val (.int (1 : Int32))] [])) _
  have Q13 : Fld Z h9 a "java/util/ArrayList" "elementData" "[Ljava/lang/Object;" (.ref dd) := ((Fe.other W3 (Or.inl nad)).other W9 (Or.inr (slot_ne (Or.inl (hw _ (List.mem_of_getElem? (i := 35) rfl))) (Or.inl (hw _ (List.mem_of_getElem? (i := 62) rfl))) (by decide) (t := (.array (.object "java/lang/Object"))) (t' := .int) (by decide) (by decide))))
  have Q14 : Fld Z h9 a "java/util/AbstractList" "modCount" "I" (.int mc) := ((Fm.other W3 (Or.inl nad)).other W9 (Or.inr (slot_ne (Or.inl (hw _ (List.mem_of_getElem? (i := 32) rfl))) (Or.inl (hw _ (List.mem_of_getElem? (i := 62) rfl))) (by decide) (t := .int) (t' := .int) (by decide) (by decide))))
  have Q15 : Arv Z h9 dd kk (.object "java/lang/Object") (10 : Int32) [u0, (.ref ee), .null, .null, .null, .null, .null, .null, .null, .null] .null := (V6.other W9 (Ne.symm nad))
  exact ownRet X9 (v := none) Bd.notSynchronized (fun _ => rfl) (fun _ hr => X9.returnOut hx Bd.returns (hb hby own_al_add3_1_d22) hr) (by rw [e9]; exact ⟨rfl, N10, KP11, Q13, F12, Q14, Q15⟩) (by decide) (by decide)
theorem own_al_add_1_d0 : decode jdk_38_method_25_code 0 = .ok (.aload_n 0, 1) := by decide +kernel
theorem own_al_add_1_d1 : decode jdk_38_method_25_code 1 = .ok (.dup, 1) := by decide +kernel
theorem own_al_add_1_d2 : decode jdk_38_method_25_code 2 = .ok (.getfield 63, 3) := by decide +kernel
theorem own_al_add_1_d5 : decode jdk_38_method_25_code 5 = .ok (.iconst 1, 1) := by decide +kernel
theorem own_al_add_1_d6 : decode jdk_38_method_25_code 6 = .ok (.iadd, 1) := by decide +kernel
theorem own_al_add_1_d7 : decode jdk_38_method_25_code 7 = .ok (.putfield 63, 3) := by decide +kernel
theorem own_al_add_1_d10 : decode jdk_38_method_25_code 10 = .ok (.aload_n 0, 1) := by decide +kernel
theorem own_al_add_1_d11 : decode jdk_38_method_25_code 11 = .ok (.aload_n 1, 1) := by decide +kernel
theorem own_al_add_1_d12 : decode jdk_38_method_25_code 12 = .ok (.aload_n 0, 1) := by decide +kernel
theorem own_al_add_1_d13 : decode jdk_38_method_25_code 13 = .ok (.getfield 9, 3) := by decide +kernel
theorem own_al_add_1_d16 : decode jdk_38_method_25_code 16 = .ok (.aload_n 0, 1) := by decide +kernel
theorem own_al_add_1_d17 : decode jdk_38_method_25_code 17 = .ok (.getfield 48, 3) := by decide +kernel
theorem own_al_add_1_d20 : decode jdk_38_method_25_code 20 = .ok (.invokevirtual 131, 3) := by decide +kernel
theorem own_al_add_1_d23 : decode jdk_38_method_25_code 23 = .ok (.iconst 1, 1) := by decide +kernel
theorem own_al_add_1_d24 : decode jdk_38_method_25_code 24 = .ok (.ireturn, 1) := by decide +kernel
theorem own_al_add_1_pn : plainName "java/util/ArrayList" = true := by first | (simp [plainName, overriddenIn]; done) | decide +kernel
theorem own_al_add_1_pd0 : parseMethodDescriptor "(Ljava/lang/Object;[Ljava/lang/Object;I)V" = some ⟨[(.object "java/lang/Object"), (.array (.object "java/lang/Object")), .int], none⟩ := by decide +kernel
theorem own_al_add_1_ef (m : MethodId) (x0 : Addr) (x1 : Addr) : entryFrame m #[(.ref x0), (.ref x1)] 2 = mkF m 0 #[.val (.ref x0), .val (.ref x1)] [] := by first | (simp [entryFrame, mkF, argsToLocals, Value.category]; done) | rfl
def own_al_add_1_Q (Z : State) (a : Addr) (dd : Addr) (kk : ClassId) (mc : Int32) (u0 : Value) (ee : Addr) (h0 : Heap) (n0 : Nat) (vv_ : Option Value) (hh_ : Heap) (LL_ : List Loc) : Prop := vv_ = some (.int (1 : Int32)) ∧ Fr n0 LL_ ∧ Keep h0 hh_ [a, dd] ∧ Fld Z hh_ a "java/util/ArrayList" "elementData" "[Ljava/lang/Object;" (.ref dd) ∧ Fld Z hh_ a "java/util/ArrayList" "size" "I" (.int (2 : Int32)) ∧ Fld Z hh_ a "java/util/AbstractList" "modCount" "I" (.int (mc + (1 : Int32))) ∧ Arv Z hh_ dd kk (.object "java/lang/Object") (10 : Int32) [u0, (.ref ee), .null, .null, .null, .null, .null, .null, .null, .null] .null
set_option maxRecDepth 65536 in
set_option maxHeartbeats 40000000 in
theorem own_al_add_1 (l : Launch) (Z : State) (a0 : Array Value) (hw : ∀ d ∈ tables_1, d.before a0 Z = true) (ws : List Jvm.Cond) (a : Addr) (dd : Addr) (kk : ClassId) (mc : Int32) (u0 : Value) (ee : Addr) (h0 : Heap) (n0 : Nat) (Z0 : n0 ≤ h0.size) (E : Exa Z h0 a "java/util/ArrayList") (Fe : Fld Z h0 a "java/util/ArrayList" "elementData" "[Ljava/lang/Object;" (.ref dd)) (Fs : Fld Z h0 a "java/util/ArrayList" "size" "I" (.int (1 : Int32))) (Fm : Fld Z h0 a "java/util/AbstractList" "modCount" "I" (.int mc)) (V : Arv Z h0 dd kk (.object "java/lang/Object") (10 : Int32) [u0, .null, .null, .null, .null, .null, .null, .null, .null, .null] .null) (O : Ovr Z kk "java/lang/Object") (g : n0 ≤ a) (gd : n0 ≤ dd) (nad : a ≠ dd) (I : Ins Z h0 ee "java/lang/Object" true) :
    MetFree l (⟨"java/util/ArrayList", "add", "(Ljava/lang/Object;)Z"⟩ : MethodName) (head1 (Jvm.Cond.code (⟨"java/util/ArrayList", "add", "(Ljava/lang/Object;)Z"⟩ : MethodName) jdk_38_method_25_code 2 (some .boolean) :: ws) ({ frames := 1, cells := 1, slots := 10, locals := 15 } : Room)) (fun aa_ UU_ => aa_ = #[(.ref a), (.ref ee)] ∧ Z.Warmed39 UU_.vm ∧ UU_.heap = h0) (fun _ _ _ _ _ => True) (fun _ UU_ oo_ UV_ => ∃ vv_ LL_, oo_ = .returned vv_ ∧ own_al_add_1_Q Z a dd kk mc u0 ee h0 n0 vv_ UV_.heap LL_ ∧ FrameEnd UU_ oo_ UV_ LL_ ({ frames := 1, cells := 1, slots := 10, locals := 15 } : Room).cells ({ frames := 1, cells := 1, slots := 10, locals := 15 } : Room).slots) := by
  refine MetFree.of_bodySF (plainFor_of_name own_al_add_1_pn) hisR ?_
  intro p e s m args below meth c s₁ Bd hml0 hP hK
  obtain ⟨rfl, hZ, hh⟩ := hP
  have hx := Bd.exec
  have hby := Bd.bytes
  have hml : c.maxLocals = 2 := hml0
  have hown : s.vm.findClass "java/util/ArrayList" = some m.cls := findClass_of_methodNamed Bd.named
  have hnm := (name_of_methodNamed Bd.named Bd.method).1
  have X0 : Stand p l e ({ frames := 1, cells := 1, slots := 10, locals := 15 } : Room) s m #[(.ref a), (.ref ee)] below meth c s₁ [] 0 0 := Stand.of_body Bd
  have e0 : s₁.heap = h0 := by rw [← hh, Bd.state]; rfl
  have N0 := Fr.nil n0
  have KP0 : Keep h0 h0 [a, dd] := Keep.refl _ _
  refine ownFin (Q := own_al_add_1_Q Z a dd kk mc u0 ee h0 n0) ?_
  refine ownStep (fun _ k => castTop (own_al_add_1_ef m a ee) k) ?_
  show ownGo p.tables e below (s₁.setTop (mkF m 0 #[.val (.ref a), .val (.ref ee)] [])) _
  refine ownStep (fun _ k => XS.aloadN X0.here hx rfl (hb hby own_al_add_1_d0) rfl rfl k) ?_
  refine ownStep (fun _ k => XS.dup X0.here hx rfl (hb hby own_al_add_1_d1) rfl rfl k) ?_
  show ownGo p.tables e below (s₁.setTop (mkF m 2 #[.val (.ref a), .val (.ref ee)] [(.ref a), (.ref a)])) _
  obtain ⟨T1, X1, e1, st1⟩ := getF X0 hx hZ hown (host := "") (Or.inl (hw _ (List.mem_of_getElem? (i := 59) rfl))) (Via.of (hw _ (List.mem_of_getElem? (i := 60) rfl))) e0 Fm (g := (mkF m 2 #[.val (.ref a), .val (.ref ee)] [(.ref a), (.ref a)])) rfl rfl (hb hby own_al_add_1_d2)
  refine ownStep st1 ?_
  refine ownStep (fun _ k => XS.iconst X1.here hx rfl (hb hby own_al_add_1_d5) k) ?_
  refine ownStep (fun _ k => XS.iadd X1.here hx rfl (hb hby own_al_add_1_d6) rfl k) ?_
  show ownGo p.tables e below (T1.setTop (mkF m 7 #[.val (.ref a), .val (.ref ee)] [(.int (mc + (1 : Int32))), (.ref a)])) _
  obtain ⟨T2, h2, X2, e2, W2, st2⟩ := putF X1 hx hZ hown (host := "") (Or.inl (hw _ (List.mem_of_getElem? (i := 59) rfl))) (Via.of (hw _ (List.mem_of_getElem? (i := 60) rfl))) e1 Fm E (Or.inl (hw _ (List.mem_of_getElem? (i := 32) rfl))) (hw _ (List.mem_of_getElem? (i := 13) rfl)) (ty := .int) (by decide) rfl rfl (g := (mkF m 7 #[.val (.ref a), .val (.ref ee)] [(.int (mc + (1 : Int32))), (.ref a)])) rfl rfl (hb hby own_al_add_1_d7)
  have N3 := Fr.snoc X2 N0 g
  have KP4 : Keep h0 h2 [a, dd] := KP0.wr W2 (Or.inl (List.mem_of_getElem? (i := 0) rfl))
  have F5 : Fld Z h2 a "java/util/AbstractList" "modCount" "I" (.int (mc + (1 : Int32))) := Fm.same W2
  refine ownStep st2 ?_
  refine ownStep (fun _ k => XS.aloadN X2.here hx rfl (hb hby own_al_add_1_d10) rfl rfl k) ?_
  refine ownStep (fun _ k => XS.aloadN X2.here hx rfl (hb hby own_al_add_1_d11) rfl rfl k) ?_
  refine ownStep (fun _ k => XS.aloadN X2.here hx rfl (hb hby own_al_add_1_d12) rfl rfl k) ?_
  show ownGo p.tables e below (T2.setTop (mkF m 13 #[.val (.ref a), .val (.ref ee)] [(.ref a), (.ref ee), (.ref a)])) _
  have Q6 : Fld Z h2 a "java/util/ArrayList" "elementData" "[Ljava/lang/Object;" (.ref dd) := (Fe.other W2 (Or.inr (slot_ne (Or.inl (hw _ (List.mem_of_getElem? (i := 35) rfl))) (Or.inl (hw _ (List.mem_of_getElem? (i := 32) rfl))) (by decide) (t := (.array (.object "java/lang/Object"))) (t' := .int) (by decide) (by decide))))
  obtain ⟨T7, X7, e7, st7⟩ := getF X2 hx hZ hown (host := "") (Or.inl (hw _ (List.mem_of_getElem? (i := 34) rfl))) Via.refl e2 Q6 (g := (mkF m 13 #[.val (.ref a), .val (.ref ee)] [(.ref a), (.ref ee), (.ref a)])) rfl rfl (hb hby own_al_add_1_d13)
  refine ownStep st7 ?_
  refine ownStep (fun _ k => XS.aloadN X7.here hx rfl (hb hby own_al_add_1_d16) rfl rfl k) ?_
  show ownGo p.tables e below (T7.setTop (mkF m 17 #[.val (.ref a), .val (.ref ee)] [(.ref a), (.ref dd), (.ref ee), (.ref a)])) _
  have Q8 : Fld Z h2 a "java/util/ArrayList" "size" "I" (.int (1 : Int32)) := (Fs.other W2 (Or.inr (slot_ne (Or.inl (hw _ (List.mem_of_getElem? (i := 62) rfl))) (Or.inl (hw _ (List.mem_of_getElem? (i := 32) rfl))) (by decide) (t := .int) (t' := .int) (by decide) (by decide))))
  obtain ⟨T9, X9, e9, st9⟩ := getF X7 hx hZ hown (host := "") (Or.inl (hw _ (List.mem_of_getElem? (i := 61) rfl))) Via.refl e7 Q8 (g := (mkF m 17 #[.val (.ref a), .val (.ref ee)] [(.ref a), (.ref dd), (.ref ee), (.ref a)])) rfl rfl (hb hby own_al_add_1_d17)
  refine ownStep st9 ?_
  show ownGo p.tables e below (T9.setTop (mkF m 20 #[.val (.ref a), .val (.ref ee)] [(.int (1 : Int32)), (.ref dd), (.ref ee), (.ref a)])) _
  have Q10 : Exa Z h2 a "java/util/ArrayList" := (E.wr W2)
  have Q11 : Arv Z h2 dd kk (.object "java/lang/Object") (10 : Int32) [u0, .null, .null, .null, .null, .null, .null, .null, .null, .null] .null := (V.other W2 (Ne.symm nad))
  have Q12 : Ins Z h2 ee "java/lang/Object" true := (I.wr W2)
  have Zs14 : n0 ≤ h2.size := Nat.le_trans Z0 KP4.1
  obtain ⟨cq13, q13, q13'⟩ := Q10.cell
  obtain ⟨_, _, ⟨T13, L13, k13, n13⟩, -, X13, ⟨Lc13, hQ13, l13, y13, z13⟩, st13⟩ := X9.privateBack hx (y := (⟨"java/util/ArrayList", "add", "(Ljava/lang/Object;[Ljava/lang/Object;I)V"⟩ : MethodName)) hown (mvT hZ (hw _ (List.mem_of_getElem? (i := 63) rfl))) (mvT hZ (hw _ (List.mem_of_getElem? (i := 64) rfl))) (mvT hZ (hw _ (List.mem_of_getElem? (i := 66) rfl))) (Cond.privateMethod_at (mvP hZ (hw _ (List.mem_of_getElem? (i := 65) rfl)) (args := #[]))) (mvT hZ (hw _ (List.mem_of_getElem? (i := 67) rfl))) (by decide) (backOf (W := 0) (own_al_add3_1 l Z a0 hw [] a dd kk (mc + (1 : Int32)) u0 ee h2 n0 Zs14 Q10 Q6 Q8 F5 Q11 O g gd nad Q12) hZ (hw _ (List.mem_of_getElem? (i := 67) rfl)) (hw _ (List.mem_of_getElem? (i := 14) rfl)) (by decide) (by decide)) (g := (mkF m 20 #[.val (.ref a), .val (.ref ee)] [(.int (1 : Int32)), (.ref dd), (.ref ee), (.ref a)])) rfl (by rw [hml]; rfl) (Steps.refl _) (a := a) (by rw [e9]; exact q13) q13' (argsL := [(.ref ee), (.ref dd), (.int (1 : Int32))]) (rest := []) (lenOf own_al_add_1_pd0 rfl) rfl (by show 2 * 0 + _ ≤ _; exact Nat.le_of_eq rfl) (hb hby own_al_add_1_d20) (fun _ _ => ⟨rfl, e9, (by decide : 0 + 0 ≤ _), (by decide : 0 + 0 ≤ _)⟩)
  dsimp only [Pt.U, Pt.locs, Pt.cells, Pt.slots] at X13 l13 y13 z13 st13 hQ13
  obtain rfl : k13 = 0 := y13
  obtain rfl : n13 = 0 := z13
  obtain ⟨rfl, N13q, R13, P15, P16, P17, P18⟩ := hQ13
  have N13 : Fr n0 L13 := l13 ▸ Fr.app N3 N13q
  refine ownStep (fun _ k => st13.trans k) ?_
  have KP19 : Keep h0 T13.heap [a, dd] := KP4.trans R13 (allS (Or.inl (List.mem_of_getElem? (i := 0) rfl)) (allS (Or.inl (List.mem_of_getElem? (i := 1) rfl)) all0))
  refine ownStep (fun _ k => XS.iconst X13.here hx rfl (hb hby own_al_add_1_d23) k) ?_
  show ownGo p.tables e below (T13.setTop (mkF m 24 #[.val (.ref a), .val (.ref ee)] [(.int (1 : Int32))])) _
  exact ownRet X13 (v := some (.int (1 : Int32))) Bd.notSynchronized (fun h => by rw [Bd.returns] at h; cases h) (fun _ hr => retN X13 hx (t := .boolean) Bd.returns (by simp) (hb hby own_al_add_1_d24) hr) (⟨rfl, N13, KP19, P15, P16, P17, P18⟩) (by decide) (by decide)
theorem own_al_add3_2_d0 : decode jdk_38_method_24_code 0 = .ok (.iload_n 3, 1) := by decide +kernel
theorem own_al_add3_2_d1 : decode jdk_38_method_24_code 1 = .ok (.aload_n 2, 1) := by decide +kernel
theorem own_al_add3_2_d2 : decode jdk_38_method_24_code 2 = .ok (.arraylength, 1) := by decide +kernel
theorem own_al_add3_2_d3 : decode jdk_38_method_24_code 3 = .ok (.if_icmp .ne 8, 3) := by decide +kernel
theorem own_al_add3_2_d11 : decode jdk_38_method_24_code 11 = .ok (.aload_n 2, 1) := by decide +kernel
theorem own_al_add3_2_d12 : decode jdk_38_method_24_code 12 = .ok (.iload_n 3, 1) := by decide +kernel
theorem own_al_add3_2_d13 : decode jdk_38_method_24_code 13 = .ok (.aload_n 1, 1) := by decide +kernel
theorem own_al_add3_2_d14 : decode jdk_38_method_24_code 14 = .ok (.aastore, 1) := by decide +kernel
theorem own_al_add3_2_d15 : decode jdk_38_method_24_code 15 = .ok (.aload_n 0, 1) := by decide +kernel
theorem own_al_add3_2_d16 : decode jdk_38_method_24_code 16 = .ok (.iload_n 3, 1) := by decide +kernel
theorem own_al_add3_2_d17 : decode jdk_38_method_24_code 17 = .ok (.iconst 1, 1) := by decide +kernel
theorem own_al_add3_2_d18 : decode jdk_38_method_24_code 18 = .ok (.iadd, 1) := by decide +kernel
theorem own_al_add3_2_d19 : decode jdk_38_method_24_code 19 = .ok (.putfield 48, 3) := by decide +kernel
theorem own_al_add3_2_d22 : decode jdk_38_method_24_code 22 = .ok (.return_, 1) := by decide +kernel
theorem own_al_add3_2_pn : plainName "java/util/ArrayList" = true := by first | (simp [plainName, overriddenIn]; done) | decide +kernel
theorem own_al_add3_2_ef (m : MethodId) (x0 : Addr) (x1 : Addr) (x2 : Addr) (x3 : Int32) : entryFrame m #[(.ref x0), (.ref x1), (.ref x2), (.int x3)] 4 = mkF m 0 #[.val (.ref x0), .val (.ref x1), .val (.ref x2), .val (.int x3)] [] := by first | (simp [entryFrame, mkF, argsToLocals, Value.category]; done) | rfl
def own_al_add3_2_Q (Z : State) (a : Addr) (dd : Addr) (kk : ClassId) (mc : Int32) (u0 : Value) (u1 : Value) (ee : Addr) (h0 : Heap) (n0 : Nat) (vv_ : Option Value) (hh_ : Heap) (LL_ : List Loc) : Prop := vv_ = none ∧ Fr n0 LL_ ∧ Keep h0 hh_ [a, dd] ∧ Fld Z hh_ a "java/util/ArrayList" "elementData" "[Ljava/lang/Object;" (.ref dd) ∧ Fld Z hh_ a "java/util/ArrayList" "size" "I" (.int (3 : Int32)) ∧ Fld Z hh_ a "java/util/AbstractList" "modCount" "I" (.int mc) ∧ Arv Z hh_ dd kk (.object "java/lang/Object") (10 : Int32) [u0, u1, (.ref ee), .null, .null, .null, .null, .null, .null, .null] .null
set_option maxRecDepth 65536 in
set_option maxHeartbeats 40000000 in
theorem own_al_add3_2 (l : Launch) (Z : State) (a0 : Array Value) (hw : ∀ d ∈ tables_1, d.before a0 Z = true) (ws : List Jvm.Cond) (a : Addr) (dd : Addr) (kk : ClassId) (mc : Int32) (u0 : Value) (u1 : Value) (ee : Addr) (h0 : Heap) (n0 : Nat) (Z0 : n0 ≤ h0.size) (E : Exa Z h0 a "java/util/ArrayList") (Fe : Fld Z h0 a "java/util/ArrayList" "elementData" "[Ljava/lang/Object;" (.ref dd)) (Fs : Fld Z h0 a "java/util/ArrayList" "size" "I" (.int (2 : Int32))) (Fm : Fld Z h0 a "java/util/AbstractList" "modCount" "I" (.int mc)) (V : Arv Z h0 dd kk (.object "java/lang/Object") (10 : Int32) [u0, u1, .null, .null, .null, .null, .null, .null, .null, .null] .null) (O : Ovr Z kk "java/lang/Object") (g : n0 ≤ a) (gd : n0 ≤ dd) (nad : a ≠ dd) (I : Ins Z h0 ee "java/lang/Object" true) :
    MetFree l (⟨"java/util/ArrayList", "add", "(Ljava/lang/Object;[Ljava/lang/Object;I)V"⟩ : MethodName) (head1 (Jvm.Cond.code (⟨"java/util/ArrayList", "add", "(Ljava/lang/Object;[Ljava/lang/Object;I)V"⟩ : MethodName) jdk_38_method_24_code 4 none :: ws) ({ frames := 0, cells := 0, slots := 0, locals := 0 } : Room)) (fun aa_ UU_ => aa_ = #[(.ref a), (.ref ee), (.ref dd), (.int (2 : Int32))] ∧ Z.Warmed39 UU_.vm ∧ UU_.heap = h0) (fun _ _ _ _ _ => True) (fun _ UU_ oo_ UV_ => ∃ vv_ LL_, oo_ = .returned vv_ ∧ own_al_add3_2_Q Z a dd kk mc u0 u1 ee h0 n0 vv_ UV_.heap LL_ ∧ FrameEnd UU_ oo_ UV_ LL_ ({ frames := 0, cells := 0, slots := 0, locals := 0 } : Room).cells ({ frames := 0, cells := 0, slots := 0, locals := 0 } : Room).slots) := by
  refine MetFree.of_bodySF (plainFor_of_name own_al_add3_2_pn) hisR ?_
  intro p e s m args below meth c s₁ Bd hml0 hP hK
  obtain ⟨rfl, hZ, hh⟩ := hP
  have hx := Bd.exec
  have hby := Bd.bytes
  have hml : c.maxLocals = 4 := hml0
  have hown : s.vm.findClass "java/util/ArrayList" = some m.cls := findClass_of_methodNamed Bd.named
  have hnm := (name_of_methodNamed Bd.named Bd.method).1
  have X0 : Stand p l e ({ frames := 0, cells := 0, slots := 0, locals := 0 } : Room) s m #[(.ref a), (.ref ee), (.ref dd), (.int (2 : Int32))] below meth c s₁ [] 0 0 := Stand.of_body Bd
  have e0 : s₁.heap = h0 := by rw [← hh, Bd.state]; rfl
  have N0 := Fr.nil n0
  have KP0 : Keep h0 h0 [a, dd] := Keep.refl _ _
  refine ownFin (Q := own_al_add3_2_Q Z a dd kk mc u0 u1 ee h0 n0) ?_
  refine ownStep (fun _ k => castTop (own_al_add3_2_ef m a ee dd (2 : Int32)) k) ?_
  show ownGo p.tables e below (s₁.setTop (mkF m 0 #[.val (.ref a), .val (.ref ee), .val (.ref dd), .val (.int (2 : Int32))] [])) _
  refine ownStep (fun _ k => XS.iloadN X0.here hx rfl (hb hby own_al_add3_2_d0) rfl  k) ?_
  refine ownStep (fun _ k => XS.aloadN X0.here hx rfl (hb hby own_al_add3_2_d1) rfl rfl k) ?_
  show ownGo p.tables e below (s₁.setTop (mkF m 2 #[.val (.ref a), .val (.ref ee), .val (.ref dd), .val (.int (2 : Int32))] [(.ref dd), (.int (2 : Int32))])) _
  have Vo1 := V
  obtain ⟨cl1, Ar1, q1, S1, N1, H1, G1⟩ := Vo1
  refine ownStep (X0.arraylength hx (by rw [e0]; exact Ar1.1) (State.isArrayOf_alike hZ.alike Ar1.2.1) (g := (mkF m 2 #[.val (.ref a), .val (.ref ee), .val (.ref dd), .val (.int (2 : Int32))] [(.ref dd), (.int (2 : Int32))])) rfl rfl (hb hby own_al_add3_2_d2)) ?_
  rw [len_of S1 N1]
  refine ownStep (fun _ k => XS.icmpYes X0.here hx rfl (pc0 := 3) (pc' := 11) rfl (hb hby own_al_add3_2_d3) rfl (feq (by decide : ¬ (2 : Int32) = (10 : Int32))).2 (by decide) (by decide) k) ?_
  refine ownStep (fun _ k => XS.aloadN X0.here hx rfl (hb hby own_al_add3_2_d11) rfl rfl k) ?_
  refine ownStep (fun _ k => XS.iloadN X0.here hx rfl (hb hby own_al_add3_2_d12) rfl  k) ?_
  refine ownStep (fun _ k => XS.aloadN X0.here hx rfl (hb hby own_al_add3_2_d13) rfl rfl k) ?_
  show ownGo p.tables e below (s₁.setTop (mkF m 14 #[.val (.ref a), .val (.ref ee), .val (.ref dd), .val (.int (2 : Int32))] [(.ref ee), (.int (2 : Int32)), (.ref dd)])) _
  have Vo2 := V
  obtain ⟨cl2, Ar2, q2, S2, N2, H2, G2⟩ := Vo2
  have hin2 : ¬ ((2 : Int32) < 0 ∨ cl2.slots.size ≤ ((2 : Int32)).toNatClampNeg) := inb_of S2 ⟨by decide, by decide⟩
  obtain ⟨T3, h3, X3, e3, W3, st3⟩ := stR X0 hx hZ e0 Ar2 (j := (2 : Int32)) hin2 rfl (Sto.ofV Ar2 q2 O I) (g := (mkF m 14 #[.val (.ref a), .val (.ref ee), .val (.ref dd), .val (.int (2 : Int32))] [(.ref ee), (.int (2 : Int32)), (.ref dd)])) rfl rfl (hb hby own_al_add3_2_d14)
  have N4 := Fr.snoc X3 N0 gd
  have KP5 : Keep h0 h3 [a, dd] := KP0.wr W3 (Or.inl (List.mem_of_getElem? (i := 1) rfl))
  have V6 : Arv Z h3 dd kk (.object "java/lang/Object") (10 : Int32) [u0, u1, (.ref ee), .null, .null, .null, .null, .null, .null, .null] .null := Arv.set Ar2 q2 S2 N2 H2 G2 rfl W3 2 rfl (Nat.le_of_ble_eq_true rfl)
  refine ownStep st3 ?_
  refine ownStep (fun _ k => XS.aloadN X3.here hx rfl (hb hby own_al_add3_2_d15) rfl rfl k) ?_
  refine ownStep (fun _ k => XS.iloadN X3.here hx rfl (hb hby own_al_add3_2_d16) rfl  k) ?_
  refine ownStep (fun _ k => XS.iconst X3.here hx rfl (hb hby own_al_add3_2_d17) k) ?_
  refine ownStep (fun _ k => XS.iadd X3.here hx rfl (hb hby own_al_add3_2_d18) rfl k) ?_
  show ownGo p.tables e below (T3.setTop (mkF m 19 #[.val (.ref a), .val (.ref ee), .val (.ref dd), .val (.int (2 : Int32))] [(.int (3 : Int32)), (.ref a)])) _
  have Q7 : Fld Z h3 a "java/util/ArrayList" "size" "I" (.int (2 : Int32)) := (Fs.other W3 (Or.inl nad))
  have Q8 : Exa Z h3 a "java/util/ArrayList" := (E.wr W3)
  obtain ⟨T9, h9, X9, e9, W9, st9⟩ := putF X3 hx hZ hown (host := "") (Or.inl (hw _ (List.mem_of_getElem? (i := 61) rfl))) Via.refl e3 Q7 Q8 (Or.inl (hw _ (List.mem_of_getElem? (i := 62) rfl))) (hw _ (List.mem_of_getElem? (i := 13) rfl)) (ty := .int) (by decide) rfl rfl (g := (mkF m 19 #[.val (.ref a), .val (.ref ee), .val (.ref dd), .val (.int (2 : Int32))] [(.int (3 : Int32)), (.ref a)])) rfl rfl (hb hby own_al_add3_2_d19)
  have N10 := Fr.snoc X9 N4 g
  have KP11 : Keep h0 h9 [a, dd] := KP5.wr W9 (Or.inl (List.mem_of_getElem? (i := 0) rfl))
  have F12 : Fld Z h9 a "java/util/ArrayList" "size" "I" (.int (3 : Int32)) := Q7.same W9
  refine ownStep st9 ?_
  show ownGo p.tables e below (T9.setTop (mkF m 22 #[.val (.ref a), .val (.ref ee), .val (.ref dd), .val (.int (2 : Int32))] [])) _
  have Q13 : Fld Z h9 a "java/util/ArrayList" "elementData" "[Ljava/lang/Object;" (.ref dd) := ((Fe.other W3 (Or.inl nad)).other W9 (Or.inr (slot_ne (Or.inl (hw _ (List.mem_of_getElem? (i := 35) rfl))) (Or.inl (hw _ (List.mem_of_getElem? (i := 62) rfl))) (by decide) (t := (.array (.object "java/lang/Object"))) (t' := .int) (by decide) (by decide))))
  have Q14 : Fld Z h9 a "java/util/AbstractList" "modCount" "I" (.int mc) := ((Fm.other W3 (Or.inl nad)).other W9 (Or.inr (slot_ne (Or.inl (hw _ (List.mem_of_getElem? (i := 32) rfl))) (Or.inl (hw _ (List.mem_of_getElem? (i := 62) rfl))) (by decide) (t := .int) (t' := .int) (by decide) (by decide))))
  have Q15 : Arv Z h9 dd kk (.object "java/lang/Object") (10 : Int32) [u0, u1, (.ref ee), .null, .null, .null, .null, .null, .null, .null] .null := (V6.other W9 (Ne.symm nad))
  exact ownRet X9 (v := none) Bd.notSynchronized (fun _ => rfl) (fun _ hr => X9.returnOut hx Bd.returns (hb hby own_al_add3_2_d22) hr) (by rw [e9]; exact ⟨rfl, N10, KP11, Q13, F12, Q14, Q15⟩) (by decide) (by decide)
theorem own_al_add_2_d0 : decode jdk_38_method_25_code 0 = .ok (.aload_n 0, 1) := by decide +kernel
theorem own_al_add_2_d1 : decode jdk_38_method_25_code 1 = .ok (.dup, 1) := by decide +kernel
theorem own_al_add_2_d2 : decode jdk_38_method_25_code 2 = .ok (.getfield 63, 3) := by decide +kernel
theorem own_al_add_2_d5 : decode jdk_38_method_25_code 5 = .ok (.iconst 1, 1) := by decide +kernel
theorem own_al_add_2_d6 : decode jdk_38_method_25_code 6 = .ok (.iadd, 1) := by decide +kernel
theorem own_al_add_2_d7 : decode jdk_38_method_25_code 7 = .ok (.putfield 63, 3) := by decide +kernel
theorem own_al_add_2_d10 : decode jdk_38_method_25_code 10 = .ok (.aload_n 0, 1) := by decide +kernel
theorem own_al_add_2_d11 : decode jdk_38_method_25_code 11 = .ok (.aload_n 1, 1) := by decide +kernel
theorem own_al_add_2_d12 : decode jdk_38_method_25_code 12 = .ok (.aload_n 0, 1) := by decide +kernel
theorem own_al_add_2_d13 : decode jdk_38_method_25_code 13 = .ok (.getfield 9, 3) := by decide +kernel
theorem own_al_add_2_d16 : decode jdk_38_method_25_code 16 = .ok (.aload_n 0, 1) := by decide +kernel
theorem own_al_add_2_d17 : decode jdk_38_method_25_code 17 = .ok (.getfield 48, 3) := by decide +kernel
theorem own_al_add_2_d20 : decode jdk_38_method_25_code 20 = .ok (.invokevirtual 131, 3) := by decide +kernel
theorem own_al_add_2_d23 : decode jdk_38_method_25_code 23 = .ok (.iconst 1, 1) := by decide +kernel
theorem own_al_add_2_d24 : decode jdk_38_method_25_code 24 = .ok (.ireturn, 1) := by decide +kernel
theorem own_al_add_2_pn : plainName "java/util/ArrayList" = true := by first | (simp [plainName, overriddenIn]; done) | decide +kernel
theorem own_al_add_2_pd0 : parseMethodDescriptor "(Ljava/lang/Object;[Ljava/lang/Object;I)V" = some ⟨[(.object "java/lang/Object"), (.array (.object "java/lang/Object")), .int], none⟩ := by decide +kernel
theorem own_al_add_2_ef (m : MethodId) (x0 : Addr) (x1 : Addr) : entryFrame m #[(.ref x0), (.ref x1)] 2 = mkF m 0 #[.val (.ref x0), .val (.ref x1)] [] := by first | (simp [entryFrame, mkF, argsToLocals, Value.category]; done) | rfl
def own_al_add_2_Q (Z : State) (a : Addr) (dd : Addr) (kk : ClassId) (mc : Int32) (u0 : Value) (u1 : Value) (ee : Addr) (h0 : Heap) (n0 : Nat) (vv_ : Option Value) (hh_ : Heap) (LL_ : List Loc) : Prop := vv_ = some (.int (1 : Int32)) ∧ Fr n0 LL_ ∧ Keep h0 hh_ [a, dd] ∧ Fld Z hh_ a "java/util/ArrayList" "elementData" "[Ljava/lang/Object;" (.ref dd) ∧ Fld Z hh_ a "java/util/ArrayList" "size" "I" (.int (3 : Int32)) ∧ Fld Z hh_ a "java/util/AbstractList" "modCount" "I" (.int (mc + (1 : Int32))) ∧ Arv Z hh_ dd kk (.object "java/lang/Object") (10 : Int32) [u0, u1, (.ref ee), .null, .null, .null, .null, .null, .null, .null] .null
set_option maxRecDepth 65536 in
set_option maxHeartbeats 40000000 in
theorem own_al_add_2 (l : Launch) (Z : State) (a0 : Array Value) (hw : ∀ d ∈ tables_1, d.before a0 Z = true) (ws : List Jvm.Cond) (a : Addr) (dd : Addr) (kk : ClassId) (mc : Int32) (u0 : Value) (u1 : Value) (ee : Addr) (h0 : Heap) (n0 : Nat) (Z0 : n0 ≤ h0.size) (E : Exa Z h0 a "java/util/ArrayList") (Fe : Fld Z h0 a "java/util/ArrayList" "elementData" "[Ljava/lang/Object;" (.ref dd)) (Fs : Fld Z h0 a "java/util/ArrayList" "size" "I" (.int (2 : Int32))) (Fm : Fld Z h0 a "java/util/AbstractList" "modCount" "I" (.int mc)) (V : Arv Z h0 dd kk (.object "java/lang/Object") (10 : Int32) [u0, u1, .null, .null, .null, .null, .null, .null, .null, .null] .null) (O : Ovr Z kk "java/lang/Object") (g : n0 ≤ a) (gd : n0 ≤ dd) (nad : a ≠ dd) (I : Ins Z h0 ee "java/lang/Object" true) :
    MetFree l (⟨"java/util/ArrayList", "add", "(Ljava/lang/Object;)Z"⟩ : MethodName) (head1 (Jvm.Cond.code (⟨"java/util/ArrayList", "add", "(Ljava/lang/Object;)Z"⟩ : MethodName) jdk_38_method_25_code 2 (some .boolean) :: ws) ({ frames := 1, cells := 1, slots := 10, locals := 15 } : Room)) (fun aa_ UU_ => aa_ = #[(.ref a), (.ref ee)] ∧ Z.Warmed39 UU_.vm ∧ UU_.heap = h0) (fun _ _ _ _ _ => True) (fun _ UU_ oo_ UV_ => ∃ vv_ LL_, oo_ = .returned vv_ ∧ own_al_add_2_Q Z a dd kk mc u0 u1 ee h0 n0 vv_ UV_.heap LL_ ∧ FrameEnd UU_ oo_ UV_ LL_ ({ frames := 1, cells := 1, slots := 10, locals := 15 } : Room).cells ({ frames := 1, cells := 1, slots := 10, locals := 15 } : Room).slots) := by
  refine MetFree.of_bodySF (plainFor_of_name own_al_add_2_pn) hisR ?_
  intro p e s m args below meth c s₁ Bd hml0 hP hK
  obtain ⟨rfl, hZ, hh⟩ := hP
  have hx := Bd.exec
  have hby := Bd.bytes
  have hml : c.maxLocals = 2 := hml0
  have hown : s.vm.findClass "java/util/ArrayList" = some m.cls := findClass_of_methodNamed Bd.named
  have hnm := (name_of_methodNamed Bd.named Bd.method).1
  have X0 : Stand p l e ({ frames := 1, cells := 1, slots := 10, locals := 15 } : Room) s m #[(.ref a), (.ref ee)] below meth c s₁ [] 0 0 := Stand.of_body Bd
  have e0 : s₁.heap = h0 := by rw [← hh, Bd.state]; rfl
  have N0 := Fr.nil n0
  have KP0 : Keep h0 h0 [a, dd] := Keep.refl _ _
  refine ownFin (Q := own_al_add_2_Q Z a dd kk mc u0 u1 ee h0 n0) ?_
  refine ownStep (fun _ k => castTop (own_al_add_2_ef m a ee) k) ?_
  show ownGo p.tables e below (s₁.setTop (mkF m 0 #[.val (.ref a), .val (.ref ee)] [])) _
  refine ownStep (fun _ k => XS.aloadN X0.here hx rfl (hb hby own_al_add_2_d0) rfl rfl k) ?_
  refine ownStep (fun _ k => XS.dup X0.here hx rfl (hb hby own_al_add_2_d1) rfl rfl k) ?_
  show ownGo p.tables e below (s₁.setTop (mkF m 2 #[.val (.ref a), .val (.ref ee)] [(.ref a), (.ref a)])) _
  obtain ⟨T1, X1, e1, st1⟩ := getF X0 hx hZ hown (host := "") (Or.inl (hw _ (List.mem_of_getElem? (i := 59) rfl))) (Via.of (hw _ (List.mem_of_getElem? (i := 60) rfl))) e0 Fm (g := (mkF m 2 #[.val (.ref a), .val (.ref ee)] [(.ref a), (.ref a)])) rfl rfl (hb hby own_al_add_2_d2)
  refine ownStep st1 ?_
  refine ownStep (fun _ k => XS.iconst X1.here hx rfl (hb hby own_al_add_2_d5) k) ?_
  refine ownStep (fun _ k => XS.iadd X1.here hx rfl (hb hby own_al_add_2_d6) rfl k) ?_
  show ownGo p.tables e below (T1.setTop (mkF m 7 #[.val (.ref a), .val (.ref ee)] [(.int (mc + (1 : Int32))), (.ref a)])) _
  obtain ⟨T2, h2, X2, e2, W2, st2⟩ := putF X1 hx hZ hown (host := "") (Or.inl (hw _ (List.mem_of_getElem? (i := 59) rfl))) (Via.of (hw _ (List.mem_of_getElem? (i := 60) rfl))) e1 Fm E (Or.inl (hw _ (List.mem_of_getElem? (i := 32) rfl))) (hw _ (List.mem_of_getElem? (i := 13) rfl)) (ty := .int) (by decide) rfl rfl (g := (mkF m 7 #[.val (.ref a), .val (.ref ee)] [(.int (mc + (1 : Int32))), (.ref a)])) rfl rfl (hb hby own_al_add_2_d7)
  have N3 := Fr.snoc X2 N0 g
  have KP4 : Keep h0 h2 [a, dd] := KP0.wr W2 (Or.inl (List.mem_of_getElem? (i := 0) rfl))
  have F5 : Fld Z h2 a "java/util/AbstractList" "modCount" "I" (.int (mc + (1 : Int32))) := Fm.same W2
  refine ownStep st2 ?_
  refine ownStep (fun _ k => XS.aloadN X2.here hx rfl (hb hby own_al_add_2_d10) rfl rfl k) ?_
  refine ownStep (fun _ k => XS.aloadN X2.here hx rfl (hb hby own_al_add_2_d11) rfl rfl k) ?_
  refine ownStep (fun _ k => XS.aloadN X2.here hx rfl (hb hby own_al_add_2_d12) rfl rfl k) ?_
  show ownGo p.tables e below (T2.setTop (mkF m 13 #[.val (.ref a), .val (.ref ee)] [(.ref a), (.ref ee), (.ref a)])) _
  have Q6 : Fld Z h2 a "java/util/ArrayList" "elementData" "[Ljava/lang/Object;" (.ref dd) := (Fe.other W2 (Or.inr (slot_ne (Or.inl (hw _ (List.mem_of_getElem? (i := 35) rfl))) (Or.inl (hw _ (List.mem_of_getElem? (i := 32) rfl))) (by decide) (t := (.array (.object "java/lang/Object"))) (t' := .int) (by decide) (by decide))))
  obtain ⟨T7, X7, e7, st7⟩ := getF X2 hx hZ hown (host := "") (Or.inl (hw _ (List.mem_of_getElem? (i := 34) rfl))) Via.refl e2 Q6 (g := (mkF m 13 #[.val (.ref a), .val (.ref ee)] [(.ref a), (.ref ee), (.ref a)])) rfl rfl (hb hby own_al_add_2_d13)
  refine ownStep st7 ?_
  refine ownStep (fun _ k => XS.aloadN X7.here hx rfl (hb hby own_al_add_2_d16) rfl rfl k) ?_
  show ownGo p.tables e below (T7.setTop (mkF m 17 #[.val (.ref a), .val (.ref ee)] [(.ref a), (.ref dd), (.ref ee), (.ref a)])) _
  have Q8 : Fld Z h2 a "java/util/ArrayList" "size" "I" (.int (2 : Int32)) := (Fs.other W2 (Or.inr (slot_ne (Or.inl (hw _ (List.mem_of_getElem? (i := 62) rfl))) (Or.inl (hw _ (List.mem_of_getElem? (i := 32) rfl))) (by decide) (t := .int) (t' := .int) (by decide) (by decide))))
  obtain ⟨T9, X9, e9, st9⟩ := getF X7 hx hZ hown (host := "") (Or.inl (hw _ (List.mem_of_getElem? (i := 61) rfl))) Via.refl e7 Q8 (g := (mkF m 17 #[.val (.ref a), .val (.ref ee)] [(.ref a), (.ref dd), (.ref ee), (.ref a)])) rfl rfl (hb hby own_al_add_2_d17)
  refine ownStep st9 ?_
  show ownGo p.tables e below (T9.setTop (mkF m 20 #[.val (.ref a), .val (.ref ee)] [(.int (2 : Int32)), (.ref dd), (.ref ee), (.ref a)])) _
  have Q10 : Exa Z h2 a "java/util/ArrayList" := (E.wr W2)
  have Q11 : Arv Z h2 dd kk (.object "java/lang/Object") (10 : Int32) [u0, u1, .null, .null, .null, .null, .null, .null, .null, .null] .null := (V.other W2 (Ne.symm nad))
  have Q12 : Ins Z h2 ee "java/lang/Object" true := (I.wr W2)
  have Zs14 : n0 ≤ h2.size := Nat.le_trans Z0 KP4.1
  obtain ⟨cq13, q13, q13'⟩ := Q10.cell
  obtain ⟨_, _, ⟨T13, L13, k13, n13⟩, -, X13, ⟨Lc13, hQ13, l13, y13, z13⟩, st13⟩ := X9.privateBack hx (y := (⟨"java/util/ArrayList", "add", "(Ljava/lang/Object;[Ljava/lang/Object;I)V"⟩ : MethodName)) hown (mvT hZ (hw _ (List.mem_of_getElem? (i := 63) rfl))) (mvT hZ (hw _ (List.mem_of_getElem? (i := 64) rfl))) (mvT hZ (hw _ (List.mem_of_getElem? (i := 66) rfl))) (Cond.privateMethod_at (mvP hZ (hw _ (List.mem_of_getElem? (i := 65) rfl)) (args := #[]))) (mvT hZ (hw _ (List.mem_of_getElem? (i := 67) rfl))) (by decide) (backOf (W := 0) (own_al_add3_2 l Z a0 hw [] a dd kk (mc + (1 : Int32)) u0 u1 ee h2 n0 Zs14 Q10 Q6 Q8 F5 Q11 O g gd nad Q12) hZ (hw _ (List.mem_of_getElem? (i := 67) rfl)) (hw _ (List.mem_of_getElem? (i := 14) rfl)) (by decide) (by decide)) (g := (mkF m 20 #[.val (.ref a), .val (.ref ee)] [(.int (2 : Int32)), (.ref dd), (.ref ee), (.ref a)])) rfl (by rw [hml]; rfl) (Steps.refl _) (a := a) (by rw [e9]; exact q13) q13' (argsL := [(.ref ee), (.ref dd), (.int (2 : Int32))]) (rest := []) (lenOf own_al_add_2_pd0 rfl) rfl (by show 2 * 0 + _ ≤ _; exact Nat.le_of_eq rfl) (hb hby own_al_add_2_d20) (fun _ _ => ⟨rfl, e9, (by decide : 0 + 0 ≤ _), (by decide : 0 + 0 ≤ _)⟩)
  dsimp only [Pt.U, Pt.locs, Pt.cells, Pt.slots] at X13 l13 y13 z13 st13 hQ13
  obtain rfl : k13 = 0 := y13
  obtain rfl : n13 = 0 := z13
  obtain ⟨rfl, N13q, R13, P15, P16, P17, P18⟩ := hQ13
  have N13 : Fr n0 L13 := l13 ▸ Fr.app N3 N13q
  refine ownStep (fun _ k => st13.trans k) ?_
  have KP19 : Keep h0 T13.heap [a, dd] := KP4.trans R13 (allS (Or.inl (List.mem_of_getElem? (i := 0) rfl)) (allS (Or.inl (List.mem_of_getElem? (i := 1) rfl)) all0))
  refine ownStep (fun _ k => XS.iconst X13.here hx rfl (hb hby own_al_add_2_d23) k) ?_
  show ownGo p.tables e below (T13.setTop (mkF m 24 #[.val (.ref a), .val (.ref ee)] [(.int (1 : Int32))])) _
  exact ownRet X13 (v := some (.int (1 : Int32))) Bd.notSynchronized (fun h => by rw [Bd.returns] at h; cases h) (fun _ hr => retN X13 hx (t := .boolean) Bd.returns (by simp) (hb hby own_al_add_2_d24) hr) (⟨rfl, N13, KP19, P15, P16, P17, P18⟩) (by decide) (by decide)
theorem own_al_add3_3_d0 : decode jdk_38_method_24_code 0 = .ok (.iload_n 3, 1) := by decide +kernel
theorem own_al_add3_3_d1 : decode jdk_38_method_24_code 1 = .ok (.aload_n 2, 1) := by decide +kernel
theorem own_al_add3_3_d2 : decode jdk_38_method_24_code 2 = .ok (.arraylength, 1) := by decide +kernel
theorem own_al_add3_3_d3 : decode jdk_38_method_24_code 3 = .ok (.if_icmp .ne 8, 3) := by decide +kernel
theorem own_al_add3_3_d11 : decode jdk_38_method_24_code 11 = .ok (.aload_n 2, 1) := by decide +kernel
theorem own_al_add3_3_d12 : decode jdk_38_method_24_code 12 = .ok (.iload_n 3, 1) := by decide +kernel
theorem own_al_add3_3_d13 : decode jdk_38_method_24_code 13 = .ok (.aload_n 1, 1) := by decide +kernel
theorem own_al_add3_3_d14 : decode jdk_38_method_24_code 14 = .ok (.aastore, 1) := by decide +kernel
theorem own_al_add3_3_d15 : decode jdk_38_method_24_code 15 = .ok (.aload_n 0, 1) := by decide +kernel
theorem own_al_add3_3_d16 : decode jdk_38_method_24_code 16 = .ok (.iload_n 3, 1) := by decide +kernel
theorem own_al_add3_3_d17 : decode jdk_38_method_24_code 17 = .ok (.iconst 1, 1) := by decide +kernel
theorem own_al_add3_3_d18 : decode jdk_38_method_24_code 18 = .ok (.iadd, 1) := by decide +kernel
theorem own_al_add3_3_d19 : decode jdk_38_method_24_code 19 = .ok (.putfield 48, 3) := by decide +kernel
theorem own_al_add3_3_d22 : decode jdk_38_method_24_code 22 = .ok (.return_, 1) := by decide +kernel
theorem own_al_add3_3_pn : plainName "java/util/ArrayList" = true := by first | (simp [plainName, overriddenIn]; done) | decide +kernel
theorem own_al_add3_3_ef (m : MethodId) (x0 : Addr) (x1 : Addr) (x2 : Addr) (x3 : Int32) : entryFrame m #[(.ref x0), (.ref x1), (.ref x2), (.int x3)] 4 = mkF m 0 #[.val (.ref x0), .val (.ref x1), .val (.ref x2), .val (.int x3)] [] := by first | (simp [entryFrame, mkF, argsToLocals, Value.category]; done) | rfl
def own_al_add3_3_Q (Z : State) (a : Addr) (dd : Addr) (kk : ClassId) (mc : Int32) (u0 : Value) (u1 : Value) (u2 : Value) (ee : Addr) (h0 : Heap) (n0 : Nat) (vv_ : Option Value) (hh_ : Heap) (LL_ : List Loc) : Prop := vv_ = none ∧ Fr n0 LL_ ∧ Keep h0 hh_ [a, dd] ∧ Fld Z hh_ a "java/util/ArrayList" "elementData" "[Ljava/lang/Object;" (.ref dd) ∧ Fld Z hh_ a "java/util/ArrayList" "size" "I" (.int (4 : Int32)) ∧ Fld Z hh_ a "java/util/AbstractList" "modCount" "I" (.int mc) ∧ Arv Z hh_ dd kk (.object "java/lang/Object") (10 : Int32) [u0, u1, u2, (.ref ee), .null, .null, .null, .null, .null, .null] .null
set_option maxRecDepth 65536 in
set_option maxHeartbeats 40000000 in
theorem own_al_add3_3 (l : Launch) (Z : State) (a0 : Array Value) (hw : ∀ d ∈ tables_1, d.before a0 Z = true) (ws : List Jvm.Cond) (a : Addr) (dd : Addr) (kk : ClassId) (mc : Int32) (u0 : Value) (u1 : Value) (u2 : Value) (ee : Addr) (h0 : Heap) (n0 : Nat) (Z0 : n0 ≤ h0.size) (E : Exa Z h0 a "java/util/ArrayList") (Fe : Fld Z h0 a "java/util/ArrayList" "elementData" "[Ljava/lang/Object;" (.ref dd)) (Fs : Fld Z h0 a "java/util/ArrayList" "size" "I" (.int (3 : Int32))) (Fm : Fld Z h0 a "java/util/AbstractList" "modCount" "I" (.int mc)) (V : Arv Z h0 dd kk (.object "java/lang/Object") (10 : Int32) [u0, u1, u2, .null, .null, .null, .null, .null, .null, .null] .null) (O : Ovr Z kk "java/lang/Object") (g : n0 ≤ a) (gd : n0 ≤ dd) (nad : a ≠ dd) (I : Ins Z h0 ee "java/lang/Object" true) :
    MetFree l (⟨"java/util/ArrayList", "add", "(Ljava/lang/Object;[Ljava/lang/Object;I)V"⟩ : MethodName) (head1 (Jvm.Cond.code (⟨"java/util/ArrayList", "add", "(Ljava/lang/Object;[Ljava/lang/Object;I)V"⟩ : MethodName) jdk_38_method_24_code 4 none :: ws) ({ frames := 0, cells := 0, slots := 0, locals := 0 } : Room)) (fun aa_ UU_ => aa_ = #[(.ref a), (.ref ee), (.ref dd), (.int (3 : Int32))] ∧ Z.Warmed39 UU_.vm ∧ UU_.heap = h0) (fun _ _ _ _ _ => True) (fun _ UU_ oo_ UV_ => ∃ vv_ LL_, oo_ = .returned vv_ ∧ own_al_add3_3_Q Z a dd kk mc u0 u1 u2 ee h0 n0 vv_ UV_.heap LL_ ∧ FrameEnd UU_ oo_ UV_ LL_ ({ frames := 0, cells := 0, slots := 0, locals := 0 } : Room).cells ({ frames := 0, cells := 0, slots := 0, locals := 0 } : Room).slots) := by
  refine MetFree.of_bodySF (plainFor_of_name own_al_add3_3_pn) hisR ?_
  intro p e s m args below meth c s₁ Bd hml0 hP hK
  obtain ⟨rfl, hZ, hh⟩ := hP
  have hx := Bd.exec
  have hby := Bd.bytes
  have hml : c.maxLocals = 4 := hml0
  have hown : s.vm.findClass "java/util/ArrayList" = some m.cls := findClass_of_methodNamed Bd.named
  have hnm := (name_of_methodNamed Bd.named Bd.method).1
  have X0 : Stand p l e ({ frames := 0, cells := 0, slots := 0, locals := 0 } : Room) s m #[(.ref a), (.ref ee), (.ref dd), (.int (3 : Int32))] below meth c s₁ [] 0 0 := Stand.of_body Bd
  have e0 : s₁.heap = h0 := by rw [← hh, Bd.state]; rfl
  have N0 := Fr.nil n0
  have KP0 : Keep h0 h0 [a, dd] := Keep.refl _ _
  refine ownFin (Q := own_al_add3_3_Q Z a dd kk mc u0 u1 u2 ee h0 n0) ?_
  refine ownStep (fun _ k => castTop (own_al_add3_3_ef m a ee dd (3 : Int32)) k) ?_
  show ownGo p.tables e below (s₁.setTop (mkF m 0 #[.val (.ref a), .val (.ref ee), .val (.ref dd), .val (.int (3 : Int32))] [])) _
  refine ownStep (fun _ k => XS.iloadN X0.here hx rfl (hb hby own_al_add3_3_d0) rfl  k) ?_
  refine ownStep (fun _ k => XS.aloadN X0.here hx rfl (hb hby own_al_add3_3_d1) rfl rfl k) ?_
  show ownGo p.tables e below (s₁.setTop (mkF m 2 #[.val (.ref a), .val (.ref ee), .val (.ref dd), .val (.int (3 : Int32))] [(.ref dd), (.int (3 : Int32))])) _
  have Vo1 := V
  obtain ⟨cl1, Ar1, q1, S1, N1, H1, G1⟩ := Vo1
  refine ownStep (X0.arraylength hx (by rw [e0]; exact Ar1.1) (State.isArrayOf_alike hZ.alike Ar1.2.1) (g := (mkF m 2 #[.val (.ref a), .val (.ref ee), .val (.ref dd), .val (.int (3 : Int32))] [(.ref dd), (.int (3 : Int32))])) rfl rfl (hb hby own_al_add3_3_d2)) ?_
  rw [len_of S1 N1]
  refine ownStep (fun _ k => XS.icmpYes X0.here hx rfl (pc0 := 3) (pc' := 11) rfl (hb hby own_al_add3_3_d3) rfl (feq (by decide : ¬ (3 : Int32) = (10 : Int32))).2 (by decide) (by decide) k) ?_
  refine ownStep (fun _ k => XS.aloadN X0.here hx rfl (hb hby own_al_add3_3_d11) rfl rfl k) ?_
  refine ownStep (fun _ k => XS.iloadN X0.here hx rfl (hb hby own_al_add3_3_d12) rfl  k) ?_
  refine ownStep (fun _ k => XS.aloadN X0.here hx rfl (hb hby own_al_add3_3_d13) rfl rfl k) ?_
  show ownGo p.tables e below (s₁.setTop (mkF m 14 #[.val (.ref a), .val (.ref ee), .val (.ref dd), .val (.int (3 : Int32))] [(.ref ee), (.int (3 : Int32)), (.ref dd)])) _
  have Vo2 := V
  obtain ⟨cl2, Ar2, q2, S2, N2, H2, G2⟩ := Vo2
  have hin2 : ¬ ((3 : Int32) < 0 ∨ cl2.slots.size ≤ ((3 : Int32)).toNatClampNeg) := inb_of S2 ⟨by decide, by decide⟩
  obtain ⟨T3, h3, X3, e3, W3, st3⟩ := stR X0 hx hZ e0 Ar2 (j := (3 : Int32)) hin2 rfl (Sto.ofV Ar2 q2 O I) (g := (mkF m 14 #[.val (.ref a), .val (.ref ee), .val (.ref dd), .val (.int (3 : Int32))] [(.ref ee), (.int (3 : Int32)), (.ref dd)])) rfl rfl (hb hby own_al_add3_3_d14)
  have N4 := Fr.snoc X3 N0 gd
  have KP5 : Keep h0 h3 [a, dd] := KP0.wr W3 (Or.inl (List.mem_of_getElem? (i := 1) rfl))
  have V6 : Arv Z h3 dd kk (.object "java/lang/Object") (10 : Int32) [u0, u1, u2, (.ref ee), .null, .null, .null, .null, .null, .null] .null := Arv.set Ar2 q2 S2 N2 H2 G2 rfl W3 3 rfl (Nat.le_of_ble_eq_true rfl)
  refine ownStep st3 ?_
  refine ownStep (fun _ k => XS.aloadN X3.here hx rfl (hb hby own_al_add3_3_d15) rfl rfl k) ?_
  refine ownStep (fun _ k => XS.iloadN X3.here hx rfl (hb hby own_al_add3_3_d16) rfl  k) ?_
  refine ownStep (fun _ k => XS.iconst X3.here hx rfl (hb hby own_al_add3_3_d17) k) ?_
  refine ownStep (fun _ k => XS.iadd X3.here hx rfl (hb hby own_al_add3_3_d18) rfl k) ?_
  show ownGo p.tables e below (T3.setTop (mkF m 19 #[.val (.ref a), .val (.ref ee), .val (.ref dd), .val (.int (3 : Int32))] [(.int (4 : Int32)), (.ref a)])) _
  have Q7 : Fld Z h3 a "java/util/ArrayList" "size" "I" (.int (3 : Int32)) := (Fs.other W3 (Or.inl nad))
  have Q8 : Exa Z h3 a "java/util/ArrayList" := (E.wr W3)
  obtain ⟨T9, h9, X9, e9, W9, st9⟩ := putF X3 hx hZ hown (host := "") (Or.inl (hw _ (List.mem_of_getElem? (i := 61) rfl))) Via.refl e3 Q7 Q8 (Or.inl (hw _ (List.mem_of_getElem? (i := 62) rfl))) (hw _ (List.mem_of_getElem? (i := 13) rfl)) (ty := .int) (by decide) rfl rfl (g := (mkF m 19 #[.val (.ref a), .val (.ref ee), .val (.ref dd), .val (.int (3 : Int32))] [(.int (4 : Int32)), (.ref a)])) rfl rfl (hb hby own_al_add3_3_d19)
  have N10 := Fr.snoc X9 N4 g
  have KP11 : Keep h0 h9 [a, dd] := KP5.wr W9 (Or.inl (List.mem_of_getElem? (i := 0) rfl))
  have F12 : Fld Z h9 a "java/util/ArrayList" "size" "I" (.int (4 : Int32)) := Q7.same W9
  refine ownStep st9 ?_
  show ownGo p.tables e below (T9.setTop (mkF m 22 #[.val (.ref a), .val (.ref ee), .val (.ref dd), .val (.int (3 : Int32))] [])) _
  have Q13 : Fld Z h9 a "java/util/ArrayList" "elementData" "[Ljava/lang/Object;" (.ref dd) := ((Fe.other W3 (Or.inl nad)).other W9 (Or.inr (slot_ne (Or.inl (hw _ (List.mem_of_getElem? (i := 35) rfl))) (Or.inl (hw _ (List.mem_of_getElem? (i := 62) rfl))) (by decide) (t := (.array (.object "java/lang/Object"))) (t' := .int) (by decide) (by decide))))
  have Q14 : Fld Z h9 a "java/util/AbstractList" "modCount" "I" (.int mc) := ((Fm.other W3 (Or.inl nad)).other W9 (Or.inr (slot_ne (Or.inl (hw _ (List.mem_of_getElem? (i := 32) rfl))) (Or.inl (hw _ (List.mem_of_getElem? (i := 62) rfl))) (by decide) (t := .int) (t' := .int) (by decide) (by decide))))
  have Q15 : Arv Z h9 dd kk (.object "java/lang/Object") (10 : Int32) [u0, u1, u2, (.ref ee), .null, .null, .null, .null, .null, .null] .null := (V6.other W9 (Ne.symm nad))
  exact ownRet X9 (v := none) Bd.notSynchronized (fun _ => rfl) (fun _ hr => X9.returnOut hx Bd.returns (hb hby own_al_add3_3_d22) hr) (by rw [e9]; exact ⟨rfl, N10, KP11, Q13, F12, Q14, Q15⟩) (by decide) (by decide)
theorem own_al_add_3_d0 : decode jdk_38_method_25_code 0 = .ok (.aload_n 0, 1) := by decide +kernel
theorem own_al_add_3_d1 : decode jdk_38_method_25_code 1 = .ok (.dup, 1) := by decide +kernel
theorem own_al_add_3_d2 : decode jdk_38_method_25_code 2 = .ok (.getfield 63, 3) := by decide +kernel
theorem own_al_add_3_d5 : decode jdk_38_method_25_code 5 = .ok (.iconst 1, 1) := by decide +kernel
theorem own_al_add_3_d6 : decode jdk_38_method_25_code 6 = .ok (.iadd, 1) := by decide +kernel
theorem own_al_add_3_d7 : decode jdk_38_method_25_code 7 = .ok (.putfield 63, 3) := by decide +kernel
theorem own_al_add_3_d10 : decode jdk_38_method_25_code 10 = .ok (.aload_n 0, 1) := by decide +kernel
theorem own_al_add_3_d11 : decode jdk_38_method_25_code 11 = .ok (.aload_n 1, 1) := by decide +kernel
theorem own_al_add_3_d12 : decode jdk_38_method_25_code 12 = .ok (.aload_n 0, 1) := by decide +kernel
theorem own_al_add_3_d13 : decode jdk_38_method_25_code 13 = .ok (.getfield 9, 3) := by decide +kernel
theorem own_al_add_3_d16 : decode jdk_38_method_25_code 16 = .ok (.aload_n 0, 1) := by decide +kernel
theorem own_al_add_3_d17 : decode jdk_38_method_25_code 17 = .ok (.getfield 48, 3) := by decide +kernel
theorem own_al_add_3_d20 : decode jdk_38_method_25_code 20 = .ok (.invokevirtual 131, 3) := by decide +kernel
theorem own_al_add_3_d23 : decode jdk_38_method_25_code 23 = .ok (.iconst 1, 1) := by decide +kernel
theorem own_al_add_3_d24 : decode jdk_38_method_25_code 24 = .ok (.ireturn, 1) := by decide +kernel
theorem own_al_add_3_pn : plainName "java/util/ArrayList" = true := by first | (simp [plainName, overriddenIn]; done) | decide +kernel
theorem own_al_add_3_pd0 : parseMethodDescriptor "(Ljava/lang/Object;[Ljava/lang/Object;I)V" = some ⟨[(.object "java/lang/Object"), (.array (.object "java/lang/Object")), .int], none⟩ := by decide +kernel
theorem own_al_add_3_ef (m : MethodId) (x0 : Addr) (x1 : Addr) : entryFrame m #[(.ref x0), (.ref x1)] 2 = mkF m 0 #[.val (.ref x0), .val (.ref x1)] [] := by first | (simp [entryFrame, mkF, argsToLocals, Value.category]; done) | rfl
def own_al_add_3_Q (Z : State) (a : Addr) (dd : Addr) (kk : ClassId) (mc : Int32) (u0 : Value) (u1 : Value) (u2 : Value) (ee : Addr) (h0 : Heap) (n0 : Nat) (vv_ : Option Value) (hh_ : Heap) (LL_ : List Loc) : Prop := vv_ = some (.int (1 : Int32)) ∧ Fr n0 LL_ ∧ Keep h0 hh_ [a, dd] ∧ Fld Z hh_ a "java/util/ArrayList" "elementData" "[Ljava/lang/Object;" (.ref dd) ∧ Fld Z hh_ a "java/util/ArrayList" "size" "I" (.int (4 : Int32)) ∧ Fld Z hh_ a "java/util/AbstractList" "modCount" "I" (.int (mc + (1 : Int32))) ∧ Arv Z hh_ dd kk (.object "java/lang/Object") (10 : Int32) [u0, u1, u2, (.ref ee), .null, .null, .null, .null, .null, .null] .null
set_option maxRecDepth 65536 in
set_option maxHeartbeats 40000000 in
theorem own_al_add_3 (l : Launch) (Z : State) (a0 : Array Value) (hw : ∀ d ∈ tables_1, d.before a0 Z = true) (ws : List Jvm.Cond) (a : Addr) (dd : Addr) (kk : ClassId) (mc : Int32) (u0 : Value) (u1 : Value) (u2 : Value) (ee : Addr) (h0 : Heap) (n0 : Nat) (Z0 : n0 ≤ h0.size) (E : Exa Z h0 a "java/util/ArrayList") (Fe : Fld Z h0 a "java/util/ArrayList" "elementData" "[Ljava/lang/Object;" (.ref dd)) (Fs : Fld Z h0 a "java/util/ArrayList" "size" "I" (.int (3 : Int32))) (Fm : Fld Z h0 a "java/util/AbstractList" "modCount" "I" (.int mc)) (V : Arv Z h0 dd kk (.object "java/lang/Object") (10 : Int32) [u0, u1, u2, .null, .null, .null, .null, .null, .null, .null] .null) (O : Ovr Z kk "java/lang/Object") (g : n0 ≤ a) (gd : n0 ≤ dd) (nad : a ≠ dd) (I : Ins Z h0 ee "java/lang/Object" true) :
    MetFree l (⟨"java/util/ArrayList", "add", "(Ljava/lang/Object;)Z"⟩ : MethodName) (head1 (Jvm.Cond.code (⟨"java/util/ArrayList", "add", "(Ljava/lang/Object;)Z"⟩ : MethodName) jdk_38_method_25_code 2 (some .boolean) :: ws) ({ frames := 1, cells := 1, slots := 10, locals := 15 } : Room)) (fun aa_ UU_ => aa_ = #[(.ref a), (.ref ee)] ∧ Z.Warmed39 UU_.vm ∧ UU_.heap = h0) (fun _ _ _ _ _ => True) (fun _ UU_ oo_ UV_ => ∃ vv_ LL_, oo_ = .returned vv_ ∧ own_al_add_3_Q Z a dd kk mc u0 u1 u2 ee h0 n0 vv_ UV_.heap LL_ ∧ FrameEnd UU_ oo_ UV_ LL_ ({ frames := 1, cells := 1, slots := 10, locals := 15 } : Room).cells ({ frames := 1, cells := 1, slots := 10, locals := 15 } : Room).slots) := by
  refine MetFree.of_bodySF (plainFor_of_name own_al_add_3_pn) hisR ?_
  intro p e s m args below meth c s₁ Bd hml0 hP hK
  obtain ⟨rfl, hZ, hh⟩ := hP
  have hx := Bd.exec
  have hby := Bd.bytes
  have hml : c.maxLocals = 2 := hml0
  have hown : s.vm.findClass "java/util/ArrayList" = some m.cls := findClass_of_methodNamed Bd.named
  have hnm := (name_of_methodNamed Bd.named Bd.method).1
  have X0 : Stand p l e ({ frames := 1, cells := 1, slots := 10, locals := 15 } : Room) s m #[(.ref a), (.ref ee)] below meth c s₁ [] 0 0 := Stand.of_body Bd
  have e0 : s₁.heap = h0 := by rw [← hh, Bd.state]; rfl
  have N0 := Fr.nil n0
  have KP0 : Keep h0 h0 [a, dd] := Keep.refl _ _
  refine ownFin (Q := own_al_add_3_Q Z a dd kk mc u0 u1 u2 ee h0 n0) ?_
  refine ownStep (fun _ k => castTop (own_al_add_3_ef m a ee) k) ?_
  show ownGo p.tables e below (s₁.setTop (mkF m 0 #[.val (.ref a), .val (.ref ee)] [])) _
  refine ownStep (fun _ k => XS.aloadN X0.here hx rfl (hb hby own_al_add_3_d0) rfl rfl k) ?_
  refine ownStep (fun _ k => XS.dup X0.here hx rfl (hb hby own_al_add_3_d1) rfl rfl k) ?_
  show ownGo p.tables e below (s₁.setTop (mkF m 2 #[.val (.ref a), .val (.ref ee)] [(.ref a), (.ref a)])) _
  obtain ⟨T1, X1, e1, st1⟩ := getF X0 hx hZ hown (host := "") (Or.inl (hw _ (List.mem_of_getElem? (i := 59) rfl))) (Via.of (hw _ (List.mem_of_getElem? (i := 60) rfl))) e0 Fm (g := (mkF m 2 #[.val (.ref a), .val (.ref ee)] [(.ref a), (.ref a)])) rfl rfl (hb hby own_al_add_3_d2)
  refine ownStep st1 ?_
  refine ownStep (fun _ k => XS.iconst X1.here hx rfl (hb hby own_al_add_3_d5) k) ?_
  refine ownStep (fun _ k => XS.iadd X1.here hx rfl (hb hby own_al_add_3_d6) rfl k) ?_
  show ownGo p.tables e below (T1.setTop (mkF m 7 #[.val (.ref a), .val (.ref ee)] [(.int (mc + (1 : Int32))), (.ref a)])) _
  obtain ⟨T2, h2, X2, e2, W2, st2⟩ := putF X1 hx hZ hown (host := "") (Or.inl (hw _ (List.mem_of_getElem? (i := 59) rfl))) (Via.of (hw _ (List.mem_of_getElem? (i := 60) rfl))) e1 Fm E (Or.inl (hw _ (List.mem_of_getElem? (i := 32) rfl))) (hw _ (List.mem_of_getElem? (i := 13) rfl)) (ty := .int) (by decide) rfl rfl (g := (mkF m 7 #[.val (.ref a), .val (.ref ee)] [(.int (mc + (1 : Int32))), (.ref a)])) rfl rfl (hb hby own_al_add_3_d7)
  have N3 := Fr.snoc X2 N0 g
  have KP4 : Keep h0 h2 [a, dd] := KP0.wr W2 (Or.inl (List.mem_of_getElem? (i := 0) rfl))
  have F5 : Fld Z h2 a "java/util/AbstractList" "modCount" "I" (.int (mc + (1 : Int32))) := Fm.same W2
  refine ownStep st2 ?_
  refine ownStep (fun _ k => XS.aloadN X2.here hx rfl (hb hby own_al_add_3_d10) rfl rfl k) ?_
  refine ownStep (fun _ k => XS.aloadN X2.here hx rfl (hb hby own_al_add_3_d11) rfl rfl k) ?_
  refine ownStep (fun _ k => XS.aloadN X2.here hx rfl (hb hby own_al_add_3_d12) rfl rfl k) ?_
  show ownGo p.tables e below (T2.setTop (mkF m 13 #[.val (.ref a), .val (.ref ee)] [(.ref a), (.ref ee), (.ref a)])) _
  have Q6 : Fld Z h2 a "java/util/ArrayList" "elementData" "[Ljava/lang/Object;" (.ref dd) := (Fe.other W2 (Or.inr (slot_ne (Or.inl (hw _ (List.mem_of_getElem? (i := 35) rfl))) (Or.inl (hw _ (List.mem_of_getElem? (i := 32) rfl))) (by decide) (t := (.array (.object "java/lang/Object"))) (t' := .int) (by decide) (by decide))))
  obtain ⟨T7, X7, e7, st7⟩ := getF X2 hx hZ hown (host := "") (Or.inl (hw _ (List.mem_of_getElem? (i := 34) rfl))) Via.refl e2 Q6 (g := (mkF m 13 #[.val (.ref a), .val (.ref ee)] [(.ref a), (.ref ee), (.ref a)])) rfl rfl (hb hby own_al_add_3_d13)
  refine ownStep st7 ?_
  refine ownStep (fun _ k => XS.aloadN X7.here hx rfl (hb hby own_al_add_3_d16) rfl rfl k) ?_
  show ownGo p.tables e below (T7.setTop (mkF m 17 #[.val (.ref a), .val (.ref ee)] [(.ref a), (.ref dd), (.ref ee), (.ref a)])) _
  have Q8 : Fld Z h2 a "java/util/ArrayList" "size" "I" (.int (3 : Int32)) := (Fs.other W2 (Or.inr (slot_ne (Or.inl (hw _ (List.mem_of_getElem? (i := 62) rfl))) (Or.inl (hw _ (List.mem_of_getElem? (i := 32) rfl))) (by decide) (t := .int) (t' := .int) (by decide) (by decide))))
  obtain ⟨T9, X9, e9, st9⟩ := getF X7 hx hZ hown (host := "") (Or.inl (hw _ (List.mem_of_getElem? (i := 61) rfl))) Via.refl e7 Q8 (g := (mkF m 17 #[.val (.ref a), .val (.ref ee)] [(.ref a), (.ref dd), (.ref ee), (.ref a)])) rfl rfl (hb hby own_al_add_3_d17)
  refine ownStep st9 ?_
  show ownGo p.tables e below (T9.setTop (mkF m 20 #[.val (.ref a), .val (.ref ee)] [(.int (3 : Int32)), (.ref dd), (.ref ee), (.ref a)])) _
  have Q10 : Exa Z h2 a "java/util/ArrayList" := (E.wr W2)
  have Q11 : Arv Z h2 dd kk (.object "java/lang/Object") (10 : Int32) [u0, u1, u2, .null, .null, .null, .null, .null, .null, .null] .null := (V.other W2 (Ne.symm nad))
  have Q12 : Ins Z h2 ee "java/lang/Object" true := (I.wr W2)
  have Zs14 : n0 ≤ h2.size := Nat.le_trans Z0 KP4.1
  obtain ⟨cq13, q13, q13'⟩ := Q10.cell
  obtain ⟨_, _, ⟨T13, L13, k13, n13⟩, -, X13, ⟨Lc13, hQ13, l13, y13, z13⟩, st13⟩ := X9.privateBack hx (y := (⟨"java/util/ArrayList", "add", "(Ljava/lang/Object;[Ljava/lang/Object;I)V"⟩ : MethodName)) hown (mvT hZ (hw _ (List.mem_of_getElem? (i := 63) rfl))) (mvT hZ (hw _ (List.mem_of_getElem? (i := 64) rfl))) (mvT hZ (hw _ (List.mem_of_getElem? (i := 66) rfl))) (Cond.privateMethod_at (mvP hZ (hw _ (List.mem_of_getElem? (i := 65) rfl)) (args := #[]))) (mvT hZ (hw _ (List.mem_of_getElem? (i := 67) rfl))) (by decide) (backOf (W := 0) (own_al_add3_3 l Z a0 hw [] a dd kk (mc + (1 : Int32)) u0 u1 u2 ee h2 n0 Zs14 Q10 Q6 Q8 F5 Q11 O g gd nad Q12) hZ (hw _ (List.mem_of_getElem? (i := 67) rfl)) (hw _ (List.mem_of_getElem? (i := 14) rfl)) (by decide) (by decide)) (g := (mkF m 20 #[.val (.ref a), .val (.ref ee)] [(.int (3 : Int32)), (.ref dd), (.ref ee), (.ref a)])) rfl (by rw [hml]; rfl) (Steps.refl _) (a := a) (by rw [e9]; exact q13) q13' (argsL := [(.ref ee), (.ref dd), (.int (3 : Int32))]) (rest := []) (lenOf own_al_add_3_pd0 rfl) rfl (by show 2 * 0 + _ ≤ _; exact Nat.le_of_eq rfl) (hb hby own_al_add_3_d20) (fun _ _ => ⟨rfl, e9, (by decide : 0 + 0 ≤ _), (by decide : 0 + 0 ≤ _)⟩)
  dsimp only [Pt.U, Pt.locs, Pt.cells, Pt.slots] at X13 l13 y13 z13 st13 hQ13
  obtain rfl : k13 = 0 := y13
  obtain rfl : n13 = 0 := z13
  obtain ⟨rfl, N13q, R13, P15, P16, P17, P18⟩ := hQ13
  have N13 : Fr n0 L13 := l13 ▸ Fr.app N3 N13q
  refine ownStep (fun _ k => st13.trans k) ?_
  have KP19 : Keep h0 T13.heap [a, dd] := KP4.trans R13 (allS (Or.inl (List.mem_of_getElem? (i := 0) rfl)) (allS (Or.inl (List.mem_of_getElem? (i := 1) rfl)) all0))
  refine ownStep (fun _ k => XS.iconst X13.here hx rfl (hb hby own_al_add_3_d23) k) ?_
  show ownGo p.tables e below (T13.setTop (mkF m 24 #[.val (.ref a), .val (.ref ee)] [(.int (1 : Int32))])) _
  exact ownRet X13 (v := some (.int (1 : Int32))) Bd.notSynchronized (fun h => by rw [Bd.returns] at h; cases h) (fun _ hr => retN X13 hx (t := .boolean) Bd.returns (by simp) (hb hby own_al_add_3_d24) hr) (⟨rfl, N13, KP19, P15, P16, P17, P18⟩) (by decide) (by decide)
theorem own_al_add3_4_d0 : decode jdk_38_method_24_code 0 = .ok (.iload_n 3, 1) := by decide +kernel
theorem own_al_add3_4_d1 : decode jdk_38_method_24_code 1 = .ok (.aload_n 2, 1) := by decide +kernel
theorem own_al_add3_4_d2 : decode jdk_38_method_24_code 2 = .ok (.arraylength, 1) := by decide +kernel
theorem own_al_add3_4_d3 : decode jdk_38_method_24_code 3 = .ok (.if_icmp .ne 8, 3) := by decide +kernel
theorem own_al_add3_4_d11 : decode jdk_38_method_24_code 11 = .ok (.aload_n 2, 1) := by decide +kernel
theorem own_al_add3_4_d12 : decode jdk_38_method_24_code 12 = .ok (.iload_n 3, 1) := by decide +kernel
theorem own_al_add3_4_d13 : decode jdk_38_method_24_code 13 = .ok (.aload_n 1, 1) := by decide +kernel
theorem own_al_add3_4_d14 : decode jdk_38_method_24_code 14 = .ok (.aastore, 1) := by decide +kernel
theorem own_al_add3_4_d15 : decode jdk_38_method_24_code 15 = .ok (.aload_n 0, 1) := by decide +kernel
theorem own_al_add3_4_d16 : decode jdk_38_method_24_code 16 = .ok (.iload_n 3, 1) := by decide +kernel
theorem own_al_add3_4_d17 : decode jdk_38_method_24_code 17 = .ok (.iconst 1, 1) := by decide +kernel
theorem own_al_add3_4_d18 : decode jdk_38_method_24_code 18 = .ok (.iadd, 1) := by decide +kernel
theorem own_al_add3_4_d19 : decode jdk_38_method_24_code 19 = .ok (.putfield 48, 3) := by decide +kernel
theorem own_al_add3_4_d22 : decode jdk_38_method_24_code 22 = .ok (.return_, 1) := by decide +kernel
theorem own_al_add3_4_pn : plainName "java/util/ArrayList" = true := by first | (simp [plainName, overriddenIn]; done) | decide +kernel
theorem own_al_add3_4_ef (m : MethodId) (x0 : Addr) (x1 : Addr) (x2 : Addr) (x3 : Int32) : entryFrame m #[(.ref x0), (.ref x1), (.ref x2), (.int x3)] 4 = mkF m 0 #[.val (.ref x0), .val (.ref x1), .val (.ref x2), .val (.int x3)] [] := by first | (simp [entryFrame, mkF, argsToLocals, Value.category]; done) | rfl
def own_al_add3_4_Q (Z : State) (a : Addr) (dd : Addr) (kk : ClassId) (mc : Int32) (u0 : Value) (u1 : Value) (u2 : Value) (u3 : Value) (ee : Addr) (h0 : Heap) (n0 : Nat) (vv_ : Option Value) (hh_ : Heap) (LL_ : List Loc) : Prop := vv_ = none ∧ Fr n0 LL_ ∧ Keep h0 hh_ [a, dd] ∧ Fld Z hh_ a "java/util/ArrayList" "elementData" "[Ljava/lang/Object;" (.ref dd) ∧ Fld Z hh_ a "java/util/ArrayList" "size" "I" (.int (5 : Int32)) ∧ Fld Z hh_ a "java/util/AbstractList" "modCount" "I" (.int mc) ∧ Arv Z hh_ dd kk (.object "java/lang/Object") (10 : Int32) [u0, u1, u2, u3, (.ref ee), .null, .null, .null, .null, .null] .null
set_option maxRecDepth 65536 in
set_option maxHeartbeats 40000000 in
theorem own_al_add3_4 (l : Launch) (Z : State) (a0 : Array Value) (hw : ∀ d ∈ tables_1, d.before a0 Z = true) (ws : List Jvm.Cond) (a : Addr) (dd : Addr) (kk : ClassId) (mc : Int32) (u0 : Value) (u1 : Value) (u2 : Value) (u3 : Value) (ee : Addr) (h0 : Heap) (n0 : Nat) (Z0 : n0 ≤ h0.size) (E : Exa Z h0 a "java/util/ArrayList") (Fe : Fld Z h0 a "java/util/ArrayList" "elementData" "[Ljava/lang/Object;" (.ref dd)) (Fs : Fld Z h0 a "java/util/ArrayList" "size" "I" (.int (4 : Int32))) (Fm : Fld Z h0 a "java/util/AbstractList" "modCount" "I" (.int mc)) (V : Arv Z h0 dd kk (.object "java/lang/Object") (10 : Int32) [u0, u1, u2, u3, .null, .null, .null, .null, .null, .null] .null) (O : Ovr Z kk "java/lang/Object") (g : n0 ≤ a) (gd : n0 ≤ dd) (nad : a ≠ dd) (I : Ins Z h0 ee "java/lang/Object" true) :
    MetFree l (⟨"java/util/ArrayList", "add", "(Ljava/lang/Object;[Ljava/lang/Object;I)V"⟩ : MethodName) (head1 (Jvm.Cond.code (⟨"java/util/ArrayList", "add", "(Ljava/lang/Object;[Ljava/lang/Object;I)V"⟩ : MethodName) jdk_38_method_24_code 4 none :: ws) ({ frames := 0, cells := 0, slots := 0, locals := 0 } : Room)) (fun aa_ UU_ => aa_ = #[(.ref a), (.ref ee), (.ref dd), (.int (4 : Int32))] ∧ Z.Warmed39 UU_.vm ∧ UU_.heap = h0) (fun _ _ _ _ _ => True) (fun _ UU_ oo_ UV_ => ∃ vv_ LL_, oo_ = .returned vv_ ∧ own_al_add3_4_Q Z a dd kk mc u0 u1 u2 u3 ee h0 n0 vv_ UV_.heap LL_ ∧ FrameEnd UU_ oo_ UV_ LL_ ({ frames := 0, cells := 0, slots := 0, locals := 0 } : Room).cells ({ frames := 0, cells := 0, slots := 0, locals := 0 } : Room).slots) := by
  refine MetFree.of_bodySF (plainFor_of_name own_al_add3_4_pn) hisR ?_
  intro p e s m args below meth c s₁ Bd hml0 hP hK
  obtain ⟨rfl, hZ, hh⟩ := hP
  have hx := Bd.exec
  have hby := Bd.bytes
  have hml : c.maxLocals = 4 := hml0
  have hown : s.vm.findClass "java/util/ArrayList" = some m.cls := findClass_of_methodNamed Bd.named
  have hnm := (name_of_methodNamed Bd.named Bd.method).1
  have X0 : Stand p l e ({ frames := 0, cells := 0, slots := 0, locals := 0 } : Room) s m #[(.ref a), (.ref ee), (.ref dd), (.int (4 : Int32))] below meth c s₁ [] 0 0 := Stand.of_body Bd
  have e0 : s₁.heap = h0 := by rw [← hh, Bd.state]; rfl
  have N0 := Fr.nil n0
  have KP0 : Keep h0 h0 [a, dd] := Keep.refl _ _
  refine ownFin (Q := own_al_add3_4_Q Z a dd kk mc u0 u1 u2 u3 ee h0 n0) ?_
  refine ownStep (fun _ k => castTop (own_al_add3_4_ef m a ee dd (4 : Int32)) k) ?_
  show ownGo p.tables e below (s₁.setTop (mkF m 0 #[.val (.ref a), .val (.ref ee), .val (.ref dd), .val (.int (4 : Int32))] [])) _
  refine ownStep (fun _ k => XS.iloadN X0.here hx rfl (hb hby own_al_add3_4_d0) rfl  k) ?_
  refine ownStep (fun _ k => XS.aloadN X0.here hx rfl (hb hby own_al_add3_4_d1) rfl rfl k) ?_
  show ownGo p.tables e below (s₁.setTop (mkF m 2 #[.val (.ref a), .val (.ref ee), .val (.ref dd), .val (.int (4 : Int32))] [(.ref dd), (.int (4 : Int32))])) _
  have Vo1 := V
  obtain ⟨cl1, Ar1, q1, S1, N1, H1, G1⟩ := Vo1
  refine ownStep (X0.arraylength hx (by rw [e0]; exact Ar1.1) (State.isArrayOf_alike hZ.alike Ar1.2.1) (g := (mkF m 2 #[.val (.ref a), .val (.ref ee), .val (.ref dd), .val (.int (4 : Int32))] [(.ref dd), (.int (4 : Int32))])) rfl rfl (hb hby own_al_add3_4_d2)) ?_
  rw [len_of S1 N1]
  refine ownStep (fun _ k => XS.icmpYes X0.here hx rfl (pc0 := 3) (pc' := 11) rfl (hb hby own_al_add3_4_d3) rfl (feq (by decide : ¬ (4 : Int32) = (10 : Int32))).2 (by decide) (by decide) k) ?_
  refine ownStep (fun _ k => XS.aloadN X0.here hx rfl (hb hby own_al_add3_4_d11) rfl rfl k) ?_
  refine ownStep (fun _ k => XS.iloadN X0.here hx rfl (hb hby own_al_add3_4_d12) rfl  k) ?_
  refine ownStep (fun _ k => XS.aloadN X0.here hx rfl (hb hby own_al_add3_4_d13) rfl rfl k) ?_
  show ownGo p.tables e below (s₁.setTop (mkF m 14 #[.val (.ref a), .val (.ref ee), .val (.ref dd), .val (.int (4 : Int32))] [(.ref ee), (.int (4 : Int32)), (.ref dd)])) _
  have Vo2 := V
  obtain ⟨cl2, Ar2, q2, S2, N2, H2, G2⟩ := Vo2
  have hin2 : ¬ ((4 : Int32) < 0 ∨ cl2.slots.size ≤ ((4 : Int32)).toNatClampNeg) := inb_of S2 ⟨by decide, by decide⟩
  obtain ⟨T3, h3, X3, e3, W3, st3⟩ := stR X0 hx hZ e0 Ar2 (j := (4 : Int32)) hin2 rfl (Sto.ofV Ar2 q2 O I) (g := (mkF m 14 #[.val (.ref a), .val (.ref ee), .val (.ref dd), .val (.int (4 : Int32))] [(.ref ee), (.int (4 : Int32)), (.ref dd)])) rfl rfl (hb hby own_al_add3_4_d14)
  have N4 := Fr.snoc X3 N0 gd
  have KP5 : Keep h0 h3 [a, dd] := KP0.wr W3 (Or.inl (List.mem_of_getElem? (i := 1) rfl))
  have V6 : Arv Z h3 dd kk (.object "java/lang/Object") (10 : Int32) [u0, u1, u2, u3, (.ref ee), .null, .null, .null, .null, .null] .null := Arv.set Ar2 q2 S2 N2 H2 G2 rfl W3 4 rfl (Nat.le_of_ble_eq_true rfl)
  refine ownStep st3 ?_
  refine ownStep (fun _ k => XS.aloadN X3.here hx rfl (hb hby own_al_add3_4_d15) rfl rfl k) ?_
  refine ownStep (fun _ k => XS.iloadN X3.here hx rfl (hb hby own_al_add3_4_d16) rfl  k) ?_
  refine ownStep (fun _ k => XS.iconst X3.here hx rfl (hb hby own_al_add3_4_d17) k) ?_
  refine ownStep (fun _ k => XS.iadd X3.here hx rfl (hb hby own_al_add3_4_d18) rfl k) ?_
  show ownGo p.tables e below (T3.setTop (mkF m 19 #[.val (.ref a), .val (.ref ee), .val (.ref dd), .val (.int (4 : Int32))] [(.int (5 : Int32)), (.ref a)])) _
  have Q7 : Fld Z h3 a "java/util/ArrayList" "size" "I" (.int (4 : Int32)) := (Fs.other W3 (Or.inl nad))
  have Q8 : Exa Z h3 a "java/util/ArrayList" := (E.wr W3)
  obtain ⟨T9, h9, X9, e9, W9, st9⟩ := putF X3 hx hZ hown (host := "") (Or.inl (hw _ (List.mem_of_getElem? (i := 61) rfl))) Via.refl e3 Q7 Q8 (Or.inl (hw _ (List.mem_of_getElem? (i := 62) rfl))) (hw _ (List.mem_of_getElem? (i := 13) rfl)) (ty := .int) (by decide) rfl rfl (g := (mkF m 19 #[.val (.ref a), .val (.ref ee), .val (.ref dd), .val (.int (4 : Int32))] [(.int (5 : Int32)), (.ref a)])) rfl rfl (hb hby own_al_add3_4_d19)
  have N10 := Fr.snoc X9 N4 g
  have KP11 : Keep h0 h9 [a, dd] := KP5.wr W9 (Or.inl (List.mem_of_getElem? (i := 0) rfl))
  have F12 : Fld Z h9 a "java/util/ArrayList" "size" "I" (.int (5 : Int32)) := Q7.same W9
  refine ownStep st9 ?_
  show ownGo p.tables e below (T9.setTop (mkF m 22 #[.val (.ref a), .val (.ref ee), .val (.ref dd), .val (.int (4 : Int32))] [])) _
  have Q13 : Fld Z h9 a "java/util/ArrayList" "elementData" "[Ljava/lang/Object;" (.ref dd) := ((Fe.other W3 (Or.inl nad)).other W9 (Or.inr (slot_ne (Or.inl (hw _ (List.mem_of_getElem? (i := 35) rfl))) (Or.inl (hw _ (List.mem_of_getElem? (i := 62) rfl))) (by decide) (t := (.array (.object "java/lang/Object"))) (t' := .int) (by decide) (by decide))))
  have Q14 : Fld Z h9 a "java/util/AbstractList" "modCount" "I" (.int mc) := ((Fm.other W3 (Or.inl nad)).other W9 (Or.inr (slot_ne (Or.inl (hw _ (List.mem_of_getElem? (i := 32) rfl))) (Or.inl (hw _ (List.mem_of_getElem? (i := 62) rfl))) (by decide) (t := .int) (t' := .int) (by decide) (by decide))))
  have Q15 : Arv Z h9 dd kk (.object "java/lang/Object") (10 : Int32) [u0, u1, u2, u3, (.ref ee), .null, .null, .null, .null, .null] .null := (V6.other W9 (Ne.symm nad))
  exact ownRet X9 (v := none) Bd.notSynchronized (fun _ => rfl) (fun _ hr => X9.returnOut hx Bd.returns (hb hby own_al_add3_4_d22) hr) (by rw [e9]; exact ⟨rfl, N10, KP11, Q13, F12, Q14, Q15⟩) (by decide) (by decide)
theorem own_al_add_4_d0 : decode jdk_38_method_25_code 0 = .ok (.aload_n 0, 1) := by decide +kernel
theorem own_al_add_4_d1 : decode jdk_38_method_25_code 1 = .ok (.dup, 1) := by decide +kernel
theorem own_al_add_4_d2 : decode jdk_38_method_25_code 2 = .ok (.getfield 63, 3) := by decide +kernel
theorem own_al_add_4_d5 : decode jdk_38_method_25_code 5 = .ok (.iconst 1, 1) := by decide +kernel
theorem own_al_add_4_d6 : decode jdk_38_method_25_code 6 = .ok (.iadd, 1) := by decide +kernel
theorem own_al_add_4_d7 : decode jdk_38_method_25_code 7 = .ok (.putfield 63, 3) := by decide +kernel
theorem own_al_add_4_d10 : decode jdk_38_method_25_code 10 = .ok (.aload_n 0, 1) := by decide +kernel
theorem own_al_add_4_d11 : decode jdk_38_method_25_code 11 = .ok (.aload_n 1, 1) := by decide +kernel
theorem own_al_add_4_d12 : decode jdk_38_method_25_code 12 = .ok (.aload_n 0, 1) := by decide +kernel
theorem own_al_add_4_d13 : decode jdk_38_method_25_code 13 = .ok (.getfield 9, 3) := by decide +kernel
theorem own_al_add_4_d16 : decode jdk_38_method_25_code 16 = .ok (.aload_n 0, 1) := by decide +kernel
theorem own_al_add_4_d17 : decode jdk_38_method_25_code 17 = .ok (.getfield 48, 3) := by decide +kernel
theorem own_al_add_4_d20 : decode jdk_38_method_25_code 20 = .ok (.invokevirtual 131, 3) := by decide +kernel
theorem own_al_add_4_d23 : decode jdk_38_method_25_code 23 = .ok (.iconst 1, 1) := by decide +kernel
theorem own_al_add_4_d24 : decode jdk_38_method_25_code 24 = .ok (.ireturn, 1) := by decide +kernel
theorem own_al_add_4_pn : plainName "java/util/ArrayList" = true := by first | (simp [plainName, overriddenIn]; done) | decide +kernel
theorem own_al_add_4_pd0 : parseMethodDescriptor "(Ljava/lang/Object;[Ljava/lang/Object;I)V" = some ⟨[(.object "java/lang/Object"), (.array (.object "java/lang/Object")), .int], none⟩ := by decide +kernel
theorem own_al_add_4_ef (m : MethodId) (x0 : Addr) (x1 : Addr) : entryFrame m #[(.ref x0), (.ref x1)] 2 = mkF m 0 #[.val (.ref x0), .val (.ref x1)] [] := by first | (simp [entryFrame, mkF, argsToLocals, Value.category]; done) | rfl
def own_al_add_4_Q (Z : State) (a : Addr) (dd : Addr) (kk : ClassId) (mc : Int32) (u0 : Value) (u1 : Value) (u2 : Value) (u3 : Value) (ee : Addr) (h0 : Heap) (n0 : Nat) (vv_ : Option Value) (hh_ : Heap) (LL_ : List Loc) : Prop := vv_ = some (.int (1 : Int32)) ∧ Fr n0 LL_ ∧ Keep h0 hh_ [a, dd] ∧ Fld Z hh_ a "java/util/ArrayList" "elementData" "[Ljava/lang/Object;" (.ref dd) ∧ Fld Z hh_ a "java/util/ArrayList" "size" "I" (.int (5 : Int32)) ∧ Fld Z hh_ a "java/util/AbstractList" "modCount" "I" (.int (mc + (1 : Int32))) ∧ Arv Z hh_ dd kk (.object "java/lang/Object") (10 : Int32) [u0, u1, u2, u3, (.ref ee), .null, .null, .null, .null, .null] .null
set_option maxRecDepth 65536 in
set_option maxHeartbeats 40000000 in
theorem own_al_add_4 (l : Launch) (Z : State) (a0 : Array Value) (hw : ∀ d ∈ tables_1, d.before a0 Z = true) (ws : List Jvm.Cond) (a : Addr) (dd : Addr) (kk : ClassId) (mc : Int32) (u0 : Value) (u1 : Value) (u2 : Value) (u3 : Value) (ee : Addr) (h0 : Heap) (n0 : Nat) (Z0 : n0 ≤ h0.size) (E : Exa Z h0 a "java/util/ArrayList") (Fe : Fld Z h0 a "java/util/ArrayList" "elementData" "[Ljava/lang/Object;" (.ref dd)) (Fs : Fld Z h0 a "java/util/ArrayList" "size" "I" (.int (4 : Int32))) (Fm : Fld Z h0 a "java/util/AbstractList" "modCount" "I" (.int mc)) (V : Arv Z h0 dd kk (.object "java/lang/Object") (10 : Int32) [u0, u1, u2, u3, .null, .null, .null, .null, .null, .null] .null) (O : Ovr Z kk "java/lang/Object") (g : n0 ≤ a) (gd : n0 ≤ dd) (nad : a ≠ dd) (I : Ins Z h0 ee "java/lang/Object" true) :
    MetFree l (⟨"java/util/ArrayList", "add", "(Ljava/lang/Object;)Z"⟩ : MethodName) (head1 (Jvm.Cond.code (⟨"java/util/ArrayList", "add", "(Ljava/lang/Object;)Z"⟩ : MethodName) jdk_38_method_25_code 2 (some .boolean) :: ws) ({ frames := 1, cells := 1, slots := 10, locals := 15 } : Room)) (fun aa_ UU_ => aa_ = #[(.ref a), (.ref ee)] ∧ Z.Warmed39 UU_.vm ∧ UU_.heap = h0) (fun _ _ _ _ _ => True) (fun _ UU_ oo_ UV_ => ∃ vv_ LL_, oo_ = .returned vv_ ∧ own_al_add_4_Q Z a dd kk mc u0 u1 u2 u3 ee h0 n0 vv_ UV_.heap LL_ ∧ FrameEnd UU_ oo_ UV_ LL_ ({ frames := 1, cells := 1, slots := 10, locals := 15 } : Room).cells ({ frames := 1, cells := 1, slots := 10, locals := 15 } : Room).slots) := by
  refine MetFree.of_bodySF (plainFor_of_name own_al_add_4_pn) hisR ?_
  intro p e s m args below meth c s₁ Bd hml0 hP hK
  obtain ⟨rfl, hZ, hh⟩ := hP
  have hx := Bd.exec
  have hby := Bd.bytes
  have hml : c.maxLocals = 2 := hml0
  have hown : s.vm.findClass "java/util/ArrayList" = some m.cls := findClass_of_methodNamed Bd.named
  have hnm := (name_of_methodNamed Bd.named Bd.method).1
  have X0 : Stand p l e ({ frames := 1, cells := 1, slots := 10, locals := 15 } : Room) s m #[(.ref a), (.ref ee)] below meth c s₁ [] 0 0 := Stand.of_body Bd
  have e0 : s₁.heap = h0 := by rw [← hh, Bd.state]; rfl
  have N0 := Fr.nil n0
  have KP0 : Keep h0 h0 [a, dd] := Keep.refl _ _
  refine ownFin (Q := own_al_add_4_Q Z a dd kk mc u0 u1 u2 u3 ee h0 n0) ?_
  refine ownStep (fun _ k => castTop (own_al_add_4_ef m a ee) k) ?_
  show ownGo p.tables e below (s₁.setTop (mkF m 0 #[.val (.ref a), .val (.ref ee)] [])) _
  refine ownStep (fun _ k => XS.aloadN X0.here hx rfl (hb hby own_al_add_4_d0) rfl rfl k) ?_
  refine ownStep (fun _ k => XS.dup X0.here hx rfl (hb hby own_al_add_4_d1) rfl rfl k) ?_
  show ownGo p.tables e below (s₁.setTop (mkF m 2 #[.val (.ref a), .val (.ref ee)] [(.ref a), (.ref a)])) _
  obtain ⟨T1, X1, e1, st1⟩ := getF X0 hx hZ hown (host := "") (Or.inl (hw _ (List.mem_of_getElem? (i := 59) rfl))) (Via.of (hw _ (List.mem_of_getElem? (i := 60) rfl))) e0 Fm (g := (mkF m 2 #[.val (.ref a), .val (.ref ee)] [(.ref a), (.ref a)])) rfl rfl (hb hby own_al_add_4_d2)
  refine ownStep st1 ?_
  refine ownStep (fun _ k => XS.iconst X1.here hx rfl (hb hby own_al_add_4_d5) k) ?_
  refine ownStep (fun _ k => XS.iadd X1.here hx rfl (hb hby own_al_add_4_d6) rfl k) ?_
  show ownGo p.tables e below (T1.setTop (mkF m 7 #[.val (.ref a), .val (.ref ee)] [(.int (mc + (1 : Int32))), (.ref a)])) _
  obtain ⟨T2, h2, X2, e2, W2, st2⟩ := putF X1 hx hZ hown (host := "") (Or.inl (hw _ (List.mem_of_getElem? (i := 59) rfl))) (Via.of (hw _ (List.mem_of_getElem? (i := 60) rfl))) e1 Fm E (Or.inl (hw _ (List.mem_of_getElem? (i := 32) rfl))) (hw _ (List.mem_of_getElem? (i := 13) rfl)) (ty := .int) (by decide) rfl rfl (g := (mkF m 7 #[.val (.ref a), .val (.ref ee)] [(.int (mc + (1 : Int32))), (.ref a)])) rfl rfl (hb hby own_al_add_4_d7)
  have N3 := Fr.snoc X2 N0 g
  have KP4 : Keep h0 h2 [a, dd] := KP0.wr W2 (Or.inl (List.mem_of_getElem? (i := 0) rfl))
  have F5 : Fld Z h2 a "java/util/AbstractList" "modCount" "I" (.int (mc + (1 : Int32))) := Fm.same W2
  refine ownStep st2 ?_
  refine ownStep (fun _ k => XS.aloadN X2.here hx rfl (hb hby own_al_add_4_d10) rfl rfl k) ?_
  refine ownStep (fun _ k => XS.aloadN X2.here hx rfl (hb hby own_al_add_4_d11) rfl rfl k) ?_
  refine ownStep (fun _ k => XS.aloadN X2.here hx rfl (hb hby own_al_add_4_d12) rfl rfl k) ?_
  show ownGo p.tables e below (T2.setTop (mkF m 13 #[.val (.ref a), .val (.ref ee)] [(.ref a), (.ref ee), (.ref a)])) _
  have Q6 : Fld Z h2 a "java/util/ArrayList" "elementData" "[Ljava/lang/Object;" (.ref dd) := (Fe.other W2 (Or.inr (slot_ne (Or.inl (hw _ (List.mem_of_getElem? (i := 35) rfl))) (Or.inl (hw _ (List.mem_of_getElem? (i := 32) rfl))) (by decide) (t := (.array (.object "java/lang/Object"))) (t' := .int) (by decide) (by decide))))
  obtain ⟨T7, X7, e7, st7⟩ := getF X2 hx hZ hown (host := "") (Or.inl (hw _ (List.mem_of_getElem? (i := 34) rfl))) Via.refl e2 Q6 (g := (mkF m 13 #[.val (.ref a), .val (.ref ee)] [(.ref a), (.ref ee), (.ref a)])) rfl rfl (hb hby own_al_add_4_d13)
  refine ownStep st7 ?_
  refine ownStep (fun _ k => XS.aloadN X7.here hx rfl (hb hby own_al_add_4_d16) rfl rfl k) ?_
  show ownGo p.tables e below (T7.setTop (mkF m 17 #[.val (.ref a), .val (.ref ee)] [(.ref a), (.ref dd), (.ref ee), (.ref a)])) _
  have Q8 : Fld Z h2 a "java/util/ArrayList" "size" "I" (.int (4 : Int32)) := (Fs.other W2 (Or.inr (slot_ne (Or.inl (hw _ (List.mem_of_getElem? (i := 62) rfl))) (Or.inl (hw _ (List.mem_of_getElem? (i := 32) rfl))) (by decide) (t := .int) (t' := .int) (by decide) (by decide))))
  obtain ⟨T9, X9, e9, st9⟩ := getF X7 hx hZ hown (host := "") (Or.inl (hw _ (List.mem_of_getElem? (i := 61) rfl))) Via.refl e7 Q8 (g := (mkF m 17 #[.val (.ref a), .val (.ref ee)] [(.ref a), (.ref dd), (.ref ee), (.ref a)])) rfl rfl (hb hby own_al_add_4_d17)
  refine ownStep st9 ?_
  show ownGo p.tables e below (T9.setTop (mkF m 20 #[.val (.ref a), .val (.ref ee)] [(.int (4 : Int32)), (.ref dd), (.ref ee), (.ref a)])) _
  have Q10 : Exa Z h2 a "java/util/ArrayList" := (E.wr W2)
  have Q11 : Arv Z h2 dd kk (.object "java/lang/Object") (10 : Int32) [u0, u1, u2, u3, .null, .null, .null, .null, .null, .null] .null := (V.other W2 (Ne.symm nad))
  have Q12 : Ins Z h2 ee "java/lang/Object" true := (I.wr W2)
  have Zs14 : n0 ≤ h2.size := Nat.le_trans Z0 KP4.1
  obtain ⟨cq13, q13, q13'⟩ := Q10.cell
  obtain ⟨_, _, ⟨T13, L13, k13, n13⟩, -, X13, ⟨Lc13, hQ13, l13, y13, z13⟩, st13⟩ := X9.privateBack hx (y := (⟨"java/util/ArrayList", "add", "(Ljava/lang/Object;[Ljava/lang/Object;I)V"⟩ : MethodName)) hown (mvT hZ (hw _ (List.mem_of_getElem? (i := 63) rfl))) (mvT hZ (hw _ (List.mem_of_getElem? (i := 64) rfl))) (mvT hZ (hw _ (List.mem_of_getElem? (i := 66) rfl))) (Cond.privateMethod_at (mvP hZ (hw _ (List.mem_of_getElem? (i := 65) rfl)) (args := #[]))) (mvT hZ (hw _ (List.mem_of_getElem? (i := 67) rfl))) (by decide) (backOf (W := 0) (own_al_add3_4 l Z a0 hw [] a dd kk (mc + (1 : Int32)) u0 u1 u2 u3 ee h2 n0 Zs14 Q10 Q6 Q8 F5 Q11 O g gd nad Q12) hZ (hw _ (List.mem_of_getElem? (i := 67) rfl)) (hw _ (List.mem_of_getElem? (i := 14) rfl)) (by decide) (by decide)) (g := (mkF m 20 #[.val (.ref a), .val (.ref ee)] [(.int (4 : Int32)), (.ref dd), (.ref ee), (.ref a)])) rfl (by rw [hml]; rfl) (Steps.refl _) (a := a) (by rw [e9]; exact q13) q13' (argsL := [(.ref ee), (.ref dd), (.int (4 : Int32))]) (rest := []) (lenOf own_al_add_4_pd0 rfl) rfl (by show 2 * 0 + _ ≤ _; exact Nat.le_of_eq rfl) (hb hby own_al_add_4_d20) (fun _ _ => ⟨rfl, e9, (by decide : 0 + 0 ≤ _), (by decide : 0 + 0 ≤ _)⟩)
  dsimp only [Pt.U, Pt.locs, Pt.cells, Pt.slots] at X13 l13 y13 z13 st13 hQ13
  obtain rfl : k13 = 0 := y13
  obtain rfl : n13 = 0 := z13
  obtain ⟨rfl, N13q, R13, P15, P16, P17, P18⟩ := hQ13
  have N13 : Fr n0 L13 := l13 ▸ Fr.app N3 N13q
  refine ownStep (fun _ k => st13.trans k) ?_
  have KP19 : Keep h0 T13.heap [a, dd] := KP4.trans R13 (allS (Or.inl (List.mem_of_getElem? (i := 0) rfl)) (allS (Or.inl (List.mem_of_getElem? (i := 1) rfl)) all0))
  refine ownStep (fun _ k => XS.iconst X13.here hx rfl (hb hby own_al_add_4_d23) k) ?_
  show ownGo p.tables e below (T13.setTop (mkF m 24 #[.val (.ref a), .val (.ref ee)] [(.int (1 : Int32))])) _
  exact ownRet X13 (v := some (.int (1 : Int32))) Bd.notSynchronized (fun h => by rw [Bd.returns] at h; cases h) (fun _ hr => retN X13 hx (t := .boolean) Bd.returns (by simp) (hb hby own_al_add_4_d24) hr) (⟨rfl, N13, KP19, P15, P16, P17, P18⟩) (by decide) (by decide)
theorem own_al_pchk_d0 : decode jdk_41_method_11_code 0 = .ok (.iload_n 0, 1) := by decide +kernel
theorem own_al_pchk_d1 : decode jdk_41_method_11_code 1 = .ok (.ifCond .lt 8, 3) := by decide +kernel
theorem own_al_pchk_d4 : decode jdk_41_method_11_code 4 = .ok (.iload_n 0, 1) := by decide +kernel
theorem own_al_pchk_d5 : decode jdk_41_method_11_code 5 = .ok (.iload_n 1, 1) := by decide +kernel
theorem own_al_pchk_d6 : decode jdk_41_method_11_code 6 = .ok (.if_icmp .lt 10, 3) := by decide +kernel
theorem own_al_pchk_d16 : decode jdk_41_method_11_code 16 = .ok (.iload_n 0, 1) := by decide +kernel
theorem own_al_pchk_d17 : decode jdk_41_method_11_code 17 = .ok (.ireturn, 1) := by decide +kernel
theorem own_al_pchk_pn : plainName "jdk/internal/util/Preconditions" = true := by first | (simp [plainName, overriddenIn]; done) | decide +kernel
theorem own_al_pchk_ef (m : MethodId) (x0 : Int32) (x1 : Int32) : entryFrame m #[(.int x0), (.int x1), .null] 3 = mkF m 0 #[.val (.int x0), .val (.int x1), .val .null] [] := by first | (simp [entryFrame, mkF, argsToLocals, Value.category]; done) | rfl
def own_al_pchk_Q (Z : State) (i : Int32) (n : Int32) (h0 : Heap) (n0 : Nat) (vv_ : Option Value) (hh_ : Heap) (LL_ : List Loc) : Prop := vv_ = some (.int i) ∧ Fr n0 LL_ ∧ hh_ = h0
set_option maxRecDepth 65536 in
set_option maxHeartbeats 40000000 in
theorem own_al_pchk (l : Launch) (Z : State) (a0 : Array Value) (hw : ∀ d ∈ tables_1, d.before a0 Z = true) (ws : List Jvm.Cond) (i : Int32) (n : Int32) (h0 : Heap) (n0 : Nat) (Z0 : n0 ≤ h0.size) (pl : ¬ i < (0 : Int32)) (ph : i < n) :
    MetFree l (⟨"jdk/internal/util/Preconditions", "checkIndex", "(IILjava/util/function/BiFunction;)I"⟩ : MethodName) (head1 (Jvm.Cond.code (⟨"jdk/internal/util/Preconditions", "checkIndex", "(IILjava/util/function/BiFunction;)I"⟩ : MethodName) jdk_41_method_11_code 3 (some .int) :: ws) ({ frames := 0, cells := 0, slots := 0, locals := 0 } : Room)) (fun aa_ UU_ => aa_ = #[(.int i), (.int n), .null] ∧ Z.Warmed39 UU_.vm ∧ UU_.heap = h0) (fun _ _ _ _ _ => True) (fun _ UU_ oo_ UV_ => ∃ vv_ LL_, oo_ = .returned vv_ ∧ own_al_pchk_Q Z i n h0 n0 vv_ UV_.heap LL_ ∧ FrameEnd UU_ oo_ UV_ LL_ ({ frames := 0, cells := 0, slots := 0, locals := 0 } : Room).cells ({ frames := 0, cells := 0, slots := 0, locals := 0 } : Room).slots) := by
  refine MetFree.of_bodySF (plainFor_of_name own_al_pchk_pn) hisR ?_
  intro p e s m args below meth c s₁ Bd hml0 hP hK
  obtain ⟨rfl, hZ, hh⟩ := hP
  have hx := Bd.exec
  have hby := Bd.bytes
  have hml : c.maxLocals = 3 := hml0
  have hown : s.vm.findClass "jdk/internal/util/Preconditions" = some m.cls := findClass_of_methodNamed Bd.named
  have hnm := (name_of_methodNamed Bd.named Bd.method).1
  have X0 : Stand p l e ({ frames := 0, cells := 0, slots := 0, locals := 0 } : Room) s m #[(.int i), (.int n), .null] below meth c s₁ [] 0 0 := Stand.of_body Bd
  have e0 : s₁.heap = h0 := by rw [← hh, Bd.state]; rfl
  have N0 := Fr.nil n0
  have KP0 : Keep h0 h0 [] := Keep.refl _ _
  refine ownFin (Q := own_al_pchk_Q Z i n h0 n0) ?_
  refine ownStep (fun _ k => castTop (own_al_pchk_ef m i n) k) ?_
  show ownGo p.tables e below (s₁.setTop (mkF m 0 #[.val (.int i), .val (.int n), .val .null] [])) _
  refine ownStep (fun _ k => XS.iloadN X0.here hx rfl (hb hby own_al_pchk_d0) rfl  k) ?_
  refine ownStep (fun _ k => XS.ifNo X0.here hx rfl (hb hby own_al_pchk_d1) rfl ((if0 _ _).trans (flt (pl : ¬ i < (0 : Int32))).1) k) ?_
  refine ownStep (fun _ k => XS.iloadN X0.here hx rfl (hb hby own_al_pchk_d4) rfl  k) ?_
  refine ownStep (fun _ k => XS.iloadN X0.here hx rfl (hb hby own_al_pchk_d5) rfl  k) ?_
  refine ownStep (fun _ k => XS.icmpYes X0.here hx rfl (pc0 := 6) (pc' := 16) rfl (hb hby own_al_pchk_d6) rfl (tlt (ph : i < n)).1 (by decide) (by decide) k) ?_
  show ownGo p.tables e below (s₁.setTop (mkF m 16 #[.val (.int i), .val (.int n), .val .null] [])) _
  refine ownStep (fun _ k => XS.iloadN X0.here hx rfl (hb hby own_al_pchk_d16) rfl  k) ?_
  show ownGo p.tables e below (s₁.setTop (mkF m 17 #[.val (.int i), .val (.int n), .val .null] [(.int i)])) _
  exact ownRet X0 (v := some (.int i)) Bd.notSynchronized (fun h => by rw [Bd.returns] at h; cases h) (fun _ hr => retI X0 hx Bd.returns (hb hby own_al_pchk_d17) hr) (by rw [e0]; exact ⟨rfl, N0, rfl⟩) (by decide) (by decide)
theorem own_al_chk_d0 : decode jdk_31_method_17_code 0 = .ok (.iload_n 0, 1) := by decide +kernel
theorem own_al_chk_d1 : decode jdk_31_method_17_code 1 = .ok (.iload_n 1, 1) := by decide +kernel
theorem own_al_chk_d2 : decode jdk_31_method_17_code 2 = .ok (.aconst_null, 1) := by decide +kernel
theorem own_al_chk_d3 : decode jdk_31_method_17_code 3 = .ok (.invokestatic 105, 3) := by decide +kernel
theorem own_al_chk_d6 : decode jdk_31_method_17_code 6 = .ok (.ireturn, 1) := by decide +kernel
theorem own_al_chk_pn : plainName "java/util/Objects" = true := by first | (simp [plainName, overriddenIn]; done) | decide +kernel
theorem own_al_chk_pd0 : parseMethodDescriptor "(IILjava/util/function/BiFunction;)I" = some ⟨[.int, .int, (.object "java/util/function/BiFunction")], some .int⟩ := by decide +kernel
theorem own_al_chk_ef (m : MethodId) (x0 : Int32) (x1 : Int32) : entryFrame m #[(.int x0), (.int x1)] 2 = mkF m 0 #[.val (.int x0), .val (.int x1)] [] := by first | (simp [entryFrame, mkF, argsToLocals, Value.category]; done) | rfl
def own_al_chk_Q (Z : State) (i : Int32) (n : Int32) (h0 : Heap) (n0 : Nat) (vv_ : Option Value) (hh_ : Heap) (LL_ : List Loc) : Prop := vv_ = some (.int i) ∧ Fr n0 LL_ ∧ hh_ = h0
set_option maxRecDepth 65536 in
set_option maxHeartbeats 40000000 in
theorem own_al_chk (l : Launch) (Z : State) (a0 : Array Value) (hw : ∀ d ∈ tables_1, d.before a0 Z = true) (ws : List Jvm.Cond) (i : Int32) (n : Int32) (h0 : Heap) (n0 : Nat) (Z0 : n0 ≤ h0.size) (pl : ¬ i < (0 : Int32)) (ph : i < n) :
    MetFree l (⟨"java/util/Objects", "checkIndex", "(II)I"⟩ : MethodName) (head1 (Jvm.Cond.code (⟨"java/util/Objects", "checkIndex", "(II)I"⟩ : MethodName) jdk_31_method_17_code 2 (some .int) :: ws) ({ frames := 1, cells := 0, slots := 0, locals := 14 } : Room)) (fun aa_ UU_ => aa_ = #[(.int i), (.int n)] ∧ Z.Warmed39 UU_.vm ∧ UU_.heap = h0) (fun _ _ _ _ _ => True) (fun _ UU_ oo_ UV_ => ∃ vv_ LL_, oo_ = .returned vv_ ∧ own_al_chk_Q Z i n h0 n0 vv_ UV_.heap LL_ ∧ FrameEnd UU_ oo_ UV_ LL_ ({ frames := 1, cells := 0, slots := 0, locals := 14 } : Room).cells ({ frames := 1, cells := 0, slots := 0, locals := 14 } : Room).slots) := by
  refine MetFree.of_bodySF (plainFor_of_name own_al_chk_pn) hisR ?_
  intro p e s m args below meth c s₁ Bd hml0 hP hK
  obtain ⟨rfl, hZ, hh⟩ := hP
  have hx := Bd.exec
  have hby := Bd.bytes
  have hml : c.maxLocals = 2 := hml0
  have hown : s.vm.findClass "java/util/Objects" = some m.cls := findClass_of_methodNamed Bd.named
  have hnm := (name_of_methodNamed Bd.named Bd.method).1
  have X0 : Stand p l e ({ frames := 1, cells := 0, slots := 0, locals := 14 } : Room) s m #[(.int i), (.int n)] below meth c s₁ [] 0 0 := Stand.of_body Bd
  have e0 : s₁.heap = h0 := by rw [← hh, Bd.state]; rfl
  have N0 := Fr.nil n0
  have KP0 : Keep h0 h0 [] := Keep.refl _ _
  refine ownFin (Q := own_al_chk_Q Z i n h0 n0) ?_
  refine ownStep (fun _ k => castTop (own_al_chk_ef m i n) k) ?_
  show ownGo p.tables e below (s₁.setTop (mkF m 0 #[.val (.int i), .val (.int n)] [])) _
  refine ownStep (fun _ k => XS.iloadN X0.here hx rfl (hb hby own_al_chk_d0) rfl  k) ?_
  refine ownStep (fun _ k => XS.iloadN X0.here hx rfl (hb hby own_al_chk_d1) rfl  k) ?_
  refine ownStep (fun _ k => XS.aconstNull X0.here hx rfl (hb hby own_al_chk_d2) k) ?_
  show ownGo p.tables e below (s₁.setTop (mkF m 3 #[.val (.int i), .val (.int n)] [.null, (.int n), (.int i)])) _
  have Zs2 : n0 ≤ h0.size := Nat.le_trans Z0 KP0.1
  obtain ⟨_, _, ⟨T1, L1, k1, n1⟩, -, X1, ⟨Lc1, hQ1, l1, y1, z1⟩, st1⟩ := Jvm.LawKit.callS X0 hx (y := (⟨"jdk/internal/util/Preconditions", "checkIndex", "(IILjava/util/function/BiFunction;)I"⟩ : MethodName)) hown (mvT hZ (hw _ (List.mem_of_getElem? (i := 97) rfl))) (mvT hZ (hw _ (List.mem_of_getElem? (i := 98) rfl))) (mvT hZ (hw _ (List.mem_of_getElem? (i := 99) rfl))) (mvT hZ (hw _ (List.mem_of_getElem? (i := 100) rfl))) (by decide) (backOf (W := 0) (own_al_pchk l Z a0 hw [] i n h0 n0 Zs2 pl ph) hZ (hw _ (List.mem_of_getElem? (i := 100) rfl)) (hw _ (List.mem_of_getElem? (i := 99) rfl)) (by decide) (by decide)) (g := (mkF m 3 #[.val (.int i), .val (.int n)] [.null, (.int n), (.int i)])) rfl (by rw [hml]; rfl) (argsL := [(.int i), (.int n), .null]) (rest := []) (lenOf own_al_chk_pd0 rfl) rfl (by show 2 * 0 + _ ≤ _; exact Nat.le_of_eq rfl) (hb hby own_al_chk_d3) (fun _ _ => ⟨rfl, e0, (by decide : 0 + 0 ≤ _), (by decide : 0 + 0 ≤ _)⟩)
  dsimp only [Pt.U, Pt.locs, Pt.cells, Pt.slots] at X1 l1 y1 z1 st1 hQ1
  obtain rfl : k1 = 0 := y1
  obtain rfl : n1 = 0 := z1
  obtain ⟨rfl, N1q, R1⟩ := hQ1
  have N1 : Fr n0 L1 := l1 ▸ Fr.app N0 N1q
  refine ownStep (fun _ k => st1 _ k) ?_
  show ownGo p.tables e below (T1.setTop (mkF m 6 #[.val (.int i), .val (.int n)] [(.int i)])) _
  exact ownRet X1 (v := some (.int i)) Bd.notSynchronized (fun h => by rw [Bd.returns] at h; cases h) (fun _ hr => retI X1 hx Bd.returns (hb hby own_al_chk_d6) hr) (by rw [R1]; exact ⟨rfl, N1, rfl⟩) (by decide) (by decide)
theorem own_al_ed_5_0_d0 : decode jdk_38_method_18_code 0 = .ok (.aload_n 0, 1) := by decide +kernel
theorem own_al_ed_5_0_d1 : decode jdk_38_method_18_code 1 = .ok (.getfield 9, 3) := by decide +kernel
theorem own_al_ed_5_0_d4 : decode jdk_38_method_18_code 4 = .ok (.iload_n 1, 1) := by decide +kernel
theorem own_al_ed_5_0_d5 : decode jdk_38_method_18_code 5 = .ok (.aaload, 1) := by decide +kernel
theorem own_al_ed_5_0_d6 : decode jdk_38_method_18_code 6 = .ok (.areturn, 1) := by decide +kernel
theorem own_al_ed_5_0_pn : plainName "java/util/ArrayList" = true := by first | (simp [plainName, overriddenIn]; done) | decide +kernel
theorem own_al_ed_5_0_ef (m : MethodId) (x0 : Addr) (x1 : Int32) : entryFrame m #[(.ref x0), (.int x1)] 2 = mkF m 0 #[.val (.ref x0), .val (.int x1)] [] := by first | (simp [entryFrame, mkF, argsToLocals, Value.category]; done) | rfl
def own_al_ed_5_0_Q (Z : State) (a : Addr) (dd : Addr) (kk : ClassId) (u1 : Value) (u2 : Value) (u3 : Value) (u4 : Value) (ee : Addr) (h0 : Heap) (n0 : Nat) (vv_ : Option Value) (hh_ : Heap) (LL_ : List Loc) : Prop := vv_ = some (.ref ee) ∧ Fr n0 LL_ ∧ hh_ = h0
set_option maxRecDepth 65536 in
set_option maxHeartbeats 40000000 in
theorem own_al_ed_5_0 (l : Launch) (Z : State) (a0 : Array Value) (hw : ∀ d ∈ tables_1, d.before a0 Z = true) (ws : List Jvm.Cond) (a : Addr) (dd : Addr) (kk : ClassId) (u1 : Value) (u2 : Value) (u3 : Value) (u4 : Value) (ee : Addr) (h0 : Heap) (n0 : Nat) (Z0 : n0 ≤ h0.size) (E : Exa Z h0 a "java/util/ArrayList") (Fe : Fld Z h0 a "java/util/ArrayList" "elementData" "[Ljava/lang/Object;" (.ref dd)) (Fs : Fld Z h0 a "java/util/ArrayList" "size" "I" (.int (5 : Int32))) (V : Arv Z h0 dd kk (.object "java/lang/Object") (10 : Int32) [(.ref ee), u1, u2, u3, u4, .null, .null, .null, .null, .null] .null) :
    MetFree l (⟨"java/util/ArrayList", "elementData", "(I)Ljava/lang/Object;"⟩ : MethodName) (head1 (Jvm.Cond.code (⟨"java/util/ArrayList", "elementData", "(I)Ljava/lang/Object;"⟩ : MethodName) jdk_38_method_18_code 2 (some (.object "java/lang/Object")) :: ws) ({ frames := 0, cells := 0, slots := 0, locals := 0 } : Room)) (fun aa_ UU_ => aa_ = #[(.ref a), (.int (0 : Int32))] ∧ Z.Warmed39 UU_.vm ∧ UU_.heap = h0) (fun _ _ _ _ _ => True) (fun _ UU_ oo_ UV_ => ∃ vv_ LL_, oo_ = .returned vv_ ∧ own_al_ed_5_0_Q Z a dd kk u1 u2 u3 u4 ee h0 n0 vv_ UV_.heap LL_ ∧ FrameEnd UU_ oo_ UV_ LL_ ({ frames := 0, cells := 0, slots := 0, locals := 0 } : Room).cells ({ frames := 0, cells := 0, slots := 0, locals := 0 } : Room).slots) := by
  refine MetFree.of_bodySF (plainFor_of_name own_al_ed_5_0_pn) hisR ?_
  intro p e s m args below meth c s₁ Bd hml0 hP hK
  obtain ⟨rfl, hZ, hh⟩ := hP
  have hx := Bd.exec
  have hby := Bd.bytes
  have hml : c.maxLocals = 2 := hml0
  have hown : s.vm.findClass "java/util/ArrayList" = some m.cls := findClass_of_methodNamed Bd.named
  have hnm := (name_of_methodNamed Bd.named Bd.method).1
  have X0 : Stand p l e ({ frames := 0, cells := 0, slots := 0, locals := 0 } : Room) s m #[(.ref a), (.int (0 : Int32))] below meth c s₁ [] 0 0 := Stand.of_body Bd
  have e0 : s₁.heap = h0 := by rw [← hh, Bd.state]; rfl
  have N0 := Fr.nil n0
  have KP0 : Keep h0 h0 [] := Keep.refl _ _
  refine ownFin (Q := own_al_ed_5_0_Q Z a dd kk u1 u2 u3 u4 ee h0 n0) ?_
  refine ownStep (fun _ k => castTop (own_al_ed_5_0_ef m a (0 : Int32)) k) ?_
  show ownGo p.tables e below (s₁.setTop (mkF m 0 #[.val (.ref a), .val (.int (0 : Int32))] [])) _
  refine ownStep (fun _ k => XS.aloadN X0.here hx rfl (hb hby own_al_ed_5_0_d0) rfl rfl k) ?_
  show ownGo p.tables e below (s₁.setTop (mkF m 1 #[.val (.ref a), .val (.int (0 : Int32))] [(.ref a)])) _
  obtain ⟨T1, X1, e1, st1⟩ := getF X0 hx hZ hown (host := "") (Or.inl (hw _ (List.mem_of_getElem? (i := 34) rfl))) Via.refl e0 Fe (g := (mkF m 1 #[.val (.ref a), .val (.int (0 : Int32))] [(.ref a)])) rfl rfl (hb hby own_al_ed_5_0_d1)
  refine ownStep st1 ?_
  refine ownStep (fun _ k => XS.iloadN X1.here hx rfl (hb hby own_al_ed_5_0_d4) rfl  k) ?_
  show ownGo p.tables e below (T1.setTop (mkF m 5 #[.val (.ref a), .val (.int (0 : Int32))] [(.int (0 : Int32)), (.ref dd)])) _
  have Vo2 := V
  obtain ⟨cl2, Ar2, q2, S2, N2, H2, G2⟩ := Vo2
  have hin2 : ¬ ((0 : Int32) < 0 ∨ cl2.slots.size ≤ ((0 : Int32)).toNatClampNeg) := inb_of S2 ⟨by decide, by decide⟩
  refine ownStep (X1.aaload hx (j := (0 : Int32)) (v := (.ref ee)) (by rw [e1]; exact Ar2.1) (State.isArrayOf_alike hZ.alike Ar2.2.1) rfl Ar2.2.2 hin2 (H2.at hin2 rfl) (g := (mkF m 5 #[.val (.ref a), .val (.int (0 : Int32))] [(.int (0 : Int32)), (.ref dd)])) rfl rfl (hb hby own_al_ed_5_0_d5)) ?_
  show ownGo p.tables e below (T1.setTop (mkF m 6 #[.val (.ref a), .val (.int (0 : Int32))] [(.ref ee)])) _
  exact ownRet X1 (v := some (.ref ee)) Bd.notSynchronized (fun h => by rw [Bd.returns] at h; cases h) (fun _ hr => retOut X1 hx (t := (.object "java/lang/Object")) Bd.returns rfl (Or.inr (Or.inr (Or.inr (Or.inr ⟨rfl, rfl, rfl⟩)))) (hb hby own_al_ed_5_0_d6) hr) (by rw [e1]; exact ⟨rfl, N0, rfl⟩) (by decide) (by decide)
theorem own_al_get_5_0_d0 : decode jdk_38_method_20_code 0 = .ok (.iload_n 1, 1) := by decide +kernel
theorem own_al_get_5_0_d1 : decode jdk_38_method_20_code 1 = .ok (.aload_n 0, 1) := by decide +kernel
theorem own_al_get_5_0_d2 : decode jdk_38_method_20_code 2 = .ok (.getfield 48, 3) := by decide +kernel
theorem own_al_get_5_0_d5 : decode jdk_38_method_20_code 5 = .ok (.invokestatic 118, 3) := by decide +kernel
theorem own_al_get_5_0_d8 : decode jdk_38_method_20_code 8 = .ok (.pop, 1) := by decide +kernel
theorem own_al_get_5_0_d9 : decode jdk_38_method_20_code 9 = .ok (.aload_n 0, 1) := by decide +kernel
theorem own_al_get_5_0_d10 : decode jdk_38_method_20_code 10 = .ok (.iload_n 1, 1) := by decide +kernel
theorem own_al_get_5_0_d11 : decode jdk_38_method_20_code 11 = .ok (.invokevirtual 123, 3) := by decide +kernel
theorem own_al_get_5_0_d14 : decode jdk_38_method_20_code 14 = .ok (.areturn, 1) := by decide +kernel
theorem own_al_get_5_0_pn : plainName "java/util/ArrayList" = true := by first | (simp [plainName, overriddenIn]; done) | decide +kernel
theorem own_al_get_5_0_pd0 : parseMethodDescriptor "(II)I" = some ⟨[.int, .int], some .int⟩ := by decide +kernel
theorem own_al_get_5_0_pd1 : parseMethodDescriptor "(I)Ljava/lang/Object;" = some ⟨[.int], some (.object "java/lang/Object")⟩ := by decide +kernel
theorem own_al_get_5_0_ef (m : MethodId) (x0 : Addr) (x1 : Int32) : entryFrame m #[(.ref x0), (.int x1)] 2 = mkF m 0 #[.val (.ref x0), .val (.int x1)] [] := by first | (simp [entryFrame, mkF, argsToLocals, Value.category]; done) | rfl
def own_al_get_5_0_Q (Z : State) (a : Addr) (dd : Addr) (kk : ClassId) (u1 : Value) (u2 : Value) (u3 : Value) (u4 : Value) (ee : Addr) (h0 : Heap) (n0 : Nat) (vv_ : Option Value) (hh_ : Heap) (LL_ : List Loc) : Prop := vv_ = some (.ref ee) ∧ Fr n0 LL_ ∧ hh_ = h0
set_option maxRecDepth 65536 in
set_option maxHeartbeats 40000000 in
theorem own_al_get_5_0 (l : Launch) (Z : State) (a0 : Array Value) (hw : ∀ d ∈ tables_1, d.before a0 Z = true) (ws : List Jvm.Cond) (a : Addr) (dd : Addr) (kk : ClassId) (u1 : Value) (u2 : Value) (u3 : Value) (u4 : Value) (ee : Addr) (h0 : Heap) (n0 : Nat) (Z0 : n0 ≤ h0.size) (E : Exa Z h0 a "java/util/ArrayList") (Fe : Fld Z h0 a "java/util/ArrayList" "elementData" "[Ljava/lang/Object;" (.ref dd)) (Fs : Fld Z h0 a "java/util/ArrayList" "size" "I" (.int (5 : Int32))) (V : Arv Z h0 dd kk (.object "java/lang/Object") (10 : Int32) [(.ref ee), u1, u2, u3, u4, .null, .null, .null, .null, .null] .null) :
    MetFree l (⟨"java/util/ArrayList", "get", "(I)Ljava/lang/Object;"⟩ : MethodName) (head1 (Jvm.Cond.code (⟨"java/util/ArrayList", "get", "(I)Ljava/lang/Object;"⟩ : MethodName) jdk_38_method_20_code 2 (some (.object "java/lang/Object")) :: ws) ({ frames := 2, cells := 0, slots := 0, locals := 27 } : Room)) (fun aa_ UU_ => aa_ = #[(.ref a), (.int (0 : Int32))] ∧ Z.Warmed39 UU_.vm ∧ UU_.heap = h0) (fun _ _ _ _ _ => True) (fun _ UU_ oo_ UV_ => ∃ vv_ LL_, oo_ = .returned vv_ ∧ own_al_get_5_0_Q Z a dd kk u1 u2 u3 u4 ee h0 n0 vv_ UV_.heap LL_ ∧ FrameEnd UU_ oo_ UV_ LL_ ({ frames := 2, cells := 0, slots := 0, locals := 27 } : Room).cells ({ frames := 2, cells := 0, slots := 0, locals := 27 } : Room).slots) := by
  refine MetFree.of_bodySF (plainFor_of_name own_al_get_5_0_pn) hisR ?_
  intro p e s m args below meth c s₁ Bd hml0 hP hK
  obtain ⟨rfl, hZ, hh⟩ := hP
  have hx := Bd.exec
  have hby := Bd.bytes
  have hml : c.maxLocals = 2 := hml0
  have hown : s.vm.findClass "java/util/ArrayList" = some m.cls := findClass_of_methodNamed Bd.named
  have hnm := (name_of_methodNamed Bd.named Bd.method).1
  have X0 : Stand p l e ({ frames := 2, cells := 0, slots := 0, locals := 27 } : Room) s m #[(.ref a), (.int (0 : Int32))] below meth c s₁ [] 0 0 := Stand.of_body Bd
  have e0 : s₁.heap = h0 := by rw [← hh, Bd.state]; rfl
  have N0 := Fr.nil n0
  have KP0 : Keep h0 h0 [] := Keep.refl _ _
  refine ownFin (Q := own_al_get_5_0_Q Z a dd kk u1 u2 u3 u4 ee h0 n0) ?_
  refine ownStep (fun _ k => castTop (own_al_get_5_0_ef m a (0 : Int32)) k) ?_
  show ownGo p.tables e below (s₁.setTop (mkF m 0 #[.val (.ref a), .val (.int (0 : Int32))] [])) _
  refine ownStep (fun _ k => XS.iloadN X0.here hx rfl (hb hby own_al_get_5_0_d0) rfl  k) ?_
  refine ownStep (fun _ k => XS.aloadN X0.here hx rfl (hb hby own_al_get_5_0_d1) rfl rfl k) ?_
  show ownGo p.tables e below (s₁.setTop (mkF m 2 #[.val (.ref a), .val (.int (0 : Int32))] [(.ref a), (.int (0 : Int32))])) _
  obtain ⟨T1, X1, e1, st1⟩ := getF X0 hx hZ hown (host := "") (Or.inl (hw _ (List.mem_of_getElem? (i := 61) rfl))) Via.refl e0 Fs (g := (mkF m 2 #[.val (.ref a), .val (.int (0 : Int32))] [(.ref a), (.int (0 : Int32))])) rfl rfl (hb hby own_al_get_5_0_d2)
  refine ownStep st1 ?_
  show ownGo p.tables e below (T1.setTop (mkF m 5 #[.val (.ref a), .val (.int (0 : Int32))] [(.int (5 : Int32)), (.int (0 : Int32))])) _
  have Zs3 : n0 ≤ h0.size := Nat.le_trans Z0 KP0.1
  obtain ⟨_, _, ⟨T2, L2, k2, n2⟩, -, X2, ⟨Lc2, hQ2, l2, y2, z2⟩, st2⟩ := Jvm.LawKit.callS X1 hx (y := (⟨"java/util/Objects", "checkIndex", "(II)I"⟩ : MethodName)) hown (mvT hZ (hw _ (List.mem_of_getElem? (i := 93) rfl))) (mvT hZ (hw _ (List.mem_of_getElem? (i := 94) rfl))) (mvT hZ (hw _ (List.mem_of_getElem? (i := 95) rfl))) (mvT hZ (hw _ (List.mem_of_getElem? (i := 96) rfl))) (by decide) (backOf (W := 0) (own_al_chk l Z a0 hw [] (0 : Int32) (5 : Int32) h0 n0 Zs3 (by decide) (by decide)) hZ (hw _ (List.mem_of_getElem? (i := 96) rfl)) (hw _ (List.mem_of_getElem? (i := 95) rfl)) (by decide) (by decide)) (g := (mkF m 5 #[.val (.ref a), .val (.int (0 : Int32))] [(.int (5 : Int32)), (.int (0 : Int32))])) rfl (by rw [hml]; rfl) (argsL := [(.int (0 : Int32)), (.int (5 : Int32))]) (rest := []) (lenOf own_al_get_5_0_pd0 rfl) rfl (by show 2 * 0 + _ ≤ _; exact Nat.le_of_eq rfl) (hb hby own_al_get_5_0_d5) (fun _ _ => ⟨rfl, e1, (by decide : 0 + 0 ≤ _), (by decide : 0 + 0 ≤ _)⟩)
  dsimp only [Pt.U, Pt.locs, Pt.cells, Pt.slots] at X2 l2 y2 z2 st2 hQ2
  obtain rfl : k2 = 0 := y2
  obtain rfl : n2 = 0 := z2
  obtain ⟨rfl, N2q, R2⟩ := hQ2
  have N2 : Fr n0 L2 := l2 ▸ Fr.app N0 N2q
  refine ownStep (fun _ k => st2 _ k) ?_
  refine ownStep (fun _ k => XS.pop X2.here hx rfl (hb hby own_al_get_5_0_d8) rfl rfl k) ?_
  refine ownStep (fun _ k => XS.aloadN X2.here hx rfl (hb hby own_al_get_5_0_d9) rfl rfl k) ?_
  refine ownStep (fun _ k => XS.iloadN X2.here hx rfl (hb hby own_al_get_5_0_d10) rfl  k) ?_
  show ownGo p.tables e below (T2.setTop (mkF m 11 #[.val (.ref a), .val (.int (0 : Int32))] [(.int (0 : Int32)), (.ref a)])) _
  have Zs5 : n0 ≤ h0.size := Nat.le_trans Z0 KP0.1
  obtain ⟨cq4, kq4, q4a, q4b, q4c⟩ := isOf hZ R2 E
  obtain ⟨_, _, ⟨T4, L4, k4, n4⟩, -, X4, ⟨Lc4, hQ4, l4, y4, z4⟩, st4⟩ := X2.virtualBack hx (y := (⟨"java/util/ArrayList", "elementData", "(I)Ljava/lang/Object;"⟩ : MethodName)) (z := (⟨"java/util/ArrayList", "elementData", "(I)Ljava/lang/Object;"⟩ : MethodName)) hown (mvT hZ (hw _ (List.mem_of_getElem? (i := 101) rfl))) (mvT hZ (hw _ (List.mem_of_getElem? (i := 102) rfl))) (notFace_of_selects (args := #[]) (mvT hZ (hw _ (List.mem_of_getElem? (i := 104) rfl)))) (mvT hZ (hw _ (List.mem_of_getElem? (i := 104) rfl))) (mvT hZ (hw _ (List.mem_of_getElem? (i := 103) rfl))) (by decide) (backOf (W := 0) (own_al_ed_5_0 l Z a0 hw [] a dd kk u1 u2 u3 u4 ee h0 n0 Zs5 E Fe Fs V) hZ (hw _ (List.mem_of_getElem? (i := 105) rfl)) (hw _ (List.mem_of_getElem? (i := 14) rfl)) (by decide) (by decide)) q4a q4c (g := (mkF m 11 #[.val (.ref a), .val (.int (0 : Int32))] [(.int (0 : Int32)), (.ref a)])) rfl (by rw [hml]; rfl) (Steps.refl _) (argsL := [(.int (0 : Int32))]) (rest := []) (lenOf own_al_get_5_0_pd1 rfl) rfl (by show 2 * 0 + _ ≤ _; exact Nat.le_of_eq rfl) (hb hby own_al_get_5_0_d11) (fun _ _ => ⟨rfl, R2, (by decide : 0 + 0 ≤ _), (by decide : 0 + 0 ≤ _)⟩)
  dsimp only [Pt.U, Pt.locs, Pt.cells, Pt.slots] at X4 l4 y4 z4 st4 hQ4
  obtain rfl : k4 = 0 := y4
  obtain rfl : n4 = 0 := z4
  obtain ⟨rfl, N4q, R4⟩ := hQ4
  have N4 : Fr n0 L4 := l4 ▸ Fr.app N2 N4q
  refine ownStep (fun _ k => st4.trans k) ?_
  show ownGo p.tables e below (T4.setTop (mkF m 14 #[.val (.ref a), .val (.int (0 : Int32))] [(.ref ee)])) _
  exact ownRet X4 (v := some (.ref ee)) Bd.notSynchronized (fun h => by rw [Bd.returns] at h; cases h) (fun _ hr => retOut X4 hx (t := (.object "java/lang/Object")) Bd.returns rfl (Or.inr (Or.inr (Or.inr (Or.inr ⟨rfl, rfl, rfl⟩)))) (hb hby own_al_get_5_0_d14) hr) (by rw [R4]; exact ⟨rfl, N4, rfl⟩) (by decide) (by decide)
theorem own_al_ed_5_1_d0 : decode jdk_38_method_18_code 0 = .ok (.aload_n 0, 1) := by decide +kernel
theorem own_al_ed_5_1_d1 : decode jdk_38_method_18_code 1 = .ok (.getfield 9, 3) := by decide +kernel
theorem own_al_ed_5_1_d4 : decode jdk_38_method_18_code 4 = .ok (.iload_n 1, 1) := by decide +kernel
theorem own_al_ed_5_1_d5 : decode jdk_38_method_18_code 5 = .ok (.aaload, 1) := by decide +kernel
theorem own_al_ed_5_1_d6 : decode jdk_38_method_18_code 6 = .ok (.areturn, 1) := by decide +kernel
theorem own_al_ed_5_1_pn : plainName "java/util/ArrayList" = true := by first | (simp [plainName, overriddenIn]; done) | decide +kernel
theorem own_al_ed_5_1_ef (m : MethodId) (x0 : Addr) (x1 : Int32) : entryFrame m #[(.ref x0), (.int x1)] 2 = mkF m 0 #[.val (.ref x0), .val (.int x1)] [] := by first | (simp [entryFrame, mkF, argsToLocals, Value.category]; done) | rfl
def own_al_ed_5_1_Q (Z : State) (a : Addr) (dd : Addr) (kk : ClassId) (u0 : Value) (u2 : Value) (u3 : Value) (u4 : Value) (ee : Addr) (h0 : Heap) (n0 : Nat) (vv_ : Option Value) (hh_ : Heap) (LL_ : List Loc) : Prop := vv_ = some (.ref ee) ∧ Fr n0 LL_ ∧ hh_ = h0
set_option maxRecDepth 65536 in
set_option maxHeartbeats 40000000 in
theorem own_al_ed_5_1 (l : Launch) (Z : State) (a0 : Array Value) (hw : ∀ d ∈ tables_1, d.before a0 Z = true) (ws : List Jvm.Cond) (a : Addr) (dd : Addr) (kk : ClassId) (u0 : Value) (u2 : Value) (u3 : Value) (u4 : Value) (ee : Addr) (h0 : Heap) (n0 : Nat) (Z0 : n0 ≤ h0.size) (E : Exa Z h0 a "java/util/ArrayList") (Fe : Fld Z h0 a "java/util/ArrayList" "elementData" "[Ljava/lang/Object;" (.ref dd)) (Fs : Fld Z h0 a "java/util/ArrayList" "size" "I" (.int (5 : Int32))) (V : Arv Z h0 dd kk (.object "java/lang/Object") (10 : Int32) [u0, (.ref ee), u2, u3, u4, .null, .null, .null, .null, .null] .null) :
    MetFree l (⟨"java/util/ArrayList", "elementData", "(I)Ljava/lang/Object;"⟩ : MethodName) (head1 (Jvm.Cond.code (⟨"java/util/ArrayList", "elementData", "(I)Ljava/lang/Object;"⟩ : MethodName) jdk_38_method_18_code 2 (some (.object "java/lang/Object")) :: ws) ({ frames := 0, cells := 0, slots := 0, locals := 0 } : Room)) (fun aa_ UU_ => aa_ = #[(.ref a), (.int (1 : Int32))] ∧ Z.Warmed39 UU_.vm ∧ UU_.heap = h0) (fun _ _ _ _ _ => True) (fun _ UU_ oo_ UV_ => ∃ vv_ LL_, oo_ = .returned vv_ ∧ own_al_ed_5_1_Q Z a dd kk u0 u2 u3 u4 ee h0 n0 vv_ UV_.heap LL_ ∧ FrameEnd UU_ oo_ UV_ LL_ ({ frames := 0, cells := 0, slots := 0, locals := 0 } : Room).cells ({ frames := 0, cells := 0, slots := 0, locals := 0 } : Room).slots) := by
  refine MetFree.of_bodySF (plainFor_of_name own_al_ed_5_1_pn) hisR ?_
  intro p e s m args below meth c s₁ Bd hml0 hP hK
  obtain ⟨rfl, hZ, hh⟩ := hP
  have hx := Bd.exec
  have hby := Bd.bytes
  have hml : c.maxLocals = 2 := hml0
  have hown : s.vm.findClass "java/util/ArrayList" = some m.cls := findClass_of_methodNamed Bd.named
  have hnm := (name_of_methodNamed Bd.named Bd.method).1
  have X0 : Stand p l e ({ frames := 0, cells := 0, slots := 0, locals := 0 } : Room) s m #[(.ref a), (.int (1 : Int32))] below meth c s₁ [] 0 0 := Stand.of_body Bd
  have e0 : s₁.heap = h0 := by rw [← hh, Bd.state]; rfl
  have N0 := Fr.nil n0
  have KP0 : Keep h0 h0 [] := Keep.refl _ _
  refine ownFin (Q := own_al_ed_5_1_Q Z a dd kk u0 u2 u3 u4 ee h0 n0) ?_
  refine ownStep (fun _ k => castTop (own_al_ed_5_1_ef m a (1 : Int32)) k) ?_
  show ownGo p.tables e below (s₁.setTop (mkF m 0 #[.val (.ref a), .val (.int (1 : Int32))] [])) _
  refine ownStep (fun _ k => XS.aloadN X0.here hx rfl (hb hby own_al_ed_5_1_d0) rfl rfl k) ?_
  show ownGo p.tables e below (s₁.setTop (mkF m 1 #[.val (.ref a), .val (.int (1 : Int32))] [(.ref a)])) _
  obtain ⟨T1, X1, e1, st1⟩ := getF X0 hx hZ hown (host := "") (Or.inl (hw _ (List.mem_of_getElem? (i := 34) rfl))) Via.refl e0 Fe (g := (mkF m 1 #[.val (.ref a), .val (.int (1 : Int32))] [(.ref a)])) rfl rfl (hb hby own_al_ed_5_1_d1)
  refine ownStep st1 ?_
  refine ownStep (fun _ k => XS.iloadN X1.here hx rfl (hb hby own_al_ed_5_1_d4) rfl  k) ?_
  show ownGo p.tables e below (T1.setTop (mkF m 5 #[.val (.ref a), .val (.int (1 : Int32))] [(.int (1 : Int32)), (.ref dd)])) _
  have Vo2 := V
  obtain ⟨cl2, Ar2, q2, S2, N2, H2, G2⟩ := Vo2
  have hin2 : ¬ ((1 : Int32) < 0 ∨ cl2.slots.size ≤ ((1 : Int32)).toNatClampNeg) := inb_of S2 ⟨by decide, by decide⟩
  refine ownStep (X1.aaload hx (j := (1 : Int32)) (v := (.ref ee)) (by rw [e1]; exact Ar2.1) (State.isArrayOf_alike hZ.alike Ar2.2.1) rfl Ar2.2.2 hin2 (H2.at hin2 rfl) (g := (mkF m 5 #[.val (.ref a), .val (.int (1 : Int32))] [(.int (1 : Int32)), (.ref dd)])) rfl rfl (hb hby own_al_ed_5_1_d5)) ?_
  show ownGo p.tables e below (T1.setTop (mkF m 6 #[.val (.ref a), .val (.int (1 : Int32))] [(.ref ee)])) _
  exact ownRet X1 (v := some (.ref ee)) Bd.notSynchronized (fun h => by rw [Bd.returns] at h; cases h) (fun _ hr => retOut X1 hx (t := (.object "java/lang/Object")) Bd.returns rfl (Or.inr (Or.inr (Or.inr (Or.inr ⟨rfl, rfl, rfl⟩)))) (hb hby own_al_ed_5_1_d6) hr) (by rw [e1]; exact ⟨rfl, N0, rfl⟩) (by decide) (by decide)
theorem own_al_get_5_1_d0 : decode jdk_38_method_20_code 0 = .ok (.iload_n 1, 1) := by decide +kernel
theorem own_al_get_5_1_d1 : decode jdk_38_method_20_code 1 = .ok (.aload_n 0, 1) := by decide +kernel
theorem own_al_get_5_1_d2 : decode jdk_38_method_20_code 2 = .ok (.getfield 48, 3) := by decide +kernel
theorem own_al_get_5_1_d5 : decode jdk_38_method_20_code 5 = .ok (.invokestatic 118, 3) := by decide +kernel
theorem own_al_get_5_1_d8 : decode jdk_38_method_20_code 8 = .ok (.pop, 1) := by decide +kernel
theorem own_al_get_5_1_d9 : decode jdk_38_method_20_code 9 = .ok (.aload_n 0, 1) := by decide +kernel
theorem own_al_get_5_1_d10 : decode jdk_38_method_20_code 10 = .ok (.iload_n 1, 1) := by decide +kernel
theorem own_al_get_5_1_d11 : decode jdk_38_method_20_code 11 = .ok (.invokevirtual 123, 3) := by decide +kernel
theorem own_al_get_5_1_d14 : decode jdk_38_method_20_code 14 = .ok (.areturn, 1) := by decide +kernel
theorem own_al_get_5_1_pn : plainName "java/util/ArrayList" = true := by first | (simp [plainName, overriddenIn]; done) | decide +kernel
theorem own_al_get_5_1_pd0 : parseMethodDescriptor "(II)I" = some ⟨[.int, .int], some .int⟩ := by decide +kernel
theorem own_al_get_5_1_pd1 : parseMethodDescriptor "(I)Ljava/lang/Object;" = some ⟨[.int], some (.object "java/lang/Object")⟩ := by decide +kernel
theorem own_al_get_5_1_ef (m : MethodId) (x0 : Addr) (x1 : Int32) : entryFrame m #[(.ref x0), (.int x1)] 2 = mkF m 0 #[.val (.ref x0), .val (.int x1)] [] := by first | (simp [entryFrame, mkF, argsToLocals, Value.category]; done) | rfl
def own_al_get_5_1_Q (Z : State) (a : Addr) (dd : Addr) (kk : ClassId) (u0 : Value) (u2 : Value) (u3 : Value) (u4 : Value) (ee : Addr) (h0 : Heap) (n0 : Nat) (vv_ : Option Value) (hh_ : Heap) (LL_ : List Loc) : Prop := vv_ = some (.ref ee) ∧ Fr n0 LL_ ∧ hh_ = h0
set_option maxRecDepth 65536 in
set_option maxHeartbeats 40000000 in
theorem own_al_get_5_1 (l : Launch) (Z : State) (a0 : Array Value) (hw : ∀ d ∈ tables_1, d.before a0 Z = true) (ws : List Jvm.Cond) (a : Addr) (dd : Addr) (kk : ClassId) (u0 : Value) (u2 : Value) (u3 : Value) (u4 : Value) (ee : Addr) (h0 : Heap) (n0 : Nat) (Z0 : n0 ≤ h0.size) (E : Exa Z h0 a "java/util/ArrayList") (Fe : Fld Z h0 a "java/util/ArrayList" "elementData" "[Ljava/lang/Object;" (.ref dd)) (Fs : Fld Z h0 a "java/util/ArrayList" "size" "I" (.int (5 : Int32))) (V : Arv Z h0 dd kk (.object "java/lang/Object") (10 : Int32) [u0, (.ref ee), u2, u3, u4, .null, .null, .null, .null, .null] .null) :
    MetFree l (⟨"java/util/ArrayList", "get", "(I)Ljava/lang/Object;"⟩ : MethodName) (head1 (Jvm.Cond.code (⟨"java/util/ArrayList", "get", "(I)Ljava/lang/Object;"⟩ : MethodName) jdk_38_method_20_code 2 (some (.object "java/lang/Object")) :: ws) ({ frames := 2, cells := 0, slots := 0, locals := 27 } : Room)) (fun aa_ UU_ => aa_ = #[(.ref a), (.int (1 : Int32))] ∧ Z.Warmed39 UU_.vm ∧ UU_.heap = h0) (fun _ _ _ _ _ => True) (fun _ UU_ oo_ UV_ => ∃ vv_ LL_, oo_ = .returned vv_ ∧ own_al_get_5_1_Q Z a dd kk u0 u2 u3 u4 ee h0 n0 vv_ UV_.heap LL_ ∧ FrameEnd UU_ oo_ UV_ LL_ ({ frames := 2, cells := 0, slots := 0, locals := 27 } : Room).cells ({ frames := 2, cells := 0, slots := 0, locals := 27 } : Room).slots) := by
  refine MetFree.of_bodySF (plainFor_of_name own_al_get_5_1_pn) hisR ?_
  intro p e s m args below meth c s₁ Bd hml0 hP hK
  obtain ⟨rfl, hZ, hh⟩ := hP
  have hx := Bd.exec
  have hby := Bd.bytes
  have hml : c.maxLocals = 2 := hml0
  have hown : s.vm.findClass "java/util/ArrayList" = some m.cls := findClass_of_methodNamed Bd.named
  have hnm := (name_of_methodNamed Bd.named Bd.method).1
  have X0 : Stand p l e ({ frames := 2, cells := 0, slots := 0, locals := 27 } : Room) s m #[(.ref a), (.int (1 : Int32))] below meth c s₁ [] 0 0 := Stand.of_body Bd
  have e0 : s₁.heap = h0 := by rw [← hh, Bd.state]; rfl
  have N0 := Fr.nil n0
  have KP0 : Keep h0 h0 [] := Keep.refl _ _
  refine ownFin (Q := own_al_get_5_1_Q Z a dd kk u0 u2 u3 u4 ee h0 n0) ?_
  refine ownStep (fun _ k => castTop (own_al_get_5_1_ef m a (1 : Int32)) k) ?_
  show ownGo p.tables e below (s₁.setTop (mkF m 0 #[.val (.ref a), .val (.int (1 : Int32))] [])) _
  refine ownStep (fun _ k => XS.iloadN X0.here hx rfl (hb hby own_al_get_5_1_d0) rfl  k) ?_
  refine ownStep (fun _ k => XS.aloadN X0.here hx rfl (hb hby own_al_get_5_1_d1) rfl rfl k) ?_
  show ownGo p.tables e below (s₁.setTop (mkF m 2 #[.val (.ref a), .val (.int (1 : Int32))] [(.ref a), (.int (1 : Int32))])) _
  obtain ⟨T1, X1, e1, st1⟩ := getF X0 hx hZ hown (host := "") (Or.inl (hw _ (List.mem_of_getElem? (i := 61) rfl))) Via.refl e0 Fs (g := (mkF m 2 #[.val (.ref a), .val (.int (1 : Int32))] [(.ref a), (.int (1 : Int32))])) rfl rfl (hb hby own_al_get_5_1_d2)
  refine ownStep st1 ?_
  show ownGo p.tables e below (T1.setTop (mkF m 5 #[.val (.ref a), .val (.int (1 : Int32))] [(.int (5 : Int32)), (.int (1 : Int32))])) _
  have Zs3 : n0 ≤ h0.size := Nat.le_trans Z0 KP0.1
  obtain ⟨_, _, ⟨T2, L2, k2, n2⟩, -, X2, ⟨Lc2, hQ2, l2, y2, z2⟩, st2⟩ := Jvm.LawKit.callS X1 hx (y := (⟨"java/util/Objects", "checkIndex", "(II)I"⟩ : MethodName)) hown (mvT hZ (hw _ (List.mem_of_getElem? (i := 93) rfl))) (mvT hZ (hw _ (List.mem_of_getElem? (i := 94) rfl))) (mvT hZ (hw _ (List.mem_of_getElem? (i := 95) rfl))) (mvT hZ (hw _ (List.mem_of_getElem? (i := 96) rfl))) (by decide) (backOf (W := 0) (own_al_chk l Z a0 hw [] (1 : Int32) (5 : Int32) h0 n0 Zs3 (by decide) (by decide)) hZ (hw _ (List.mem_of_getElem? (i := 96) rfl)) (hw _ (List.mem_of_getElem? (i := 95) rfl)) (by decide) (by decide)) (g := (mkF m 5 #[.val (.ref a), .val (.int (1 : Int32))] [(.int (5 : Int32)), (.int (1 : Int32))])) rfl (by rw [hml]; rfl) (argsL := [(.int (1 : Int32)), (.int (5 : Int32))]) (rest := []) (lenOf own_al_get_5_1_pd0 rfl) rfl (by show 2 * 0 + _ ≤ _; exact Nat.le_of_eq rfl) (hb hby own_al_get_5_1_d5) (fun _ _ => ⟨rfl, e1, (by decide : 0 + 0 ≤ _), (by decide : 0 + 0 ≤ _)⟩)
  dsimp only [Pt.U, Pt.locs, Pt.cells, Pt.slots] at X2 l2 y2 z2 st2 hQ2
  obtain rfl : k2 = 0 := y2
  obtain rfl : n2 = 0 := z2
  obtain ⟨rfl, N2q, R2⟩ := hQ2
  have N2 : Fr n0 L2 := l2 ▸ Fr.app N0 N2q
  refine ownStep (fun _ k => st2 _ k) ?_
  refine ownStep (fun _ k => XS.pop X2.here hx rfl (hb hby own_al_get_5_1_d8) rfl rfl k) ?_
  refine ownStep (fun _ k => XS.aloadN X2.here hx rfl (hb hby own_al_get_5_1_d9) rfl rfl k) ?_
  refine ownStep (fun _ k => XS.iloadN X2.here hx rfl (hb hby own_al_get_5_1_d10) rfl  k) ?_
  show ownGo p.tables e below (T2.setTop (mkF m 11 #[.val (.ref a), .val (.int (1 : Int32))] [(.int (1 : Int32)), (.ref a)])) _
  have Zs5 : n0 ≤ h0.size := Nat.le_trans Z0 KP0.1
  obtain ⟨cq4, kq4, q4a, q4b, q4c⟩ := isOf hZ R2 E
  obtain ⟨_, _, ⟨T4, L4, k4, n4⟩, -, X4, ⟨Lc4, hQ4, l4, y4, z4⟩, st4⟩ := X2.virtualBack hx (y := (⟨"java/util/ArrayList", "elementData", "(I)Ljava/lang/Object;"⟩ : MethodName)) (z := (⟨"java/util/ArrayList", "elementData", "(I)Ljava/lang/Object;"⟩ : MethodName)) hown (mvT hZ (hw _ (List.mem_of_getElem? (i := 101) rfl))) (mvT hZ (hw _ (List.mem_of_getElem? (i := 102) rfl))) (notFace_of_selects (args := #[]) (mvT hZ (hw _ (List.mem_of_getElem? (i := 104) rfl)))) (mvT hZ (hw _ (List.mem_of_getElem? (i := 104) rfl))) (mvT hZ (hw _ (List.mem_of_getElem? (i := 103) rfl))) (by decide) (backOf (W := 0) (own_al_ed_5_1 l Z a0 hw [] a dd kk u0 u2 u3 u4 ee h0 n0 Zs5 E Fe Fs V) hZ (hw _ (List.mem_of_getElem? (i := 105) rfl)) (hw _ (List.mem_of_getElem? (i := 14) rfl)) (by decide) (by decide)) q4a q4c (g := (mkF m 11 #[.val (.ref a), .val (.int (1 : Int32))] [(.int (1 : Int32)), (.ref a)])) rfl (by rw [hml]; rfl) (Steps.refl _) (argsL := [(.int (1 : Int32))]) (rest := []) (lenOf own_al_get_5_1_pd1 rfl) rfl (by show 2 * 0 + _ ≤ _; exact Nat.le_of_eq rfl) (hb hby own_al_get_5_1_d11) (fun _ _ => ⟨rfl, R2, (by decide : 0 + 0 ≤ _), (by decide : 0 + 0 ≤ _)⟩)
  dsimp only [Pt.U, Pt.locs, Pt.cells, Pt.slots] at X4 l4 y4 z4 st4 hQ4
  obtain rfl : k4 = 0 := y4
  obtain rfl : n4 = 0 := z4
  obtain ⟨rfl, N4q, R4⟩ := hQ4
  have N4 : Fr n0 L4 := l4 ▸ Fr.app N2 N4q
  refine ownStep (fun _ k => st4.trans k) ?_
  show ownGo p.tables e below (T4.setTop (mkF m 14 #[.val (.ref a), .val (.int (1 : Int32))] [(.ref ee)])) _
  exact ownRet X4 (v := some (.ref ee)) Bd.notSynchronized (fun h => by rw [Bd.returns] at h; cases h) (fun _ hr => retOut X4 hx (t := (.object "java/lang/Object")) Bd.returns rfl (Or.inr (Or.inr (Or.inr (Or.inr ⟨rfl, rfl, rfl⟩)))) (hb hby own_al_get_5_1_d14) hr) (by rw [R4]; exact ⟨rfl, N4, rfl⟩) (by decide) (by decide)
theorem own_al_ed_5_2_d0 : decode jdk_38_method_18_code 0 = .ok (.aload_n 0, 1) := by decide +kernel
theorem own_al_ed_5_2_d1 : decode jdk_38_method_18_code 1 = .ok (.getfield 9, 3) := by decide +kernel
theorem own_al_ed_5_2_d4 : decode jdk_38_method_18_code 4 = .ok (.iload_n 1, 1) := by decide +kernel
theorem own_al_ed_5_2_d5 : decode jdk_38_method_18_code 5 = .ok (.aaload, 1) := by decide +kernel
theorem own_al_ed_5_2_d6 : decode jdk_38_method_18_code 6 = .ok (.areturn, 1) := by decide +kernel
theorem own_al_ed_5_2_pn : plainName "java/util/ArrayList" = true := by first | (simp [plainName, overriddenIn]; done) | decide +kernel
theorem own_al_ed_5_2_ef (m : MethodId) (x0 : Addr) (x1 : Int32) : entryFrame m #[(.ref x0), (.int x1)] 2 = mkF m 0 #[.val (.ref x0), .val (.int x1)] [] := by first | (simp [entryFrame, mkF, argsToLocals, Value.category]; done) | rfl
def own_al_ed_5_2_Q (Z : State) (a : Addr) (dd : Addr) (kk : ClassId) (u0 : Value) (u1 : Value) (u3 : Value) (u4 : Value) (ee : Addr) (h0 : Heap) (n0 : Nat) (vv_ : Option Value) (hh_ : Heap) (LL_ : List Loc) : Prop := vv_ = some (.ref ee) ∧ Fr n0 LL_ ∧ hh_ = h0
set_option maxRecDepth 65536 in
set_option maxHeartbeats 40000000 in
theorem own_al_ed_5_2 (l : Launch) (Z : State) (a0 : Array Value) (hw : ∀ d ∈ tables_1, d.before a0 Z = true) (ws : List Jvm.Cond) (a : Addr) (dd : Addr) (kk : ClassId) (u0 : Value) (u1 : Value) (u3 : Value) (u4 : Value) (ee : Addr) (h0 : Heap) (n0 : Nat) (Z0 : n0 ≤ h0.size) (E : Exa Z h0 a "java/util/ArrayList") (Fe : Fld Z h0 a "java/util/ArrayList" "elementData" "[Ljava/lang/Object;" (.ref dd)) (Fs : Fld Z h0 a "java/util/ArrayList" "size" "I" (.int (5 : Int32))) (V : Arv Z h0 dd kk (.object "java/lang/Object") (10 : Int32) [u0, u1, (.ref ee), u3, u4, .null, .null, .null, .null, .null] .null) :
    MetFree l (⟨"java/util/ArrayList", "elementData", "(I)Ljava/lang/Object;"⟩ : MethodName) (head1 (Jvm.Cond.code (⟨"java/util/ArrayList", "elementData", "(I)Ljava/lang/Object;"⟩ : MethodName) jdk_38_method_18_code 2 (some (.object "java/lang/Object")) :: ws) ({ frames := 0, cells := 0, slots := 0, locals := 0 } : Room)) (fun aa_ UU_ => aa_ = #[(.ref a), (.int (2 : Int32))] ∧ Z.Warmed39 UU_.vm ∧ UU_.heap = h0) (fun _ _ _ _ _ => True) (fun _ UU_ oo_ UV_ => ∃ vv_ LL_, oo_ = .returned vv_ ∧ own_al_ed_5_2_Q Z a dd kk u0 u1 u3 u4 ee h0 n0 vv_ UV_.heap LL_ ∧ FrameEnd UU_ oo_ UV_ LL_ ({ frames := 0, cells := 0, slots := 0, locals := 0 } : Room).cells ({ frames := 0, cells := 0, slots := 0, locals := 0 } : Room).slots) := by
  refine MetFree.of_bodySF (plainFor_of_name own_al_ed_5_2_pn) hisR ?_
  intro p e s m args below meth c s₁ Bd hml0 hP hK
  obtain ⟨rfl, hZ, hh⟩ := hP
  have hx := Bd.exec
  have hby := Bd.bytes
  have hml : c.maxLocals = 2 := hml0
  have hown : s.vm.findClass "java/util/ArrayList" = some m.cls := findClass_of_methodNamed Bd.named
  have hnm := (name_of_methodNamed Bd.named Bd.method).1
  have X0 : Stand p l e ({ frames := 0, cells := 0, slots := 0, locals := 0 } : Room) s m #[(.ref a), (.int (2 : Int32))] below meth c s₁ [] 0 0 := Stand.of_body Bd
  have e0 : s₁.heap = h0 := by rw [← hh, Bd.state]; rfl
  have N0 := Fr.nil n0
  have KP0 : Keep h0 h0 [] := Keep.refl _ _
  refine ownFin (Q := own_al_ed_5_2_Q Z a dd kk u0 u1 u3 u4 ee h0 n0) ?_
  refine ownStep (fun _ k => castTop (own_al_ed_5_2_ef m a (2 : Int32)) k) ?_
  show ownGo p.tables e below (s₁.setTop (mkF m 0 #[.val (.ref a), .val (.int (2 : Int32))] [])) _
  refine ownStep (fun _ k => XS.aloadN X0.here hx rfl (hb hby own_al_ed_5_2_d0) rfl rfl k) ?_
  show ownGo p.tables e below (s₁.setTop (mkF m 1 #[.val (.ref a), .val (.int (2 : Int32))] [(.ref a)])) _
  obtain ⟨T1, X1, e1, st1⟩ := getF X0 hx hZ hown (host := "") (Or.inl (hw _ (List.mem_of_getElem? (i := 34) rfl))) Via.refl e0 Fe (g := (mkF m 1 #[.val (.ref a), .val (.int (2 : Int32))] [(.ref a)])) rfl rfl (hb hby own_al_ed_5_2_d1)
  refine ownStep st1 ?_
  refine ownStep (fun _ k => XS.iloadN X1.here hx rfl (hb hby own_al_ed_5_2_d4) rfl  k) ?_
  show ownGo p.tables e below (T1.setTop (mkF m 5 #[.val (.ref a), .val (.int (2 : Int32))] [(.int (2 : Int32)), (.ref dd)])) _
  have Vo2 := V
  obtain ⟨cl2, Ar2, q2, S2, N2, H2, G2⟩ := Vo2
  have hin2 : ¬ ((2 : Int32) < 0 ∨ cl2.slots.size ≤ ((2 : Int32)).toNatClampNeg) := inb_of S2 ⟨by decide, by decide⟩
  refine ownStep (X1.aaload hx (j := (2 : Int32)) (v := (.ref ee)) (by rw [e1]; exact Ar2.1) (State.isArrayOf_alike hZ.alike Ar2.2.1) rfl Ar2.2.2 hin2 (H2.at hin2 rfl) (g := (mkF m 5 #[.val (.ref a), .val (.int (2 : Int32))] [(.int (2 : Int32)), (.ref dd)])) rfl rfl (hb hby own_al_ed_5_2_d5)) ?_
  show ownGo p.tables e below (T1.setTop (mkF m 6 #[.val (.ref a), .val (.int (2 : Int32))] [(.ref ee)])) _
  exact ownRet X1 (v := some (.ref ee)) Bd.notSynchronized (fun h => by rw [Bd.returns] at h; cases h) (fun _ hr => retOut X1 hx (t := (.object "java/lang/Object")) Bd.returns rfl (Or.inr (Or.inr (Or.inr (Or.inr ⟨rfl, rfl, rfl⟩)))) (hb hby own_al_ed_5_2_d6) hr) (by rw [e1]; exact ⟨rfl, N0, rfl⟩) (by decide) (by decide)
theorem own_al_get_5_2_d0 : decode jdk_38_method_20_code 0 = .ok (.iload_n 1, 1) := by decide +kernel
theorem own_al_get_5_2_d1 : decode jdk_38_method_20_code 1 = .ok (.aload_n 0, 1) := by decide +kernel
theorem own_al_get_5_2_d2 : decode jdk_38_method_20_code 2 = .ok (.getfield 48, 3) := by decide +kernel
theorem own_al_get_5_2_d5 : decode jdk_38_method_20_code 5 = .ok (.invokestatic 118, 3) := by decide +kernel
theorem own_al_get_5_2_d8 : decode jdk_38_method_20_code 8 = .ok (.pop, 1) := by decide +kernel
theorem own_al_get_5_2_d9 : decode jdk_38_method_20_code 9 = .ok (.aload_n 0, 1) := by decide +kernel
theorem own_al_get_5_2_d10 : decode jdk_38_method_20_code 10 = .ok (.iload_n 1, 1) := by decide +kernel
theorem own_al_get_5_2_d11 : decode jdk_38_method_20_code 11 = .ok (.invokevirtual 123, 3) := by decide +kernel
theorem own_al_get_5_2_d14 : decode jdk_38_method_20_code 14 = .ok (.areturn, 1) := by decide +kernel
theorem own_al_get_5_2_pn : plainName "java/util/ArrayList" = true := by first | (simp [plainName, overriddenIn]; done) | decide +kernel
theorem own_al_get_5_2_pd0 : parseMethodDescriptor "(II)I" = some ⟨[.int, .int], some .int⟩ := by decide +kernel
theorem own_al_get_5_2_pd1 : parseMethodDescriptor "(I)Ljava/lang/Object;" = some ⟨[.int], some (.object "java/lang/Object")⟩ := by decide +kernel
theorem own_al_get_5_2_ef (m : MethodId) (x0 : Addr) (x1 : Int32) : entryFrame m #[(.ref x0), (.int x1)] 2 = mkF m 0 #[.val (.ref x0), .val (.int x1)] [] := by first | (simp [entryFrame, mkF, argsToLocals, Value.category]; done) | rfl
def own_al_get_5_2_Q (Z : State) (a : Addr) (dd : Addr) (kk : ClassId) (u0 : Value) (u1 : Value) (u3 : Value) (u4 : Value) (ee : Addr) (h0 : Heap) (n0 : Nat) (vv_ : Option Value) (hh_ : Heap) (LL_ : List Loc) : Prop := vv_ = some (.ref ee) ∧ Fr n0 LL_ ∧ hh_ = h0
set_option maxRecDepth 65536 in
set_option maxHeartbeats 40000000 in
theorem own_al_get_5_2 (l : Launch) (Z : State) (a0 : Array Value) (hw : ∀ d ∈ tables_1, d.before a0 Z = true) (ws : List Jvm.Cond) (a : Addr) (dd : Addr) (kk : ClassId) (u0 : Value) (u1 : Value) (u3 : Value) (u4 : Value) (ee : Addr) (h0 : Heap) (n0 : Nat) (Z0 : n0 ≤ h0.size) (E : Exa Z h0 a "java/util/ArrayList") (Fe : Fld Z h0 a "java/util/ArrayList" "elementData" "[Ljava/lang/Object;" (.ref dd)) (Fs : Fld Z h0 a "java/util/ArrayList" "size" "I" (.int (5 : Int32))) (V : Arv Z h0 dd kk (.object "java/lang/Object") (10 : Int32) [u0, u1, (.ref ee), u3, u4, .null, .null, .null, .null, .null] .null) :
    MetFree l (⟨"java/util/ArrayList", "get", "(I)Ljava/lang/Object;"⟩ : MethodName) (head1 (Jvm.Cond.code (⟨"java/util/ArrayList", "get", "(I)Ljava/lang/Object;"⟩ : MethodName) jdk_38_method_20_code 2 (some (.object "java/lang/Object")) :: ws) ({ frames := 2, cells := 0, slots := 0, locals := 27 } : Room)) (fun aa_ UU_ => aa_ = #[(.ref a), (.int (2 : Int32))] ∧ Z.Warmed39 UU_.vm ∧ UU_.heap = h0) (fun _ _ _ _ _ => True) (fun _ UU_ oo_ UV_ => ∃ vv_ LL_, oo_ = .returned vv_ ∧ own_al_get_5_2_Q Z a dd kk u0 u1 u3 u4 ee h0 n0 vv_ UV_.heap LL_ ∧ FrameEnd UU_ oo_ UV_ LL_ ({ frames := 2, cells := 0, slots := 0, locals := 27 } : Room).cells ({ frames := 2, cells := 0, slots := 0, locals := 27 } : Room).slots) := by
  refine MetFree.of_bodySF (plainFor_of_name own_al_get_5_2_pn) hisR ?_
  intro p e s m args below meth c s₁ Bd hml0 hP hK
  obtain ⟨rfl, hZ, hh⟩ := hP
  have hx := Bd.exec
  have hby := Bd.bytes
  have hml : c.maxLocals = 2 := hml0
  have hown : s.vm.findClass "java/util/ArrayList" = some m.cls := findClass_of_methodNamed Bd.named
  have hnm := (name_of_methodNamed Bd.named Bd.method).1
  have X0 : Stand p l e ({ frames := 2, cells := 0, slots := 0, locals := 27 } : Room) s m #[(.ref a), (.int (2 : Int32))] below meth c s₁ [] 0 0 := Stand.of_body Bd
  have e0 : s₁.heap = h0 := by rw [← hh, Bd.state]; rfl
  have N0 := Fr.nil n0
  have KP0 : Keep h0 h0 [] := Keep.refl _ _
  refine ownFin (Q := own_al_get_5_2_Q Z a dd kk u0 u1 u3 u4 ee h0 n0) ?_
  refine ownStep (fun _ k => castTop (own_al_get_5_2_ef m a (2 : Int32)) k) ?_
  show ownGo p.tables e below (s₁.setTop (mkF m 0 #[.val (.ref a), .val (.int (2 : Int32))] [])) _
  refine ownStep (fun _ k => XS.iloadN X0.here hx rfl (hb hby own_al_get_5_2_d0) rfl  k) ?_
  refine ownStep (fun _ k => XS.aloadN X0.here hx rfl (hb hby own_al_get_5_2_d1) rfl rfl k) ?_
  show ownGo p.tables e below (s₁.setTop (mkF m 2 #[.val (.ref a), .val (.int (2 : Int32))] [(.ref a), (.int (2 : Int32))])) _
  obtain ⟨T1, X1, e1, st1⟩ := getF X0 hx hZ hown (host := "") (Or.inl (hw _ (List.mem_of_getElem? (i := 61) rfl))) Via.refl e0 Fs (g := (mkF m 2 #[.val (.ref a), .val (.int (2 : Int32))] [(.ref a), (.int (2 : Int32))])) rfl rfl (hb hby own_al_get_5_2_d2)
  refine ownStep st1 ?_
  show ownGo p.tables e below (T1.setTop (mkF m 5 #[.val (.ref a), .val (.int (2 : Int32))] [(.int (5 : Int32)), (.int (2 : Int32))])) _
  have Zs3 : n0 ≤ h0.size := Nat.le_trans Z0 KP0.1
  obtain ⟨_, _, ⟨T2, L2, k2, n2⟩, -, X2, ⟨Lc2, hQ2, l2, y2, z2⟩, st2⟩ := Jvm.LawKit.callS X1 hx (y := (⟨"java/util/Objects", "checkIndex", "(II)I"⟩ : MethodName)) hown (mvT hZ (hw _ (List.mem_of_getElem? (i := 93) rfl))) (mvT hZ (hw _ (List.mem_of_getElem? (i := 94) rfl))) (mvT hZ (hw _ (List.mem_of_getElem? (i := 95) rfl))) (mvT hZ (hw _ (List.mem_of_getElem? (i := 96) rfl))) (by decide) (backOf (W := 0) (own_al_chk l Z a0 hw [] (2 : Int32) (5 : Int32) h0 n0 Zs3 (by decide) (by decide)) hZ (hw _ (List.mem_of_getElem? (i := 96) rfl)) (hw _ (List.mem_of_getElem? (i := 95) rfl)) (by decide) (by decide)) (g := (mkF m 5 #[.val (.ref a), .val (.int (2 : Int32))] [(.int (5 : Int32)), (.int (2 : Int32))])) rfl (by rw [hml]; rfl) (argsL := [(.int (2 : Int32)), (.int (5 : Int32))]) (rest := []) (lenOf own_al_get_5_2_pd0 rfl) rfl (by show 2 * 0 + _ ≤ _; exact Nat.le_of_eq rfl) (hb hby own_al_get_5_2_d5) (fun _ _ => ⟨rfl, e1, (by decide : 0 + 0 ≤ _), (by decide : 0 + 0 ≤ _)⟩)
  dsimp only [Pt.U, Pt.locs, Pt.cells, Pt.slots] at X2 l2 y2 z2 st2 hQ2
  obtain rfl : k2 = 0 := y2
  obtain rfl : n2 = 0 := z2
  obtain ⟨rfl, N2q, R2⟩ := hQ2
  have N2 : Fr n0 L2 := l2 ▸ Fr.app N0 N2q
  refine ownStep (fun _ k => st2 _ k) ?_
  refine ownStep (fun _ k => XS.pop X2.here hx rfl (hb hby own_al_get_5_2_d8) rfl rfl k) ?_
  refine ownStep (fun _ k => XS.aloadN X2.here hx rfl (hb hby own_al_get_5_2_d9) rfl rfl k) ?_
  refine ownStep (fun _ k => XS.iloadN X2.here hx rfl (hb hby own_al_get_5_2_d10) rfl  k) ?_
  show ownGo p.tables e below (T2.setTop (mkF m 11 #[.val (.ref a), .val (.int (2 : Int32))] [(.int (2 : Int32)), (.ref a)])) _
  have Zs5 : n0 ≤ h0.size := Nat.le_trans Z0 KP0.1
  obtain ⟨cq4, kq4, q4a, q4b, q4c⟩ := isOf hZ R2 E
  obtain ⟨_, _, ⟨T4, L4, k4, n4⟩, -, X4, ⟨Lc4, hQ4, l4, y4, z4⟩, st4⟩ := X2.virtualBack hx (y := (⟨"java/util/ArrayList", "elementData", "(I)Ljava/lang/Object;"⟩ : MethodName)) (z := (⟨"java/util/ArrayList", "elementData", "(I)Ljava/lang/Object;"⟩ : MethodName)) hown (mvT hZ (hw _ (List.mem_of_getElem? (i := 101) rfl))) (mvT hZ (hw _ (List.mem_of_getElem? (i := 102) rfl))) (notFace_of_selects (args := #[]) (mvT hZ (hw _ (List.mem_of_getElem? (i := 104) rfl)))) (mvT hZ (hw _ (List.mem_of_getElem? (i := 104) rfl))) (mvT hZ (hw _ (List.mem_of_getElem? (i := 103) rfl))) (by decide) (backOf (W := 0) (own_al_ed_5_2 l Z a0 hw [] a dd kk u0 u1 u3 u4 ee h0 n0 Zs5 E Fe Fs V) hZ (hw _ (List.mem_of_getElem? (i := 105) rfl)) (hw _ (List.mem_of_getElem? (i := 14) rfl)) (by decide) (by decide)) q4a q4c (g := (mkF m 11 #[.val (.ref a), .val (.int (2 : Int32))] [(.int (2 : Int32)), (.ref a)])) rfl (by rw [hml]; rfl) (Steps.refl _) (argsL := [(.int (2 : Int32))]) (rest := []) (lenOf own_al_get_5_2_pd1 rfl) rfl (by show 2 * 0 + _ ≤ _; exact Nat.le_of_eq rfl) (hb hby own_al_get_5_2_d11) (fun _ _ => ⟨rfl, R2, (by decide : 0 + 0 ≤ _), (by decide : 0 + 0 ≤ _)⟩)
  dsimp only [Pt.U, Pt.locs, Pt.cells, Pt.slots] at X4 l4 y4 z4 st4 hQ4
  obtain rfl : k4 = 0 := y4
  obtain rfl : n4 = 0 := z4
  obtain ⟨rfl, N4q, R4⟩ := hQ4
  have N4 : Fr n0 L4 := l4 ▸ Fr.app N2 N4q
  refine ownStep (fun _ k => st4.trans k) ?_
  show ownGo p.tables e below (T4.setTop (mkF m 14 #[.val (.ref a), .val (.int (2 : Int32))] [(.ref ee)])) _
  exact ownRet X4 (v := some (.ref ee)) Bd.notSynchronized (fun h => by rw [Bd.returns] at h; cases h) (fun _ hr => retOut X4 hx (t := (.object "java/lang/Object")) Bd.returns rfl (Or.inr (Or.inr (Or.inr (Or.inr ⟨rfl, rfl, rfl⟩)))) (hb hby own_al_get_5_2_d14) hr) (by rw [R4]; exact ⟨rfl, N4, rfl⟩) (by decide) (by decide)
theorem own_al_ed_5_3_d0 : decode jdk_38_method_18_code 0 = .ok (.aload_n 0, 1) := by decide +kernel
theorem own_al_ed_5_3_d1 : decode jdk_38_method_18_code 1 = .ok (.getfield 9, 3) := by decide +kernel
theorem own_al_ed_5_3_d4 : decode jdk_38_method_18_code 4 = .ok (.iload_n 1, 1) := by decide +kernel
theorem own_al_ed_5_3_d5 : decode jdk_38_method_18_code 5 = .ok (.aaload, 1) := by decide +kernel
theorem own_al_ed_5_3_d6 : decode jdk_38_method_18_code 6 = .ok (.areturn, 1) := by decide +kernel
theorem own_al_ed_5_3_pn : plainName "java/util/ArrayList" = true := by first | (simp [plainName, overriddenIn]; done) | decide +kernel
theorem own_al_ed_5_3_ef (m : MethodId) (x0 : Addr) (x1 : Int32) : entryFrame m #[(.ref x0), (.int x1)] 2 = mkF m 0 #[.val (.ref x0), .val (.int x1)] [] := by first | (simp [entryFrame, mkF, argsToLocals, Value.category]; done) | rfl
def own_al_ed_5_3_Q (Z : State) (a : Addr) (dd : Addr) (kk : ClassId) (u0 : Value) (u1 : Value) (u2 : Value) (u4 : Value) (ee : Addr) (h0 : Heap) (n0 : Nat) (vv_ : Option Value) (hh_ : Heap) (LL_ : List Loc) : Prop := vv_ = some (.ref ee) ∧ Fr n0 LL_ ∧ hh_ = h0
set_option maxRecDepth 65536 in
set_option maxHeartbeats 40000000 in
theorem own_al_ed_5_3 (l : Launch) (Z : State) (a0 : Array Value) (hw : ∀ d ∈ tables_1, d.before a0 Z = true) (ws : List Jvm.Cond) (a : Addr) (dd : Addr) (kk : ClassId) (u0 : Value) (u1 : Value) (u2 : Value) (u4 : Value) (ee : Addr) (h0 : Heap) (n0 : Nat) (Z0 : n0 ≤ h0.size) (E : Exa Z h0 a "java/util/ArrayList") (Fe : Fld Z h0 a "java/util/ArrayList" "elementData" "[Ljava/lang/Object;" (.ref dd)) (Fs : Fld Z h0 a "java/util/ArrayList" "size" "I" (.int (5 : Int32))) (V : Arv Z h0 dd kk (.object "java/lang/Object") (10 : Int32) [u0, u1, u2, (.ref ee), u4, .null, .null, .null, .null, .null] .null) :
    MetFree l (⟨"java/util/ArrayList", "elementData", "(I)Ljava/lang/Object;"⟩ : MethodName) (head1 (Jvm.Cond.code (⟨"java/util/ArrayList", "elementData", "(I)Ljava/lang/Object;"⟩ : MethodName) jdk_38_method_18_code 2 (some (.object "java/lang/Object")) :: ws) ({ frames := 0, cells := 0, slots := 0, locals := 0 } : Room)) (fun aa_ UU_ => aa_ = #[(.ref a), (.int (3 : Int32))] ∧ Z.Warmed39 UU_.vm ∧ UU_.heap = h0) (fun _ _ _ _ _ => True) (fun _ UU_ oo_ UV_ => ∃ vv_ LL_, oo_ = .returned vv_ ∧ own_al_ed_5_3_Q Z a dd kk u0 u1 u2 u4 ee h0 n0 vv_ UV_.heap LL_ ∧ FrameEnd UU_ oo_ UV_ LL_ ({ frames := 0, cells := 0, slots := 0, locals := 0 } : Room).cells ({ frames := 0, cells := 0, slots := 0, locals := 0 } : Room).slots) := by
  refine MetFree.of_bodySF (plainFor_of_name own_al_ed_5_3_pn) hisR ?_
  intro p e s m args below meth c s₁ Bd hml0 hP hK
  obtain ⟨rfl, hZ, hh⟩ := hP
  have hx := Bd.exec
  have hby := Bd.bytes
  have hml : c.maxLocals = 2 := hml0
  have hown : s.vm.findClass "java/util/ArrayList" = some m.cls := findClass_of_methodNamed Bd.named
  have hnm := (name_of_methodNamed Bd.named Bd.method).1
  have X0 : Stand p l e ({ frames := 0, cells := 0, slots := 0, locals := 0 } : Room) s m #[(.ref a), (.int (3 : Int32))] below meth c s₁ [] 0 0 := Stand.of_body Bd
  have e0 : s₁.heap = h0 := by rw [← hh, Bd.state]; rfl
  have N0 := Fr.nil n0
  have KP0 : Keep h0 h0 [] := Keep.refl _ _
  refine ownFin (Q := own_al_ed_5_3_Q Z a dd kk u0 u1 u2 u4 ee h0 n0) ?_
  refine ownStep (fun _ k => castTop (own_al_ed_5_3_ef m a (3 : Int32)) k) ?_
  show ownGo p.tables e below (s₁.setTop (mkF m 0 #[.val (.ref a), .val (.int (3 : Int32))] [])) _
  refine ownStep (fun _ k => XS.aloadN X0.here hx rfl (hb hby own_al_ed_5_3_d0) rfl rfl k) ?_
  show ownGo p.tables e below (s₁.setTop (mkF m 1 #[.val (.ref a), .val (.int (3 : Int32))] [(.ref a)])) _
  obtain ⟨T1, X1, e1, st1⟩ := getF X0 hx hZ hown (host := "") (Or.inl (hw _ (List.mem_of_getElem? (i := 34) rfl))) Via.refl e0 Fe (g := (mkF m 1 #[.val (.ref a), .val (.int (3 : Int32))] [(.ref a)])) rfl rfl (hb hby own_al_ed_5_3_d1)
  refine ownStep st1 ?_
  refine ownStep (fun _ k => XS.iloadN X1.here hx rfl (hb hby own_al_ed_5_3_d4) rfl  k) ?_
  show ownGo p.tables e below (T1.setTop (mkF m 5 #[.val (.ref a), .val (.int (3 : Int32))] [(.int (3 : Int32)), (.ref dd)])) _
  have Vo2 := V
  obtain ⟨cl2, Ar2, q2, S2, N2, H2, G2⟩ := Vo2
  have hin2 : ¬ ((3 : Int32) < 0 ∨ cl2.slots.size ≤ ((3 : Int32)).toNatClampNeg) := inb_of S2 ⟨by decide, by decide⟩
  refine ownStep (X1.aaload hx (j := (3 : Int32)) (v := (.ref ee)) (by rw [e1]; exact Ar2.1) (State.isArrayOf_alike hZ.alike Ar2.2.1) rfl Ar2.2.2 hin2 (H2.at hin2 rfl) (g := (mkF m 5 #[.val (.ref a), .val (.int (3 : Int32))] [(.int (3 : Int32)), (.ref dd)])) rfl rfl (hb hby own_al_ed_5_3_d5)) ?_
  show ownGo p.tables e below (T1.setTop (mkF m 6 #[.val (.ref a), .val (.int (3 : Int32))] [(.ref ee)])) _
  exact ownRet X1 (v := some (.ref ee)) Bd.notSynchronized (fun h => by rw [Bd.returns] at h; cases h) (fun _ hr => retOut X1 hx (t := (.object "java/lang/Object")) Bd.returns rfl (Or.inr (Or.inr (Or.inr (Or.inr ⟨rfl, rfl, rfl⟩)))) (hb hby own_al_ed_5_3_d6) hr) (by rw [e1]; exact ⟨rfl, N0, rfl⟩) (by decide) (by decide)
theorem own_al_get_5_3_d0 : decode jdk_38_method_20_code 0 = .ok (.iload_n 1, 1) := by decide +kernel
theorem own_al_get_5_3_d1 : decode jdk_38_method_20_code 1 = .ok (.aload_n 0, 1) := by decide +kernel
theorem own_al_get_5_3_d2 : decode jdk_38_method_20_code 2 = .ok (.getfield 48, 3) := by decide +kernel
theorem own_al_get_5_3_d5 : decode jdk_38_method_20_code 5 = .ok (.invokestatic 118, 3) := by decide +kernel
theorem own_al_get_5_3_d8 : decode jdk_38_method_20_code 8 = .ok (.pop, 1) := by decide +kernel
theorem own_al_get_5_3_d9 : decode jdk_38_method_20_code 9 = .ok (.aload_n 0, 1) := by decide +kernel
theorem own_al_get_5_3_d10 : decode jdk_38_method_20_code 10 = .ok (.iload_n 1, 1) := by decide +kernel
theorem own_al_get_5_3_d11 : decode jdk_38_method_20_code 11 = .ok (.invokevirtual 123, 3) := by decide +kernel
theorem own_al_get_5_3_d14 : decode jdk_38_method_20_code 14 = .ok (.areturn, 1) := by decide +kernel
theorem own_al_get_5_3_pn : plainName "java/util/ArrayList" = true := by first | (simp [plainName, overriddenIn]; done) | decide +kernel
theorem own_al_get_5_3_pd0 : parseMethodDescriptor "(II)I" = some ⟨[.int, .int], some .int⟩ := by decide +kernel
theorem own_al_get_5_3_pd1 : parseMethodDescriptor "(I)Ljava/lang/Object;" = some ⟨[.int], some (.object "java/lang/Object")⟩ := by decide +kernel
theorem own_al_get_5_3_ef (m : MethodId) (x0 : Addr) (x1 : Int32) : entryFrame m #[(.ref x0), (.int x1)] 2 = mkF m 0 #[.val (.ref x0), .val (.int x1)] [] := by first | (simp [entryFrame, mkF, argsToLocals, Value.category]; done) | rfl
def own_al_get_5_3_Q (Z : State) (a : Addr) (dd : Addr) (kk : ClassId) (u0 : Value) (u1 : Value) (u2 : Value) (u4 : Value) (ee : Addr) (h0 : Heap) (n0 : Nat) (vv_ : Option Value) (hh_ : Heap) (LL_ : List Loc) : Prop := vv_ = some (.ref ee) ∧ Fr n0 LL_ ∧ hh_ = h0
set_option maxRecDepth 65536 in
set_option maxHeartbeats 40000000 in
theorem own_al_get_5_3 (l : Launch) (Z : State) (a0 : Array Value) (hw : ∀ d ∈ tables_1, d.before a0 Z = true) (ws : List Jvm.Cond) (a : Addr) (dd : Addr) (kk : ClassId) (u0 : Value) (u1 : Value) (u2 : Value) (u4 : Value) (ee : Addr) (h0 : Heap) (n0 : Nat) (Z0 : n0 ≤ h0.size) (E : Exa Z h0 a "java/util/ArrayList") (Fe : Fld Z h0 a "java/util/ArrayList" "elementData" "[Ljava/lang/Object;" (.ref dd)) (Fs : Fld Z h0 a "java/util/ArrayList" "size" "I" (.int (5 : Int32))) (V : Arv Z h0 dd kk (.object "java/lang/Object") (10 : Int32) [u0, u1, u2, (.ref ee), u4, .null, .null, .null, .null, .null] .null) :
    MetFree l (⟨"java/util/ArrayList", "get", "(I)Ljava/lang/Object;"⟩ : MethodName) (head1 (Jvm.Cond.code (⟨"java/util/ArrayList", "get", "(I)Ljava/lang/Object;"⟩ : MethodName) jdk_38_method_20_code 2 (some (.object "java/lang/Object")) :: ws) ({ frames := 2, cells := 0, slots := 0, locals := 27 } : Room)) (fun aa_ UU_ => aa_ = #[(.ref a), (.int (3 : Int32))] ∧ Z.Warmed39 UU_.vm ∧ UU_.heap = h0) (fun _ _ _ _ _ => True) (fun _ UU_ oo_ UV_ => ∃ vv_ LL_, oo_ = .returned vv_ ∧ own_al_get_5_3_Q Z a dd kk u0 u1 u2 u4 ee h0 n0 vv_ UV_.heap LL_ ∧ FrameEnd UU_ oo_ UV_ LL_ ({ frames := 2, cells := 0, slots := 0, locals := 27 } : Room).cells ({ frames := 2, cells := 0, slots := 0, locals := 27 } : Room).slots) := by
  refine MetFree.of_bodySF (plainFor_of_name own_al_get_5_3_pn) hisR ?_
  intro p e s m args below meth c s₁ Bd hml0 hP hK
  obtain ⟨rfl, hZ, hh⟩ := hP
  have hx := Bd.exec
  have hby := Bd.bytes
  have hml : c.maxLocals = 2 := hml0
  have hown : s.vm.findClass "java/util/ArrayList" = some m.cls := findClass_of_methodNamed Bd.named
  have hnm := (name_of_methodNamed Bd.named Bd.method).1
  have X0 : Stand p l e ({ frames := 2, cells := 0, slots := 0, locals := 27 } : Room) s m #[(.ref a), (.int (3 : Int32))] below meth c s₁ [] 0 0 := Stand.of_body Bd
  have e0 : s₁.heap = h0 := by rw [← hh, Bd.state]; rfl
  have N0 := Fr.nil n0
  have KP0 : Keep h0 h0 [] := Keep.refl _ _
  refine ownFin (Q := own_al_get_5_3_Q Z a dd kk u0 u1 u2 u4 ee h0 n0) ?_
  refine ownStep (fun _ k => castTop (own_al_get_5_3_ef m a (3 : Int32)) k) ?_
  show ownGo p.tables e below (s₁.setTop (mkF m 0 #[.val (.ref a), .val (.int (3 : Int32))] [])) _
  refine ownStep (fun _ k => XS.iloadN X0.here hx rfl (hb hby own_al_get_5_3_d0) rfl  k) ?_
  refine ownStep (fun _ k => XS.aloadN X0.here hx rfl (hb hby own_al_get_5_3_d1) rfl rfl k) ?_
  show ownGo p.tables e below (s₁.setTop (mkF m 2 #[.val (.ref a), .val (.int (3 : Int32))] [(.ref a), (.int (3 : Int32))])) _
  obtain ⟨T1, X1, e1, st1⟩ := getF X0 hx hZ hown (host := "") (Or.inl (hw _ (List.mem_of_getElem? (i := 61) rfl))) Via.refl e0 Fs (g := (mkF m 2 #[.val (.ref a), .val (.int (3 : Int32))] [(.ref a), (.int (3 : Int32))])) rfl rfl (hb hby own_al_get_5_3_d2)
  refine ownStep st1 ?_
  show ownGo p.tables e below (T1.setTop (mkF m 5 #[.val (.ref a), .val (.int (3 : Int32))] [(.int (5 : Int32)), (.int (3 : Int32))])) _
  have Zs3 : n0 ≤ h0.size := Nat.le_trans Z0 KP0.1
  obtain ⟨_, _, ⟨T2, L2, k2, n2⟩, -, X2, ⟨Lc2, hQ2, l2, y2, z2⟩, st2⟩ := Jvm.LawKit.callS X1 hx (y := (⟨"java/util/Objects", "checkIndex", "(II)I"⟩ : MethodName)) hown (mvT hZ (hw _ (List.mem_of_getElem? (i := 93) rfl))) (mvT hZ (hw _ (List.mem_of_getElem? (i := 94) rfl))) (mvT hZ (hw _ (List.mem_of_getElem? (i := 95) rfl))) (mvT hZ (hw _ (List.mem_of_getElem? (i := 96) rfl))) (by decide) (backOf (W := 0) (own_al_chk l Z a0 hw [] (3 : Int32) (5 : Int32) h0 n0 Zs3 (by decide) (by decide)) hZ (hw _ (List.mem_of_getElem? (i := 96) rfl)) (hw _ (List.mem_of_getElem? (i := 95) rfl)) (by decide) (by decide)) (g := (mkF m 5 #[.val (.ref a), .val (.int (3 : Int32))] [(.int (5 : Int32)), (.int (3 : Int32))])) rfl (by rw [hml]; rfl) (argsL := [(.int (3 : Int32)), (.int (5 : Int32))]) (rest := []) (lenOf own_al_get_5_3_pd0 rfl) rfl (by show 2 * 0 + _ ≤ _; exact Nat.le_of_eq rfl) (hb hby own_al_get_5_3_d5) (fun _ _ => ⟨rfl, e1, (by decide : 0 + 0 ≤ _), (by decide : 0 + 0 ≤ _)⟩)
  dsimp only [Pt.U, Pt.locs, Pt.cells, Pt.slots] at X2 l2 y2 z2 st2 hQ2
  obtain rfl : k2 = 0 := y2
  obtain rfl : n2 = 0 := z2
  obtain ⟨rfl, N2q, R2⟩ := hQ2
  have N2 : Fr n0 L2 := l2 ▸ Fr.app N0 N2q
  refine ownStep (fun _ k => st2 _ k) ?_
  refine ownStep (fun _ k => XS.pop X2.here hx rfl (hb hby own_al_get_5_3_d8) rfl rfl k) ?_
  refine ownStep (fun _ k => XS.aloadN X2.here hx rfl (hb hby own_al_get_5_3_d9) rfl rfl k) ?_
  refine ownStep (fun _ k => XS.iloadN X2.here hx rfl (hb hby own_al_get_5_3_d10) rfl  k) ?_
  show ownGo p.tables e below (T2.setTop (mkF m 11 #[.val (.ref a), .val (.int (3 : Int32))] [(.int (3 : Int32)), (.ref a)])) _
  have Zs5 : n0 ≤ h0.size := Nat.le_trans Z0 KP0.1
  obtain ⟨cq4, kq4, q4a, q4b, q4c⟩ := isOf hZ R2 E
  obtain ⟨_, _, ⟨T4, L4, k4, n4⟩, -, X4, ⟨Lc4, hQ4, l4, y4, z4⟩, st4⟩ := X2.virtualBack hx (y := (⟨"java/util/ArrayList", "elementData", "(I)Ljava/lang/Object;"⟩ : MethodName)) (z := (⟨"java/util/ArrayList", "elementData", "(I)Ljava/lang/Object;"⟩ : MethodName)) hown (mvT hZ (hw _ (List.mem_of_getElem? (i := 101) rfl))) (mvT hZ (hw _ (List.mem_of_getElem? (i := 102) rfl))) (notFace_of_selects (args := #[]) (mvT hZ (hw _ (List.mem_of_getElem? (i := 104) rfl)))) (mvT hZ (hw _ (List.mem_of_getElem? (i := 104) rfl))) (mvT hZ (hw _ (List.mem_of_getElem? (i := 103) rfl))) (by decide) (backOf (W := 0) (own_al_ed_5_3 l Z a0 hw [] a dd kk u0 u1 u2 u4 ee h0 n0 Zs5 E Fe Fs V) hZ (hw _ (List.mem_of_getElem? (i := 105) rfl)) (hw _ (List.mem_of_getElem? (i := 14) rfl)) (by decide) (by decide)) q4a q4c (g := (mkF m 11 #[.val (.ref a), .val (.int (3 : Int32))] [(.int (3 : Int32)), (.ref a)])) rfl (by rw [hml]; rfl) (Steps.refl _) (argsL := [(.int (3 : Int32))]) (rest := []) (lenOf own_al_get_5_3_pd1 rfl) rfl (by show 2 * 0 + _ ≤ _; exact Nat.le_of_eq rfl) (hb hby own_al_get_5_3_d11) (fun _ _ => ⟨rfl, R2, (by decide : 0 + 0 ≤ _), (by decide : 0 + 0 ≤ _)⟩)
  dsimp only [Pt.U, Pt.locs, Pt.cells, Pt.slots] at X4 l4 y4 z4 st4 hQ4
  obtain rfl : k4 = 0 := y4
  obtain rfl : n4 = 0 := z4
  obtain ⟨rfl, N4q, R4⟩ := hQ4
  have N4 : Fr n0 L4 := l4 ▸ Fr.app N2 N4q
  refine ownStep (fun _ k => st4.trans k) ?_
  show ownGo p.tables e below (T4.setTop (mkF m 14 #[.val (.ref a), .val (.int (3 : Int32))] [(.ref ee)])) _
  exact ownRet X4 (v := some (.ref ee)) Bd.notSynchronized (fun h => by rw [Bd.returns] at h; cases h) (fun _ hr => retOut X4 hx (t := (.object "java/lang/Object")) Bd.returns rfl (Or.inr (Or.inr (Or.inr (Or.inr ⟨rfl, rfl, rfl⟩)))) (hb hby own_al_get_5_3_d14) hr) (by rw [R4]; exact ⟨rfl, N4, rfl⟩) (by decide) (by decide)
theorem own_al_add3S_d0 : decode jdk_38_method_24_code 0 = .ok (.iload_n 3, 1) := by decide +kernel
theorem own_al_add3S_d1 : decode jdk_38_method_24_code 1 = .ok (.aload_n 2, 1) := by decide +kernel
theorem own_al_add3S_d2 : decode jdk_38_method_24_code 2 = .ok (.arraylength, 1) := by decide +kernel
theorem own_al_add3S_d3 : decode jdk_38_method_24_code 3 = .ok (.if_icmp .ne 8, 3) := by decide +kernel
theorem own_al_add3S_d11 : decode jdk_38_method_24_code 11 = .ok (.aload_n 2, 1) := by decide +kernel
theorem own_al_add3S_d12 : decode jdk_38_method_24_code 12 = .ok (.iload_n 3, 1) := by decide +kernel
theorem own_al_add3S_d13 : decode jdk_38_method_24_code 13 = .ok (.aload_n 1, 1) := by decide +kernel
theorem own_al_add3S_d14 : decode jdk_38_method_24_code 14 = .ok (.aastore, 1) := by decide +kernel
theorem own_al_add3S_d15 : decode jdk_38_method_24_code 15 = .ok (.aload_n 0, 1) := by decide +kernel
theorem own_al_add3S_d16 : decode jdk_38_method_24_code 16 = .ok (.iload_n 3, 1) := by decide +kernel
theorem own_al_add3S_d17 : decode jdk_38_method_24_code 17 = .ok (.iconst 1, 1) := by decide +kernel
theorem own_al_add3S_d18 : decode jdk_38_method_24_code 18 = .ok (.iadd, 1) := by decide +kernel
theorem own_al_add3S_d19 : decode jdk_38_method_24_code 19 = .ok (.putfield 48, 3) := by decide +kernel
theorem own_al_add3S_d22 : decode jdk_38_method_24_code 22 = .ok (.return_, 1) := by decide +kernel
theorem own_al_add3S_pn : plainName "java/util/ArrayList" = true := by first | (simp [plainName, overriddenIn]; done) | decide +kernel
theorem own_al_add3S_ef (m : MethodId) (x0 : Addr) (x1 : Addr) (x2 : Addr) (x3 : Int32) : entryFrame m #[(.ref x0), (.ref x1), (.ref x2), (.int x3)] 4 = mkF m 0 #[.val (.ref x0), .val (.ref x1), .val (.ref x2), .val (.int x3)] [] := by first | (simp [entryFrame, mkF, argsToLocals, Value.category]; done) | rfl
def own_al_add3S_Q (Z : State) (a : Addr) (dd : Addr) (cl : Cell) (nn : Int32) (mc : Int32) (ee : Addr) (h0 : Heap) (n0 : Nat) (vv_ : Option Value) (hh_ : Heap) (LL_ : List Loc) : Prop := vv_ = none ∧ Fr n0 LL_ ∧ Keep h0 hh_ [a, dd] ∧ Fld Z hh_ a "java/util/ArrayList" "elementData" "[Ljava/lang/Object;" (.ref dd) ∧ Fld Z hh_ a "java/util/ArrayList" "size" "I" (.int (nn + (1 : Int32))) ∧ Fld Z hh_ a "java/util/AbstractList" "modCount" "I" (.int mc) ∧ Arr Z hh_ dd (cl.setSlot nn.toNatClampNeg (.ref ee)) (.object "java/lang/Object")
set_option maxRecDepth 65536 in
set_option maxHeartbeats 40000000 in
theorem own_al_add3S (l : Launch) (Z : State) (a0 : Array Value) (hw : ∀ d ∈ tables_1, d.before a0 Z = true) (ws : List Jvm.Cond) (a : Addr) (dd : Addr) (cl : Cell) (nn : Int32) (mc : Int32) (ee : Addr) (h0 : Heap) (n0 : Nat) (Z0 : n0 ≤ h0.size) (E : Exa Z h0 a "java/util/ArrayList") (Fe : Fld Z h0 a "java/util/ArrayList" "elementData" "[Ljava/lang/Object;" (.ref dd)) (Fs : Fld Z h0 a "java/util/ArrayList" "size" "I" (.int nn)) (Fm : Fld Z h0 a "java/util/AbstractList" "modCount" "I" (.int mc)) (A : Arr Z h0 dd cl (.object "java/lang/Object")) (sz : cl.slots.size = 10) (O : Ovr Z cl.cls "java/lang/Object") (pl : ¬ nn < (0 : Int32)) (ph : nn < (10 : Int32)) (g : n0 ≤ a) (gd : n0 ≤ dd) (nad : a ≠ dd) (I : Ins Z h0 ee "java/lang/Object" true) :
    MetFree l (⟨"java/util/ArrayList", "add", "(Ljava/lang/Object;[Ljava/lang/Object;I)V"⟩ : MethodName) (head1 (Jvm.Cond.code (⟨"java/util/ArrayList", "add", "(Ljava/lang/Object;[Ljava/lang/Object;I)V"⟩ : MethodName) jdk_38_method_24_code 4 none :: ws) ({ frames := 0, cells := 0, slots := 0, locals := 0 } : Room)) (fun aa_ UU_ => aa_ = #[(.ref a), (.ref ee), (.ref dd), (.int nn)] ∧ Z.Warmed39 UU_.vm ∧ UU_.heap = h0) (fun _ _ _ _ _ => True) (fun _ UU_ oo_ UV_ => ∃ vv_ LL_, oo_ = .returned vv_ ∧ own_al_add3S_Q Z a dd cl nn mc ee h0 n0 vv_ UV_.heap LL_ ∧ FrameEnd UU_ oo_ UV_ LL_ ({ frames := 0, cells := 0, slots := 0, locals := 0 } : Room).cells ({ frames := 0, cells := 0, slots := 0, locals := 0 } : Room).slots) := by
  refine MetFree.of_bodySF (plainFor_of_name own_al_add3S_pn) hisR ?_
  intro p e s m args below meth c s₁ Bd hml0 hP hK
  obtain ⟨rfl, hZ, hh⟩ := hP
  have hx := Bd.exec
  have hby := Bd.bytes
  have hml : c.maxLocals = 4 := hml0
  have hown : s.vm.findClass "java/util/ArrayList" = some m.cls := findClass_of_methodNamed Bd.named
  have hnm := (name_of_methodNamed Bd.named Bd.method).1
  have X0 : Stand p l e ({ frames := 0, cells := 0, slots := 0, locals := 0 } : Room) s m #[(.ref a), (.ref ee), (.ref dd), (.int nn)] below meth c s₁ [] 0 0 := Stand.of_body Bd
  have e0 : s₁.heap = h0 := by rw [← hh, Bd.state]; rfl
  have N0 := Fr.nil n0
  have KP0 : Keep h0 h0 [a, dd] := Keep.refl _ _
  refine ownFin (Q := own_al_add3S_Q Z a dd cl nn mc ee h0 n0) ?_
  refine ownStep (fun _ k => castTop (own_al_add3S_ef m a ee dd nn) k) ?_
  show ownGo p.tables e below (s₁.setTop (mkF m 0 #[.val (.ref a), .val (.ref ee), .val (.ref dd), .val (.int nn)] [])) _
  refine ownStep (fun _ k => XS.iloadN X0.here hx rfl (hb hby own_al_add3S_d0) rfl  k) ?_
  refine ownStep (fun _ k => XS.aloadN X0.here hx rfl (hb hby own_al_add3S_d1) rfl rfl k) ?_
  show ownGo p.tables e below (s₁.setTop (mkF m 2 #[.val (.ref a), .val (.ref ee), .val (.ref dd), .val (.int nn)] [(.ref dd), (.int nn)])) _
  refine ownStep (X0.arraylength hx (by rw [e0]; exact A.1) (State.isArrayOf_alike hZ.alike A.2.1) (g := (mkF m 2 #[.val (.ref a), .val (.ref ee), .val (.ref dd), .val (.int nn)] [(.ref dd), (.int nn)])) rfl rfl (hb hby own_al_add3S_d2)) ?_
  rw [show cl.slots.size.toInt32 = (10 : Int32) from by rw [sz]; rfl]
  refine ownStep (fun _ k => XS.icmpYes X0.here hx rfl (pc0 := 3) (pc' := 11) rfl (hb hby own_al_add3S_d3) rfl (feq ((fun q => by rw [q] at ph; exact absurd ph (by decide)) : ¬ nn = (10 : Int32))).2 (by decide) (by decide) k) ?_
  refine ownStep (fun _ k => XS.aloadN X0.here hx rfl (hb hby own_al_add3S_d11) rfl rfl k) ?_
  refine ownStep (fun _ k => XS.iloadN X0.here hx rfl (hb hby own_al_add3S_d12) rfl  k) ?_
  refine ownStep (fun _ k => XS.aloadN X0.here hx rfl (hb hby own_al_add3S_d13) rfl rfl k) ?_
  show ownGo p.tables e below (s₁.setTop (mkF m 14 #[.val (.ref a), .val (.ref ee), .val (.ref dd), .val (.int nn)] [(.ref ee), (.int nn), (.ref dd)])) _
  have hin1 : ¬ (nn < 0 ∨ cl.slots.size ≤ nn.toNatClampNeg) := by rw [sz]; exact own_in10 pl ph
  obtain ⟨T1, h1, X1, e1, W1, st1⟩ := stR X0 hx hZ e0 A (j := nn) hin1 rfl (Sto.ofV A rfl O I) (g := (mkF m 14 #[.val (.ref a), .val (.ref ee), .val (.ref dd), .val (.int nn)] [(.ref ee), (.int nn), (.ref dd)])) rfl rfl (hb hby own_al_add3S_d14)
  have N2 := Fr.snoc X1 N0 gd
  have KP3 : Keep h0 h1 [a, dd] := KP0.wr W1 (Or.inl (List.mem_of_getElem? (i := 1) rfl))
  have A4 : Arr Z h1 dd (cl.setSlot nn.toNatClampNeg (.ref ee)) (.object "java/lang/Object") := A.same W1
  refine ownStep st1 ?_
  refine ownStep (fun _ k => XS.aloadN X1.here hx rfl (hb hby own_al_add3S_d15) rfl rfl k) ?_
  refine ownStep (fun _ k => XS.iloadN X1.here hx rfl (hb hby own_al_add3S_d16) rfl  k) ?_
  refine ownStep (fun _ k => XS.iconst X1.here hx rfl (hb hby own_al_add3S_d17) k) ?_
  refine ownStep (fun _ k => XS.iadd X1.here hx rfl (hb hby own_al_add3S_d18) rfl k) ?_
  show ownGo p.tables e below (T1.setTop (mkF m 19 #[.val (.ref a), .val (.ref ee), .val (.ref dd), .val (.int nn)] [(.int (nn + (1 : Int32))), (.ref a)])) _
  have Q5 : Fld Z h1 a "java/util/ArrayList" "size" "I" (.int nn) := (Fs.other W1 (Or.inl nad))
  have Q6 : Exa Z h1 a "java/util/ArrayList" := (E.wr W1)
  obtain ⟨T7, h7, X7, e7, W7, st7⟩ := putF X1 hx hZ hown (host := "") (Or.inl (hw _ (List.mem_of_getElem? (i := 61) rfl))) Via.refl e1 Q5 Q6 (Or.inl (hw _ (List.mem_of_getElem? (i := 62) rfl))) (hw _ (List.mem_of_getElem? (i := 13) rfl)) (ty := .int) (by decide) rfl rfl (g := (mkF m 19 #[.val (.ref a), .val (.ref ee), .val (.ref dd), .val (.int nn)] [(.int (nn + (1 : Int32))), (.ref a)])) rfl rfl (hb hby own_al_add3S_d19)
  have N8 := Fr.snoc X7 N2 g
  have KP9 : Keep h0 h7 [a, dd] := KP3.wr W7 (Or.inl (List.mem_of_getElem? (i := 0) rfl))
  have F10 : Fld Z h7 a "java/util/ArrayList" "size" "I" (.int (nn + (1 : Int32))) := Q5.same W7
  refine ownStep st7 ?_
  show ownGo p.tables e below (T7.setTop (mkF m 22 #[.val (.ref a), .val (.ref ee), .val (.ref dd), .val (.int nn)] [])) _
  have Q11 : Fld Z h7 a "java/util/ArrayList" "elementData" "[Ljava/lang/Object;" (.ref dd) := ((Fe.other W1 (Or.inl nad)).other W7 (Or.inr (slot_ne (Or.inl (hw _ (List.mem_of_getElem? (i := 35) rfl))) (Or.inl (hw _ (List.mem_of_getElem? (i := 62) rfl))) (by decide) (t := (.array (.object "java/lang/Object"))) (t' := .int) (by decide) (by decide))))
  have Q12 : Fld Z h7 a "java/util/AbstractList" "modCount" "I" (.int mc) := ((Fm.other W1 (Or.inl nad)).other W7 (Or.inr (slot_ne (Or.inl (hw _ (List.mem_of_getElem? (i := 32) rfl))) (Or.inl (hw _ (List.mem_of_getElem? (i := 62) rfl))) (by decide) (t := .int) (t' := .int) (by decide) (by decide))))
  have Q13 : Arr Z h7 dd (cl.setSlot nn.toNatClampNeg (.ref ee)) (.object "java/lang/Object") := (A4.other W7 (Ne.symm nad))
  exact ownRet X7 (v := none) Bd.notSynchronized (fun _ => rfl) (fun _ hr => X7.returnOut hx Bd.returns (hb hby own_al_add3S_d22) hr) (by rw [e7]; exact ⟨rfl, N8, KP9, Q11, F10, Q12, Q13⟩) (by decide) (by decide)
theorem own_al_addS_d0 : decode jdk_38_method_25_code 0 = .ok (.aload_n 0, 1) := by decide +kernel
theorem own_al_addS_d1 : decode jdk_38_method_25_code 1 = .ok (.dup, 1) := by decide +kernel
theorem own_al_addS_d2 : decode jdk_38_method_25_code 2 = .ok (.getfield 63, 3) := by decide +kernel
theorem own_al_addS_d5 : decode jdk_38_method_25_code 5 = .ok (.iconst 1, 1) := by decide +kernel
theorem own_al_addS_d6 : decode jdk_38_method_25_code 6 = .ok (.iadd, 1) := by decide +kernel
theorem own_al_addS_d7 : decode jdk_38_method_25_code 7 = .ok (.putfield 63, 3) := by decide +kernel
theorem own_al_addS_d10 : decode jdk_38_method_25_code 10 = .ok (.aload_n 0, 1) := by decide +kernel
theorem own_al_addS_d11 : decode jdk_38_method_25_code 11 = .ok (.aload_n 1, 1) := by decide +kernel
theorem own_al_addS_d12 : decode jdk_38_method_25_code 12 = .ok (.aload_n 0, 1) := by decide +kernel
theorem own_al_addS_d13 : decode jdk_38_method_25_code 13 = .ok (.getfield 9, 3) := by decide +kernel
theorem own_al_addS_d16 : decode jdk_38_method_25_code 16 = .ok (.aload_n 0, 1) := by decide +kernel
theorem own_al_addS_d17 : decode jdk_38_method_25_code 17 = .ok (.getfield 48, 3) := by decide +kernel
theorem own_al_addS_d20 : decode jdk_38_method_25_code 20 = .ok (.invokevirtual 131, 3) := by decide +kernel
theorem own_al_addS_d23 : decode jdk_38_method_25_code 23 = .ok (.iconst 1, 1) := by decide +kernel
theorem own_al_addS_d24 : decode jdk_38_method_25_code 24 = .ok (.ireturn, 1) := by decide +kernel
theorem own_al_addS_pn : plainName "java/util/ArrayList" = true := by first | (simp [plainName, overriddenIn]; done) | decide +kernel
theorem own_al_addS_pd0 : parseMethodDescriptor "(Ljava/lang/Object;[Ljava/lang/Object;I)V" = some ⟨[(.object "java/lang/Object"), (.array (.object "java/lang/Object")), .int], none⟩ := by decide +kernel
theorem own_al_addS_ef (m : MethodId) (x0 : Addr) (x1 : Addr) : entryFrame m #[(.ref x0), (.ref x1)] 2 = mkF m 0 #[.val (.ref x0), .val (.ref x1)] [] := by first | (simp [entryFrame, mkF, argsToLocals, Value.category]; done) | rfl
def own_al_addS_Q (Z : State) (a : Addr) (dd : Addr) (cl : Cell) (nn : Int32) (mc : Int32) (ee : Addr) (h0 : Heap) (n0 : Nat) (vv_ : Option Value) (hh_ : Heap) (LL_ : List Loc) : Prop := vv_ = some (.int (1 : Int32)) ∧ Fr n0 LL_ ∧ Keep h0 hh_ [a, dd] ∧ Fld Z hh_ a "java/util/ArrayList" "elementData" "[Ljava/lang/Object;" (.ref dd) ∧ Fld Z hh_ a "java/util/ArrayList" "size" "I" (.int (nn + (1 : Int32))) ∧ Fld Z hh_ a "java/util/AbstractList" "modCount" "I" (.int (mc + (1 : Int32))) ∧ Arr Z hh_ dd (cl.setSlot nn.toNatClampNeg (.ref ee)) (.object "java/lang/Object")
set_option maxRecDepth 65536 in
set_option maxHeartbeats 40000000 in
theorem own_al_addS (l : Launch) (Z : State) (a0 : Array Value) (hw : ∀ d ∈ tables_1, d.before a0 Z = true) (ws : List Jvm.Cond) (a : Addr) (dd : Addr) (cl : Cell) (nn : Int32) (mc : Int32) (ee : Addr) (h0 : Heap) (n0 : Nat) (Z0 : n0 ≤ h0.size) (E : Exa Z h0 a "java/util/ArrayList") (Fe : Fld Z h0 a "java/util/ArrayList" "elementData" "[Ljava/lang/Object;" (.ref dd)) (Fs : Fld Z h0 a "java/util/ArrayList" "size" "I" (.int nn)) (Fm : Fld Z h0 a "java/util/AbstractList" "modCount" "I" (.int mc)) (A : Arr Z h0 dd cl (.object "java/lang/Object")) (sz : cl.slots.size = 10) (O : Ovr Z cl.cls "java/lang/Object") (pl : ¬ nn < (0 : Int32)) (ph : nn < (10 : Int32)) (g : n0 ≤ a) (gd : n0 ≤ dd) (nad : a ≠ dd) (I : Ins Z h0 ee "java/lang/Object" true) :
    MetFree l (⟨"java/util/ArrayList", "add", "(Ljava/lang/Object;)Z"⟩ : MethodName) (head1 (Jvm.Cond.code (⟨"java/util/ArrayList", "add", "(Ljava/lang/Object;)Z"⟩ : MethodName) jdk_38_method_25_code 2 (some .boolean) :: ws) ({ frames := 1, cells := 1, slots := 10, locals := 15 } : Room)) (fun aa_ UU_ => aa_ = #[(.ref a), (.ref ee)] ∧ Z.Warmed39 UU_.vm ∧ UU_.heap = h0) (fun _ _ _ _ _ => True) (fun _ UU_ oo_ UV_ => ∃ vv_ LL_, oo_ = .returned vv_ ∧ own_al_addS_Q Z a dd cl nn mc ee h0 n0 vv_ UV_.heap LL_ ∧ FrameEnd UU_ oo_ UV_ LL_ ({ frames := 1, cells := 1, slots := 10, locals := 15 } : Room).cells ({ frames := 1, cells := 1, slots := 10, locals := 15 } : Room).slots) := by
  refine MetFree.of_bodySF (plainFor_of_name own_al_addS_pn) hisR ?_
  intro p e s m args below meth c s₁ Bd hml0 hP hK
  obtain ⟨rfl, hZ, hh⟩ := hP
  have hx := Bd.exec
  have hby := Bd.bytes
  have hml : c.maxLocals = 2 := hml0
  have hown : s.vm.findClass "java/util/ArrayList" = some m.cls := findClass_of_methodNamed Bd.named
  have hnm := (name_of_methodNamed Bd.named Bd.method).1
  have X0 : Stand p l e ({ frames := 1, cells := 1, slots := 10, locals := 15 } : Room) s m #[(.ref a), (.ref ee)] below meth c s₁ [] 0 0 := Stand.of_body Bd
  have e0 : s₁.heap = h0 := by rw [← hh, Bd.state]; rfl
  have N0 := Fr.nil n0
  have KP0 : Keep h0 h0 [a, dd] := Keep.refl _ _
  refine ownFin (Q := own_al_addS_Q Z a dd cl nn mc ee h0 n0) ?_
  refine ownStep (fun _ k => castTop (own_al_addS_ef m a ee) k) ?_
  show ownGo p.tables e below (s₁.setTop (mkF m 0 #[.val (.ref a), .val (.ref ee)] [])) _
  refine ownStep (fun _ k => XS.aloadN X0.here hx rfl (hb hby own_al_addS_d0) rfl rfl k) ?_
  refine ownStep (fun _ k => XS.dup X0.here hx rfl (hb hby own_al_addS_d1) rfl rfl k) ?_
  show ownGo p.tables e below (s₁.setTop (mkF m 2 #[.val (.ref a), .val (.ref ee)] [(.ref a), (.ref a)])) _
  obtain ⟨T1, X1, e1, st1⟩ := getF X0 hx hZ hown (host := "") (Or.inl (hw _ (List.mem_of_getElem? (i := 59) rfl))) (Via.of (hw _ (List.mem_of_getElem? (i := 60) rfl))) e0 Fm (g := (mkF m 2 #[.val (.ref a), .val (.ref ee)] [(.ref a), (.ref a)])) rfl rfl (hb hby own_al_addS_d2)
  refine ownStep st1 ?_
  refine ownStep (fun _ k => XS.iconst X1.here hx rfl (hb hby own_al_addS_d5) k) ?_
  refine ownStep (fun _ k => XS.iadd X1.here hx rfl (hb hby own_al_addS_d6) rfl k) ?_
  show ownGo p.tables e below (T1.setTop (mkF m 7 #[.val (.ref a), .val (.ref ee)] [(.int (mc + (1 : Int32))), (.ref a)])) _
  obtain ⟨T2, h2, X2, e2, W2, st2⟩ := putF X1 hx hZ hown (host := "") (Or.inl (hw _ (List.mem_of_getElem? (i := 59) rfl))) (Via.of (hw _ (List.mem_of_getElem? (i := 60) rfl))) e1 Fm E (Or.inl (hw _ (List.mem_of_getElem? (i := 32) rfl))) (hw _ (List.mem_of_getElem? (i := 13) rfl)) (ty := .int) (by decide) rfl rfl (g := (mkF m 7 #[.val (.ref a), .val (.ref ee)] [(.int (mc + (1 : Int32))), (.ref a)])) rfl rfl (hb hby own_al_addS_d7)
  have N3 := Fr.snoc X2 N0 g
  have KP4 : Keep h0 h2 [a, dd] := KP0.wr W2 (Or.inl (List.mem_of_getElem? (i := 0) rfl))
  have F5 : Fld Z h2 a "java/util/AbstractList" "modCount" "I" (.int (mc + (1 : Int32))) := Fm.same W2
  refine ownStep st2 ?_
  refine ownStep (fun _ k => XS.aloadN X2.here hx rfl (hb hby own_al_addS_d10) rfl rfl k) ?_
  refine ownStep (fun _ k => XS.aloadN X2.here hx rfl (hb hby own_al_addS_d11) rfl rfl k) ?_
  refine ownStep (fun _ k => XS.aloadN X2.here hx rfl (hb hby own_al_addS_d12) rfl rfl k) ?_
  show ownGo p.tables e below (T2.setTop (mkF m 13 #[.val (.ref a), .val (.ref ee)] [(.ref a), (.ref ee), (.ref a)])) _
  have Q6 : Fld Z h2 a "java/util/ArrayList" "elementData" "[Ljava/lang/Object;" (.ref dd) := (Fe.other W2 (Or.inr (slot_ne (Or.inl (hw _ (List.mem_of_getElem? (i := 35) rfl))) (Or.inl (hw _ (List.mem_of_getElem? (i := 32) rfl))) (by decide) (t := (.array (.object "java/lang/Object"))) (t' := .int) (by decide) (by decide))))
  obtain ⟨T7, X7, e7, st7⟩ := getF X2 hx hZ hown (host := "") (Or.inl (hw _ (List.mem_of_getElem? (i := 34) rfl))) Via.refl e2 Q6 (g := (mkF m 13 #[.val (.ref a), .val (.ref ee)] [(.ref a), (.ref ee), (.ref a)])) rfl rfl (hb hby own_al_addS_d13)
  refine ownStep st7 ?_
  refine ownStep (fun _ k => XS.aloadN X7.here hx rfl (hb hby own_al_addS_d16) rfl rfl k) ?_
  show ownGo p.tables e below (T7.setTop (mkF m 17 #[.val (.ref a), .val (.ref ee)] [(.ref a), (.ref dd), (.ref ee), (.ref a)])) _
  have Q8 : Fld Z h2 a "java/util/ArrayList" "size" "I" (.int nn) := (Fs.other W2 (Or.inr (slot_ne (Or.inl (hw _ (List.mem_of_getElem? (i := 62) rfl))) (Or.inl (hw _ (List.mem_of_getElem? (i := 32) rfl))) (by decide) (t := .int) (t' := .int) (by decide) (by decide))))
  obtain ⟨T9, X9, e9, st9⟩ := getF X7 hx hZ hown (host := "") (Or.inl (hw _ (List.mem_of_getElem? (i := 61) rfl))) Via.refl e7 Q8 (g := (mkF m 17 #[.val (.ref a), .val (.ref ee)] [(.ref a), (.ref dd), (.ref ee), (.ref a)])) rfl rfl (hb hby own_al_addS_d17)
  refine ownStep st9 ?_
  show ownGo p.tables e below (T9.setTop (mkF m 20 #[.val (.ref a), .val (.ref ee)] [(.int nn), (.ref dd), (.ref ee), (.ref a)])) _
  have Q10 : Exa Z h2 a "java/util/ArrayList" := (E.wr W2)
  have Q11 : Arr Z h2 dd cl (.object "java/lang/Object") := (A.other W2 (Ne.symm nad))
  have Q12 : Ins Z h2 ee "java/lang/Object" true := (I.wr W2)
  have Zs14 : n0 ≤ h2.size := Nat.le_trans Z0 KP4.1
  obtain ⟨cq13, q13, q13'⟩ := Q10.cell
  obtain ⟨_, _, ⟨T13, L13, k13, n13⟩, -, X13, ⟨Lc13, hQ13, l13, y13, z13⟩, st13⟩ := X9.privateBack hx (y := (⟨"java/util/ArrayList", "add", "(Ljava/lang/Object;[Ljava/lang/Object;I)V"⟩ : MethodName)) hown (mvT hZ (hw _ (List.mem_of_getElem? (i := 63) rfl))) (mvT hZ (hw _ (List.mem_of_getElem? (i := 64) rfl))) (mvT hZ (hw _ (List.mem_of_getElem? (i := 66) rfl))) (Cond.privateMethod_at (mvP hZ (hw _ (List.mem_of_getElem? (i := 65) rfl)) (args := #[]))) (mvT hZ (hw _ (List.mem_of_getElem? (i := 67) rfl))) (by decide) (backOf (W := 0) (own_al_add3S l Z a0 hw [] a dd cl nn (mc + (1 : Int32)) ee h2 n0 Zs14 Q10 Q6 Q8 F5 Q11 sz O pl ph g gd nad Q12) hZ (hw _ (List.mem_of_getElem? (i := 67) rfl)) (hw _ (List.mem_of_getElem? (i := 14) rfl)) (by decide) (by decide)) (g := (mkF m 20 #[.val (.ref a), .val (.ref ee)] [(.int nn), (.ref dd), (.ref ee), (.ref a)])) rfl (by rw [hml]; rfl) (Steps.refl _) (a := a) (by rw [e9]; exact q13) q13' (argsL := [(.ref ee), (.ref dd), (.int nn)]) (rest := []) (lenOf own_al_addS_pd0 rfl) rfl (by show 2 * 0 + _ ≤ _; exact Nat.le_of_eq rfl) (hb hby own_al_addS_d20) (fun _ _ => ⟨rfl, e9, (by decide : 0 + 0 ≤ _), (by decide : 0 + 0 ≤ _)⟩)
  dsimp only [Pt.U, Pt.locs, Pt.cells, Pt.slots] at X13 l13 y13 z13 st13 hQ13
  obtain rfl : k13 = 0 := y13
  obtain rfl : n13 = 0 := z13
  obtain ⟨rfl, N13q, R13, P15, P16, P17, P18⟩ := hQ13
  have N13 : Fr n0 L13 := l13 ▸ Fr.app N3 N13q
  refine ownStep (fun _ k => st13.trans k) ?_
  have KP19 : Keep h0 T13.heap [a, dd] := KP4.trans R13 (allS (Or.inl (List.mem_of_getElem? (i := 0) rfl)) (allS (Or.inl (List.mem_of_getElem? (i := 1) rfl)) all0))
  refine ownStep (fun _ k => XS.iconst X13.here hx rfl (hb hby own_al_addS_d23) k) ?_
  show ownGo p.tables e below (T13.setTop (mkF m 24 #[.val (.ref a), .val (.ref ee)] [(.int (1 : Int32))])) _
  exact ownRet X13 (v := some (.int (1 : Int32))) Bd.notSynchronized (fun h => by rw [Bd.returns] at h; cases h) (fun _ hr => retN X13 hx (t := .boolean) Bd.returns (by simp) (hb hby own_al_addS_d24) hr) (⟨rfl, N13, KP19, P15, P16, P17, P18⟩) (by decide) (by decide)
theorem own_val1_d0 : decode jdk_33_method_22_code 0 = .ok (.iload_n 0, 1) := by decide +kernel
theorem own_val1_d1 : decode jdk_33_method_22_code 1 = .ok (.bipush (-128), 2) := by decide +kernel
theorem own_val1_d3 : decode jdk_33_method_22_code 3 = .ok (.if_icmp .lt 20, 3) := by decide +kernel
theorem own_val1_d6 : decode jdk_33_method_22_code 6 = .ok (.iload_n 0, 1) := by decide +kernel
theorem own_val1_d7 : decode jdk_33_method_22_code 7 = .ok (.getstatic 191, 3) := by decide +kernel
theorem own_val1_d10 : decode jdk_33_method_22_code 10 = .ok (.if_icmp .gt 13, 3) := by decide +kernel
theorem own_val1_d13 : decode jdk_33_method_22_code 13 = .ok (.getstatic 195, 3) := by decide +kernel
theorem own_val1_d16 : decode jdk_33_method_22_code 16 = .ok (.iload_n 0, 1) := by decide +kernel
theorem own_val1_d17 : decode jdk_33_method_22_code 17 = .ok (.sipush 128, 3) := by decide +kernel
theorem own_val1_d20 : decode jdk_33_method_22_code 20 = .ok (.iadd, 1) := by decide +kernel
theorem own_val1_d21 : decode jdk_33_method_22_code 21 = .ok (.aaload, 1) := by decide +kernel
theorem own_val1_d22 : decode jdk_33_method_22_code 22 = .ok (.areturn, 1) := by decide +kernel
theorem own_val1_pn : plainName "java/lang/Integer" = true := by first | (simp [plainName, overriddenIn]; done) | decide +kernel
theorem own_val1_ef (m : MethodId) (x0 : Int32) : entryFrame m #[(.int x0)] 1 = mkF m 0 #[.val (.int x0)] [] := by first | (simp [entryFrame, mkF, argsToLocals, Value.category]; done) | rfl
def own_val1_Q (Z : State) (ed : Addr) (kd : ClassId) (ca : Addr) (clc : Cell) (h0 : Heap) (n0 : Nat) (vv_ : Option Value) (hh_ : Heap) (LL_ : List Loc) : Prop := ∃ r : Addr, vv_ = some (.ref r) ∧ Fr n0 LL_ ∧ hh_ = h0 ∧ Exa Z hh_ r "java/lang/Integer"
set_option maxRecDepth 65536 in
set_option maxHeartbeats 40000000 in
theorem own_val1 (l : Launch) (Z : State) (a0 : Array Value) (hw : ∀ d ∈ tables_1, d.before a0 Z = true) (ws : List Jvm.Cond) (ed : Addr) (kd : ClassId) (ca : Addr) (clc : Cell) (h0 : Heap) (n0 : Nat) (Z0 : n0 ≤ h0.size) (hOld : Old Z n0 h0) (S : Sta Z Z.heap "java/util/ArrayList" "DEFAULTCAPACITY_EMPTY_ELEMENTDATA" "[Ljava/lang/Object;" (.ref ed)) (V : Arv Z Z.heap ed kd (.object "java/lang/Object") (0 : Int32) [] .null) (Sh : Sta Z Z.heap "java/lang/Integer$IntegerCache" "high" "I" (.int (127 : Int32))) (Sc : Sta Z Z.heap "java/lang/Integer$IntegerCache" "cache" "[Ljava/lang/Integer;" (.ref ca)) (BX : Bxs Z ca clc "java/lang/Integer" "I" (256 : Int32) (fun j => .int (j - (128 : Int32)))) :
    MetFree l (⟨"java/lang/Integer", "valueOf", "(I)Ljava/lang/Integer;"⟩ : MethodName) (head1 (Jvm.Cond.code (⟨"java/lang/Integer", "valueOf", "(I)Ljava/lang/Integer;"⟩ : MethodName) jdk_33_method_22_code 1 (some (.object "java/lang/Integer")) :: ws) ({ frames := 0, cells := 0, slots := 0, locals := 0 } : Room)) (fun aa_ UU_ => aa_ = #[(.int (1 : Int32))] ∧ Z.Warmed39 UU_.vm ∧ UU_.heap = h0) (fun _ _ _ _ _ => True) (fun _ UU_ oo_ UV_ => ∃ vv_ LL_, oo_ = .returned vv_ ∧ own_val1_Q Z ed kd ca clc h0 n0 vv_ UV_.heap LL_ ∧ FrameEnd UU_ oo_ UV_ LL_ ({ frames := 0, cells := 0, slots := 0, locals := 0 } : Room).cells ({ frames := 0, cells := 0, slots := 0, locals := 0 } : Room).slots) := by
  refine MetFree.of_bodySF (plainFor_of_name own_val1_pn) hisR ?_
  intro p e s m args below meth c s₁ Bd hml0 hP hK
  obtain ⟨rfl, hZ, hh⟩ := hP
  have hx := Bd.exec
  have hby := Bd.bytes
  have hml : c.maxLocals = 1 := hml0
  have hown : s.vm.findClass "java/lang/Integer" = some m.cls := findClass_of_methodNamed Bd.named
  have hnm := (name_of_methodNamed Bd.named Bd.method).1
  have X0 : Stand p l e ({ frames := 0, cells := 0, slots := 0, locals := 0 } : Room) s m #[(.int (1 : Int32))] below meth c s₁ [] 0 0 := Stand.of_body Bd
  have e0 : s₁.heap = h0 := by rw [← hh, Bd.state]; rfl
  have N0 := Fr.nil n0
  have KP0 : Keep h0 h0 [] := Keep.refl _ _
  refine ownFin (Q := own_val1_Q Z ed kd ca clc h0 n0) ?_
  refine ownStep (fun _ k => castTop (own_val1_ef m (1 : Int32)) k) ?_
  show ownGo p.tables e below (s₁.setTop (mkF m 0 #[.val (.int (1 : Int32))] [])) _
  refine ownStep (fun _ k => XS.iloadN X0.here hx rfl (hb hby own_val1_d0) rfl  k) ?_
  refine ownStep (fun _ k => XS.bipush X0.here hx rfl (hb hby own_val1_d1) k) ?_
  refine ownStep (fun _ k => XS.icmpNo X0.here hx rfl (hb hby own_val1_d3) rfl (flt (by decide : ¬ (1 : Int32) < (-128 : Int32))).1 k) ?_
  refine ownStep (fun _ k => XS.iloadN X0.here hx rfl (hb hby own_val1_d6) rfl  k) ?_
  show ownGo p.tables e below (s₁.setTop (mkF m 7 #[.val (.int (1 : Int32))] [(.int (1 : Int32))])) _
  have Q1 : Sta Z h0 "java/lang/Integer$IntegerCache" "high" "I" (.int (127 : Int32)) := Sh.ext hOld.2
  obtain ⟨T2, X2, e2, st2⟩ := getS2 X0 hx hZ hown (host := "") (Or.inl (hw _ (List.mem_of_getElem? (i := 111) rfl))) Via.refl e0 Q1 (g := (mkF m 7 #[.val (.int (1 : Int32))] [(.int (1 : Int32))])) rfl (hb hby own_val1_d7)
  refine ownStep st2 ?_
  refine ownStep (fun _ k => XS.icmpNo X2.here hx rfl (hb hby own_val1_d10) rfl (flt (by decide : ¬ (127 : Int32) < (1 : Int32))).2.2.1 k) ?_
  show ownGo p.tables e below (T2.setTop (mkF m 13 #[.val (.int (1 : Int32))] [])) _
  have Q3 : Sta Z h0 "java/lang/Integer$IntegerCache" "cache" "[Ljava/lang/Integer;" (.ref ca) := Sc.ext hOld.2
  obtain ⟨T4, X4, e4, st4⟩ := getS2 X2 hx hZ hown (host := "") (Or.inl (hw _ (List.mem_of_getElem? (i := 113) rfl))) Via.refl e2 Q3 (g := (mkF m 13 #[.val (.int (1 : Int32))] [])) rfl (hb hby own_val1_d13)
  refine ownStep st4 ?_
  refine ownStep (fun _ k => XS.iloadN X4.here hx rfl (hb hby own_val1_d16) rfl  k) ?_
  refine ownStep (fun _ k => XS.sipush X4.here hx rfl (hb hby own_val1_d17) k) ?_
  refine ownStep (fun _ k => XS.iadd X4.here hx rfl (hb hby own_val1_d20) rfl k) ?_
  show ownGo p.tables e below (T4.setTop (mkF m 21 #[.val (.int (1 : Int32))] [(.int (129 : Int32)), (.ref ca)])) _
  have BX' := BX
  obtain ⟨AA5, SS5, NN5, HH5⟩ := BX'
  have Ac5 := AA5.ext hOld.2
  have hin5 : ¬ ((129 : Int32) < 0 ∨ clc.slots.size ≤ ((129 : Int32)).toNatClampNeg) := inb_of SS5 ⟨by decide, by decide⟩
  obtain ⟨bx, hat5, Ebx, Fbx⟩ := HH5 _ hin5
  refine ownStep (X4.aaload hx (j := (129 : Int32)) (v := (.ref bx)) (by rw [e4]; exact Ac5.1) (State.isArrayOf_alike hZ.alike Ac5.2.1) rfl Ac5.2.2 hin5 hat5 (g := (mkF m 21 #[.val (.int (1 : Int32))] [(.int (129 : Int32)), (.ref ca)])) rfl rfl (hb hby own_val1_d21)) ?_
  show ownGo p.tables e below (T4.setTop (mkF m 22 #[.val (.int (1 : Int32))] [(.ref bx)])) _
  have Q6 : Exa Z h0 bx "java/lang/Integer" := Ebx.ext hOld.2
  exact ownRet X4 (v := some (.ref bx)) Bd.notSynchronized (fun h => by rw [Bd.returns] at h; cases h) (fun _ hr => retOut X4 hx (t := (.object "java/lang/Integer")) Bd.returns rfl (Or.inr (Or.inr (Or.inr (Or.inr ⟨rfl, rfl, rfl⟩)))) (hb hby own_val1_d22) hr) (by rw [e4]; exact ⟨bx, rfl, N0, rfl, Q6⟩) (by decide) (by decide)
theorem own_val2_d0 : decode jdk_33_method_22_code 0 = .ok (.iload_n 0, 1) := by decide +kernel
theorem own_val2_d1 : decode jdk_33_method_22_code 1 = .ok (.bipush (-128), 2) := by decide +kernel
theorem own_val2_d3 : decode jdk_33_method_22_code 3 = .ok (.if_icmp .lt 20, 3) := by decide +kernel
theorem own_val2_d6 : decode jdk_33_method_22_code 6 = .ok (.iload_n 0, 1) := by decide +kernel
theorem own_val2_d7 : decode jdk_33_method_22_code 7 = .ok (.getstatic 191, 3) := by decide +kernel
theorem own_val2_d10 : decode jdk_33_method_22_code 10 = .ok (.if_icmp .gt 13, 3) := by decide +kernel
theorem own_val2_d13 : decode jdk_33_method_22_code 13 = .ok (.getstatic 195, 3) := by decide +kernel
theorem own_val2_d16 : decode jdk_33_method_22_code 16 = .ok (.iload_n 0, 1) := by decide +kernel
theorem own_val2_d17 : decode jdk_33_method_22_code 17 = .ok (.sipush 128, 3) := by decide +kernel
theorem own_val2_d20 : decode jdk_33_method_22_code 20 = .ok (.iadd, 1) := by decide +kernel
theorem own_val2_d21 : decode jdk_33_method_22_code 21 = .ok (.aaload, 1) := by decide +kernel
theorem own_val2_d22 : decode jdk_33_method_22_code 22 = .ok (.areturn, 1) := by decide +kernel
theorem own_val2_pn : plainName "java/lang/Integer" = true := by first | (simp [plainName, overriddenIn]; done) | decide +kernel
theorem own_val2_ef (m : MethodId) (x0 : Int32) : entryFrame m #[(.int x0)] 1 = mkF m 0 #[.val (.int x0)] [] := by first | (simp [entryFrame, mkF, argsToLocals, Value.category]; done) | rfl
def own_val2_Q (Z : State) (ed : Addr) (kd : ClassId) (ca : Addr) (clc : Cell) (h0 : Heap) (n0 : Nat) (vv_ : Option Value) (hh_ : Heap) (LL_ : List Loc) : Prop := ∃ r : Addr, vv_ = some (.ref r) ∧ Fr n0 LL_ ∧ hh_ = h0 ∧ Exa Z hh_ r "java/lang/Integer"
set_option maxRecDepth 65536 in
set_option maxHeartbeats 40000000 in
theorem own_val2 (l : Launch) (Z : State) (a0 : Array Value) (hw : ∀ d ∈ tables_1, d.before a0 Z = true) (ws : List Jvm.Cond) (ed : Addr) (kd : ClassId) (ca : Addr) (clc : Cell) (h0 : Heap) (n0 : Nat) (Z0 : n0 ≤ h0.size) (hOld : Old Z n0 h0) (S : Sta Z Z.heap "java/util/ArrayList" "DEFAULTCAPACITY_EMPTY_ELEMENTDATA" "[Ljava/lang/Object;" (.ref ed)) (V : Arv Z Z.heap ed kd (.object "java/lang/Object") (0 : Int32) [] .null) (Sh : Sta Z Z.heap "java/lang/Integer$IntegerCache" "high" "I" (.int (127 : Int32))) (Sc : Sta Z Z.heap "java/lang/Integer$IntegerCache" "cache" "[Ljava/lang/Integer;" (.ref ca)) (BX : Bxs Z ca clc "java/lang/Integer" "I" (256 : Int32) (fun j => .int (j - (128 : Int32)))) :
    MetFree l (⟨"java/lang/Integer", "valueOf", "(I)Ljava/lang/Integer;"⟩ : MethodName) (head1 (Jvm.Cond.code (⟨"java/lang/Integer", "valueOf", "(I)Ljava/lang/Integer;"⟩ : MethodName) jdk_33_method_22_code 1 (some (.object "java/lang/Integer")) :: ws) ({ frames := 0, cells := 0, slots := 0, locals := 0 } : Room)) (fun aa_ UU_ => aa_ = #[(.int (2 : Int32))] ∧ Z.Warmed39 UU_.vm ∧ UU_.heap = h0) (fun _ _ _ _ _ => True) (fun _ UU_ oo_ UV_ => ∃ vv_ LL_, oo_ = .returned vv_ ∧ own_val2_Q Z ed kd ca clc h0 n0 vv_ UV_.heap LL_ ∧ FrameEnd UU_ oo_ UV_ LL_ ({ frames := 0, cells := 0, slots := 0, locals := 0 } : Room).cells ({ frames := 0, cells := 0, slots := 0, locals := 0 } : Room).slots) := by
  refine MetFree.of_bodySF (plainFor_of_name own_val2_pn) hisR ?_
  intro p e s m args below meth c s₁ Bd hml0 hP hK
  obtain ⟨rfl, hZ, hh⟩ := hP
  have hx := Bd.exec
  have hby := Bd.bytes
  have hml : c.maxLocals = 1 := hml0
  have hown : s.vm.findClass "java/lang/Integer" = some m.cls := findClass_of_methodNamed Bd.named
  have hnm := (name_of_methodNamed Bd.named Bd.method).1
  have X0 : Stand p l e ({ frames := 0, cells := 0, slots := 0, locals := 0 } : Room) s m #[(.int (2 : Int32))] below meth c s₁ [] 0 0 := Stand.of_body Bd
  have e0 : s₁.heap = h0 := by rw [← hh, Bd.state]; rfl
  have N0 := Fr.nil n0
  have KP0 : Keep h0 h0 [] := Keep.refl _ _
  refine ownFin (Q := own_val2_Q Z ed kd ca clc h0 n0) ?_
  refine ownStep (fun _ k => castTop (own_val2_ef m (2 : Int32)) k) ?_
  show ownGo p.tables e below (s₁.setTop (mkF m 0 #[.val (.int (2 : Int32))] [])) _
  refine ownStep (fun _ k => XS.iloadN X0.here hx rfl (hb hby own_val2_d0) rfl  k) ?_
  refine ownStep (fun _ k => XS.bipush X0.here hx rfl (hb hby own_val2_d1) k) ?_
  refine ownStep (fun _ k => XS.icmpNo X0.here hx rfl (hb hby own_val2_d3) rfl (flt (by decide : ¬ (2 : Int32) < (-128 : Int32))).1 k) ?_
  refine ownStep (fun _ k => XS.iloadN X0.here hx rfl (hb hby own_val2_d6) rfl  k) ?_
  show ownGo p.tables e below (s₁.setTop (mkF m 7 #[.val (.int (2 : Int32))] [(.int (2 : Int32))])) _
  have Q1 : Sta Z h0 "java/lang/Integer$IntegerCache" "high" "I" (.int (127 : Int32)) := Sh.ext hOld.2
  obtain ⟨T2, X2, e2, st2⟩ := getS2 X0 hx hZ hown (host := "") (Or.inl (hw _ (List.mem_of_getElem? (i := 111) rfl))) Via.refl e0 Q1 (g := (mkF m 7 #[.val (.int (2 : Int32))] [(.int (2 : Int32))])) rfl (hb hby own_val2_d7)
  refine ownStep st2 ?_
  refine ownStep (fun _ k => XS.icmpNo X2.here hx rfl (hb hby own_val2_d10) rfl (flt (by decide : ¬ (127 : Int32) < (2 : Int32))).2.2.1 k) ?_
  show ownGo p.tables e below (T2.setTop (mkF m 13 #[.val (.int (2 : Int32))] [])) _
  have Q3 : Sta Z h0 "java/lang/Integer$IntegerCache" "cache" "[Ljava/lang/Integer;" (.ref ca) := Sc.ext hOld.2
  obtain ⟨T4, X4, e4, st4⟩ := getS2 X2 hx hZ hown (host := "") (Or.inl (hw _ (List.mem_of_getElem? (i := 113) rfl))) Via.refl e2 Q3 (g := (mkF m 13 #[.val (.int (2 : Int32))] [])) rfl (hb hby own_val2_d13)
  refine ownStep st4 ?_
  refine ownStep (fun _ k => XS.iloadN X4.here hx rfl (hb hby own_val2_d16) rfl  k) ?_
  refine ownStep (fun _ k => XS.sipush X4.here hx rfl (hb hby own_val2_d17) k) ?_
  refine ownStep (fun _ k => XS.iadd X4.here hx rfl (hb hby own_val2_d20) rfl k) ?_
  show ownGo p.tables e below (T4.setTop (mkF m 21 #[.val (.int (2 : Int32))] [(.int (130 : Int32)), (.ref ca)])) _
  have BX' := BX
  obtain ⟨AA5, SS5, NN5, HH5⟩ := BX'
  have Ac5 := AA5.ext hOld.2
  have hin5 : ¬ ((130 : Int32) < 0 ∨ clc.slots.size ≤ ((130 : Int32)).toNatClampNeg) := inb_of SS5 ⟨by decide, by decide⟩
  obtain ⟨bx, hat5, Ebx, Fbx⟩ := HH5 _ hin5
  refine ownStep (X4.aaload hx (j := (130 : Int32)) (v := (.ref bx)) (by rw [e4]; exact Ac5.1) (State.isArrayOf_alike hZ.alike Ac5.2.1) rfl Ac5.2.2 hin5 hat5 (g := (mkF m 21 #[.val (.int (2 : Int32))] [(.int (130 : Int32)), (.ref ca)])) rfl rfl (hb hby own_val2_d21)) ?_
  show ownGo p.tables e below (T4.setTop (mkF m 22 #[.val (.int (2 : Int32))] [(.ref bx)])) _
  have Q6 : Exa Z h0 bx "java/lang/Integer" := Ebx.ext hOld.2
  exact ownRet X4 (v := some (.ref bx)) Bd.notSynchronized (fun h => by rw [Bd.returns] at h; cases h) (fun _ hr => retOut X4 hx (t := (.object "java/lang/Integer")) Bd.returns rfl (Or.inr (Or.inr (Or.inr (Or.inr ⟨rfl, rfl, rfl⟩)))) (hb hby own_val2_d22) hr) (by rw [e4]; exact ⟨bx, rfl, N0, rfl, Q6⟩) (by decide) (by decide)
theorem own_val3_d0 : decode jdk_33_method_22_code 0 = .ok (.iload_n 0, 1) := by decide +kernel
theorem own_val3_d1 : decode jdk_33_method_22_code 1 = .ok (.bipush (-128), 2) := by decide +kernel
theorem own_val3_d3 : decode jdk_33_method_22_code 3 = .ok (.if_icmp .lt 20, 3) := by decide +kernel
theorem own_val3_d6 : decode jdk_33_method_22_code 6 = .ok (.iload_n 0, 1) := by decide +kernel
theorem own_val3_d7 : decode jdk_33_method_22_code 7 = .ok (.getstatic 191, 3) := by decide +kernel
theorem own_val3_d10 : decode jdk_33_method_22_code 10 = .ok (.if_icmp .gt 13, 3) := by decide +kernel
theorem own_val3_d13 : decode jdk_33_method_22_code 13 = .ok (.getstatic 195, 3) := by decide +kernel
theorem own_val3_d16 : decode jdk_33_method_22_code 16 = .ok (.iload_n 0, 1) := by decide +kernel
theorem own_val3_d17 : decode jdk_33_method_22_code 17 = .ok (.sipush 128, 3) := by decide +kernel
theorem own_val3_d20 : decode jdk_33_method_22_code 20 = .ok (.iadd, 1) := by decide +kernel
theorem own_val3_d21 : decode jdk_33_method_22_code 21 = .ok (.aaload, 1) := by decide +kernel
theorem own_val3_d22 : decode jdk_33_method_22_code 22 = .ok (.areturn, 1) := by decide +kernel
theorem own_val3_pn : plainName "java/lang/Integer" = true := by first | (simp [plainName, overriddenIn]; done) | decide +kernel
theorem own_val3_ef (m : MethodId) (x0 : Int32) : entryFrame m #[(.int x0)] 1 = mkF m 0 #[.val (.int x0)] [] := by first | (simp [entryFrame, mkF, argsToLocals, Value.category]; done) | rfl
def own_val3_Q (Z : State) (ed : Addr) (kd : ClassId) (ca : Addr) (clc : Cell) (h0 : Heap) (n0 : Nat) (vv_ : Option Value) (hh_ : Heap) (LL_ : List Loc) : Prop := ∃ r : Addr, vv_ = some (.ref r) ∧ Fr n0 LL_ ∧ hh_ = h0 ∧ Exa Z hh_ r "java/lang/Integer"
set_option maxRecDepth 65536 in
set_option maxHeartbeats 40000000 in
theorem own_val3 (l : Launch) (Z : State) (a0 : Array Value) (hw : ∀ d ∈ tables_1, d.before a0 Z = true) (ws : List Jvm.Cond) (ed : Addr) (kd : ClassId) (ca : Addr) (clc : Cell) (h0 : Heap) (n0 : Nat) (Z0 : n0 ≤ h0.size) (hOld : Old Z n0 h0) (S : Sta Z Z.heap "java/util/ArrayList" "DEFAULTCAPACITY_EMPTY_ELEMENTDATA" "[Ljava/lang/Object;" (.ref ed)) (V : Arv Z Z.heap ed kd (.object "java/lang/Object") (0 : Int32) [] .null) (Sh : Sta Z Z.heap "java/lang/Integer$IntegerCache" "high" "I" (.int (127 : Int32))) (Sc : Sta Z Z.heap "java/lang/Integer$IntegerCache" "cache" "[Ljava/lang/Integer;" (.ref ca)) (BX : Bxs Z ca clc "java/lang/Integer" "I" (256 : Int32) (fun j => .int (j - (128 : Int32)))) :
    MetFree l (⟨"java/lang/Integer", "valueOf", "(I)Ljava/lang/Integer;"⟩ : MethodName) (head1 (Jvm.Cond.code (⟨"java/lang/Integer", "valueOf", "(I)Ljava/lang/Integer;"⟩ : MethodName) jdk_33_method_22_code 1 (some (.object "java/lang/Integer")) :: ws) ({ frames := 0, cells := 0, slots := 0, locals := 0 } : Room)) (fun aa_ UU_ => aa_ = #[(.int (3 : Int32))] ∧ Z.Warmed39 UU_.vm ∧ UU_.heap = h0) (fun _ _ _ _ _ => True) (fun _ UU_ oo_ UV_ => ∃ vv_ LL_, oo_ = .returned vv_ ∧ own_val3_Q Z ed kd ca clc h0 n0 vv_ UV_.heap LL_ ∧ FrameEnd UU_ oo_ UV_ LL_ ({ frames := 0, cells := 0, slots := 0, locals := 0 } : Room).cells ({ frames := 0, cells := 0, slots := 0, locals := 0 } : Room).slots) := by
  refine MetFree.of_bodySF (plainFor_of_name own_val3_pn) hisR ?_
  intro p e s m args below meth c s₁ Bd hml0 hP hK
  obtain ⟨rfl, hZ, hh⟩ := hP
  have hx := Bd.exec
  have hby := Bd.bytes
  have hml : c.maxLocals = 1 := hml0
  have hown : s.vm.findClass "java/lang/Integer" = some m.cls := findClass_of_methodNamed Bd.named
  have hnm := (name_of_methodNamed Bd.named Bd.method).1
  have X0 : Stand p l e ({ frames := 0, cells := 0, slots := 0, locals := 0 } : Room) s m #[(.int (3 : Int32))] below meth c s₁ [] 0 0 := Stand.of_body Bd
  have e0 : s₁.heap = h0 := by rw [← hh, Bd.state]; rfl
  have N0 := Fr.nil n0
  have KP0 : Keep h0 h0 [] := Keep.refl _ _
  refine ownFin (Q := own_val3_Q Z ed kd ca clc h0 n0) ?_
  refine ownStep (fun _ k => castTop (own_val3_ef m (3 : Int32)) k) ?_
  show ownGo p.tables e below (s₁.setTop (mkF m 0 #[.val (.int (3 : Int32))] [])) _
  refine ownStep (fun _ k => XS.iloadN X0.here hx rfl (hb hby own_val3_d0) rfl  k) ?_
  refine ownStep (fun _ k => XS.bipush X0.here hx rfl (hb hby own_val3_d1) k) ?_
  refine ownStep (fun _ k => XS.icmpNo X0.here hx rfl (hb hby own_val3_d3) rfl (flt (by decide : ¬ (3 : Int32) < (-128 : Int32))).1 k) ?_
  refine ownStep (fun _ k => XS.iloadN X0.here hx rfl (hb hby own_val3_d6) rfl  k) ?_
  show ownGo p.tables e below (s₁.setTop (mkF m 7 #[.val (.int (3 : Int32))] [(.int (3 : Int32))])) _
  have Q1 : Sta Z h0 "java/lang/Integer$IntegerCache" "high" "I" (.int (127 : Int32)) := Sh.ext hOld.2
  obtain ⟨T2, X2, e2, st2⟩ := getS2 X0 hx hZ hown (host := "") (Or.inl (hw _ (List.mem_of_getElem? (i := 111) rfl))) Via.refl e0 Q1 (g := (mkF m 7 #[.val (.int (3 : Int32))] [(.int (3 : Int32))])) rfl (hb hby own_val3_d7)
  refine ownStep st2 ?_
  refine ownStep (fun _ k => XS.icmpNo X2.here hx rfl (hb hby own_val3_d10) rfl (flt (by decide : ¬ (127 : Int32) < (3 : Int32))).2.2.1 k) ?_
  show ownGo p.tables e below (T2.setTop (mkF m 13 #[.val (.int (3 : Int32))] [])) _
  have Q3 : Sta Z h0 "java/lang/Integer$IntegerCache" "cache" "[Ljava/lang/Integer;" (.ref ca) := Sc.ext hOld.2
  obtain ⟨T4, X4, e4, st4⟩ := getS2 X2 hx hZ hown (host := "") (Or.inl (hw _ (List.mem_of_getElem? (i := 113) rfl))) Via.refl e2 Q3 (g := (mkF m 13 #[.val (.int (3 : Int32))] [])) rfl (hb hby own_val3_d13)
  refine ownStep st4 ?_
  refine ownStep (fun _ k => XS.iloadN X4.here hx rfl (hb hby own_val3_d16) rfl  k) ?_
  refine ownStep (fun _ k => XS.sipush X4.here hx rfl (hb hby own_val3_d17) k) ?_
  refine ownStep (fun _ k => XS.iadd X4.here hx rfl (hb hby own_val3_d20) rfl k) ?_
  show ownGo p.tables e below (T4.setTop (mkF m 21 #[.val (.int (3 : Int32))] [(.int (131 : Int32)), (.ref ca)])) _
  have BX' := BX
  obtain ⟨AA5, SS5, NN5, HH5⟩ := BX'
  have Ac5 := AA5.ext hOld.2
  have hin5 : ¬ ((131 : Int32) < 0 ∨ clc.slots.size ≤ ((131 : Int32)).toNatClampNeg) := inb_of SS5 ⟨by decide, by decide⟩
  obtain ⟨bx, hat5, Ebx, Fbx⟩ := HH5 _ hin5
  refine ownStep (X4.aaload hx (j := (131 : Int32)) (v := (.ref bx)) (by rw [e4]; exact Ac5.1) (State.isArrayOf_alike hZ.alike Ac5.2.1) rfl Ac5.2.2 hin5 hat5 (g := (mkF m 21 #[.val (.int (3 : Int32))] [(.int (131 : Int32)), (.ref ca)])) rfl rfl (hb hby own_val3_d21)) ?_
  show ownGo p.tables e below (T4.setTop (mkF m 22 #[.val (.int (3 : Int32))] [(.ref bx)])) _
  have Q6 : Exa Z h0 bx "java/lang/Integer" := Ebx.ext hOld.2
  exact ownRet X4 (v := some (.ref bx)) Bd.notSynchronized (fun h => by rw [Bd.returns] at h; cases h) (fun _ hr => retOut X4 hx (t := (.object "java/lang/Integer")) Bd.returns rfl (Or.inr (Or.inr (Or.inr (Or.inr ⟨rfl, rfl, rfl⟩)))) (hb hby own_val3_d22) hr) (by rw [e4]; exact ⟨bx, rfl, N0, rfl, Q6⟩) (by decide) (by decide)
theorem own_val4_d0 : decode jdk_33_method_22_code 0 = .ok (.iload_n 0, 1) := by decide +kernel
theorem own_val4_d1 : decode jdk_33_method_22_code 1 = .ok (.bipush (-128), 2) := by decide +kernel
theorem own_val4_d3 : decode jdk_33_method_22_code 3 = .ok (.if_icmp .lt 20, 3) := by decide +kernel
theorem own_val4_d6 : decode jdk_33_method_22_code 6 = .ok (.iload_n 0, 1) := by decide +kernel
theorem own_val4_d7 : decode jdk_33_method_22_code 7 = .ok (.getstatic 191, 3) := by decide +kernel
theorem own_val4_d10 : decode jdk_33_method_22_code 10 = .ok (.if_icmp .gt 13, 3) := by decide +kernel
theorem own_val4_d13 : decode jdk_33_method_22_code 13 = .ok (.getstatic 195, 3) := by decide +kernel
theorem own_val4_d16 : decode jdk_33_method_22_code 16 = .ok (.iload_n 0, 1) := by decide +kernel
theorem own_val4_d17 : decode jdk_33_method_22_code 17 = .ok (.sipush 128, 3) := by decide +kernel
theorem own_val4_d20 : decode jdk_33_method_22_code 20 = .ok (.iadd, 1) := by decide +kernel
theorem own_val4_d21 : decode jdk_33_method_22_code 21 = .ok (.aaload, 1) := by decide +kernel
theorem own_val4_d22 : decode jdk_33_method_22_code 22 = .ok (.areturn, 1) := by decide +kernel
theorem own_val4_pn : plainName "java/lang/Integer" = true := by first | (simp [plainName, overriddenIn]; done) | decide +kernel
theorem own_val4_ef (m : MethodId) (x0 : Int32) : entryFrame m #[(.int x0)] 1 = mkF m 0 #[.val (.int x0)] [] := by first | (simp [entryFrame, mkF, argsToLocals, Value.category]; done) | rfl
def own_val4_Q (Z : State) (ed : Addr) (kd : ClassId) (ca : Addr) (clc : Cell) (h0 : Heap) (n0 : Nat) (vv_ : Option Value) (hh_ : Heap) (LL_ : List Loc) : Prop := ∃ r : Addr, vv_ = some (.ref r) ∧ Fr n0 LL_ ∧ hh_ = h0 ∧ Exa Z hh_ r "java/lang/Integer"
set_option maxRecDepth 65536 in
set_option maxHeartbeats 40000000 in
theorem own_val4 (l : Launch) (Z : State) (a0 : Array Value) (hw : ∀ d ∈ tables_1, d.before a0 Z = true) (ws : List Jvm.Cond) (ed : Addr) (kd : ClassId) (ca : Addr) (clc : Cell) (h0 : Heap) (n0 : Nat) (Z0 : n0 ≤ h0.size) (hOld : Old Z n0 h0) (S : Sta Z Z.heap "java/util/ArrayList" "DEFAULTCAPACITY_EMPTY_ELEMENTDATA" "[Ljava/lang/Object;" (.ref ed)) (V : Arv Z Z.heap ed kd (.object "java/lang/Object") (0 : Int32) [] .null) (Sh : Sta Z Z.heap "java/lang/Integer$IntegerCache" "high" "I" (.int (127 : Int32))) (Sc : Sta Z Z.heap "java/lang/Integer$IntegerCache" "cache" "[Ljava/lang/Integer;" (.ref ca)) (BX : Bxs Z ca clc "java/lang/Integer" "I" (256 : Int32) (fun j => .int (j - (128 : Int32)))) :
    MetFree l (⟨"java/lang/Integer", "valueOf", "(I)Ljava/lang/Integer;"⟩ : MethodName) (head1 (Jvm.Cond.code (⟨"java/lang/Integer", "valueOf", "(I)Ljava/lang/Integer;"⟩ : MethodName) jdk_33_method_22_code 1 (some (.object "java/lang/Integer")) :: ws) ({ frames := 0, cells := 0, slots := 0, locals := 0 } : Room)) (fun aa_ UU_ => aa_ = #[(.int (4 : Int32))] ∧ Z.Warmed39 UU_.vm ∧ UU_.heap = h0) (fun _ _ _ _ _ => True) (fun _ UU_ oo_ UV_ => ∃ vv_ LL_, oo_ = .returned vv_ ∧ own_val4_Q Z ed kd ca clc h0 n0 vv_ UV_.heap LL_ ∧ FrameEnd UU_ oo_ UV_ LL_ ({ frames := 0, cells := 0, slots := 0, locals := 0 } : Room).cells ({ frames := 0, cells := 0, slots := 0, locals := 0 } : Room).slots) := by
  refine MetFree.of_bodySF (plainFor_of_name own_val4_pn) hisR ?_
  intro p e s m args below meth c s₁ Bd hml0 hP hK
  obtain ⟨rfl, hZ, hh⟩ := hP
  have hx := Bd.exec
  have hby := Bd.bytes
  have hml : c.maxLocals = 1 := hml0
  have hown : s.vm.findClass "java/lang/Integer" = some m.cls := findClass_of_methodNamed Bd.named
  have hnm := (name_of_methodNamed Bd.named Bd.method).1
  have X0 : Stand p l e ({ frames := 0, cells := 0, slots := 0, locals := 0 } : Room) s m #[(.int (4 : Int32))] below meth c s₁ [] 0 0 := Stand.of_body Bd
  have e0 : s₁.heap = h0 := by rw [← hh, Bd.state]; rfl
  have N0 := Fr.nil n0
  have KP0 : Keep h0 h0 [] := Keep.refl _ _
  refine ownFin (Q := own_val4_Q Z ed kd ca clc h0 n0) ?_
  refine ownStep (fun _ k => castTop (own_val4_ef m (4 : Int32)) k) ?_
  show ownGo p.tables e below (s₁.setTop (mkF m 0 #[.val (.int (4 : Int32))] [])) _
  refine ownStep (fun _ k => XS.iloadN X0.here hx rfl (hb hby own_val4_d0) rfl  k) ?_
  refine ownStep (fun _ k => XS.bipush X0.here hx rfl (hb hby own_val4_d1) k) ?_
  refine ownStep (fun _ k => XS.icmpNo X0.here hx rfl (hb hby own_val4_d3) rfl (flt (by decide : ¬ (4 : Int32) < (-128 : Int32))).1 k) ?_
  refine ownStep (fun _ k => XS.iloadN X0.here hx rfl (hb hby own_val4_d6) rfl  k) ?_
  show ownGo p.tables e below (s₁.setTop (mkF m 7 #[.val (.int (4 : Int32))] [(.int (4 : Int32))])) _
  have Q1 : Sta Z h0 "java/lang/Integer$IntegerCache" "high" "I" (.int (127 : Int32)) := Sh.ext hOld.2
  obtain ⟨T2, X2, e2, st2⟩ := getS2 X0 hx hZ hown (host := "") (Or.inl (hw _ (List.mem_of_getElem? (i := 111) rfl))) Via.refl e0 Q1 (g := (mkF m 7 #[.val (.int (4 : Int32))] [(.int (4 : Int32))])) rfl (hb hby own_val4_d7)
  refine ownStep st2 ?_
  refine ownStep (fun _ k => XS.icmpNo X2.here hx rfl (hb hby own_val4_d10) rfl (flt (by decide : ¬ (127 : Int32) < (4 : Int32))).2.2.1 k) ?_
  show ownGo p.tables e below (T2.setTop (mkF m 13 #[.val (.int (4 : Int32))] [])) _
  have Q3 : Sta Z h0 "java/lang/Integer$IntegerCache" "cache" "[Ljava/lang/Integer;" (.ref ca) := Sc.ext hOld.2
  obtain ⟨T4, X4, e4, st4⟩ := getS2 X2 hx hZ hown (host := "") (Or.inl (hw _ (List.mem_of_getElem? (i := 113) rfl))) Via.refl e2 Q3 (g := (mkF m 13 #[.val (.int (4 : Int32))] [])) rfl (hb hby own_val4_d13)
  refine ownStep st4 ?_
  refine ownStep (fun _ k => XS.iloadN X4.here hx rfl (hb hby own_val4_d16) rfl  k) ?_
  refine ownStep (fun _ k => XS.sipush X4.here hx rfl (hb hby own_val4_d17) k) ?_
  refine ownStep (fun _ k => XS.iadd X4.here hx rfl (hb hby own_val4_d20) rfl k) ?_
  show ownGo p.tables e below (T4.setTop (mkF m 21 #[.val (.int (4 : Int32))] [(.int (132 : Int32)), (.ref ca)])) _
  have BX' := BX
  obtain ⟨AA5, SS5, NN5, HH5⟩ := BX'
  have Ac5 := AA5.ext hOld.2
  have hin5 : ¬ ((132 : Int32) < 0 ∨ clc.slots.size ≤ ((132 : Int32)).toNatClampNeg) := inb_of SS5 ⟨by decide, by decide⟩
  obtain ⟨bx, hat5, Ebx, Fbx⟩ := HH5 _ hin5
  refine ownStep (X4.aaload hx (j := (132 : Int32)) (v := (.ref bx)) (by rw [e4]; exact Ac5.1) (State.isArrayOf_alike hZ.alike Ac5.2.1) rfl Ac5.2.2 hin5 hat5 (g := (mkF m 21 #[.val (.int (4 : Int32))] [(.int (132 : Int32)), (.ref ca)])) rfl rfl (hb hby own_val4_d21)) ?_
  show ownGo p.tables e below (T4.setTop (mkF m 22 #[.val (.int (4 : Int32))] [(.ref bx)])) _
  have Q6 : Exa Z h0 bx "java/lang/Integer" := Ebx.ext hOld.2
  exact ownRet X4 (v := some (.ref bx)) Bd.notSynchronized (fun h => by rw [Bd.returns] at h; cases h) (fun _ hr => retOut X4 hx (t := (.object "java/lang/Integer")) Bd.returns rfl (Or.inr (Or.inr (Or.inr (Or.inr ⟨rfl, rfl, rfl⟩)))) (hb hby own_val4_d22) hr) (by rw [e4]; exact ⟨bx, rfl, N0, rfl, Q6⟩) (by decide) (by decide)
theorem own_mmin_d0 : decode jdk_29_method_69_code 0 = .ok (.iload_n 0, 1) := by decide +kernel
theorem own_mmin_d1 : decode jdk_29_method_69_code 1 = .ok (.iload_n 1, 1) := by decide +kernel
theorem own_mmin_d2 : decode jdk_29_method_69_code 2 = .ok (.if_icmp .gt 7, 3) := by decide +kernel
theorem own_mmin_d5 : decode jdk_29_method_69_code 5 = .ok (.iload_n 0, 1) := by decide +kernel
theorem own_mmin_d6 : decode jdk_29_method_69_code 6 = .ok (.goto 4, 3) := by decide +kernel
theorem own_mmin_d9 : decode jdk_29_method_69_code 9 = .ok (.iload_n 1, 1) := by decide +kernel
theorem own_mmin_d10 : decode jdk_29_method_69_code 10 = .ok (.ireturn, 1) := by decide +kernel
theorem own_mmin_ef (m : MethodId) (x0 : Int32) (x1 : Int32) : entryFrame m #[(.int x0), (.int x1)] 2 = mkF m 0 #[.val (.int x0), .val (.int x1)] [] := by first | (simp [entryFrame, mkF, argsToLocals, Value.category]; done) | rfl
def own_mmin_Q (Z : State) (u : Int32) (v : Int32) (h0 : Heap) (n0 : Nat) (vv_ : Option Value) (hh_ : Heap) (LL_ : List Loc) : Prop := ∃ r : Int32, vv_ = some (.int r) ∧ Fr n0 LL_ ∧ hh_ = h0
set_option maxRecDepth 65536 in
set_option maxHeartbeats 40000000 in
theorem own_mmin (l : Launch) (Z : State) (a0 : Array Value) (hw : ∀ d ∈ tables_1, d.before a0 Z = true) (ws : List Jvm.Cond) (u : Int32) (v : Int32) (h0 : Heap) (n0 : Nat) (Z0 : n0 ≤ h0.size) :
    MetFree l (⟨"java/lang/Math", "min", "(II)I"⟩ : MethodName) (head1 (Jvm.Cond.code (⟨"java/lang/Math", "min", "(II)I"⟩ : MethodName) jdk_29_method_69_code 2 (some .int) :: ws) ({ frames := 0, cells := 0, slots := 0, locals := 0 } : Room)) (fun aa_ UU_ => aa_ = #[(.int u), (.int v)] ∧ Z.Warmed39 UU_.vm ∧ UU_.heap = h0) (fun _ _ _ _ _ => True) (fun _ UU_ oo_ UV_ => ∃ vv_ LL_, oo_ = .returned vv_ ∧ own_mmin_Q Z u v h0 n0 vv_ UV_.heap LL_ ∧ FrameEnd UU_ oo_ UV_ LL_ ({ frames := 0, cells := 0, slots := 0, locals := 0 } : Room).cells ({ frames := 0, cells := 0, slots := 0, locals := 0 } : Room).slots) := by
  refine MetFree.of_bodySF (Jvm.Free.JP.mathPlain rfl (by decide +kernel)) hisR ?_
  intro p e s m args below meth c s₁ Bd hml0 hP hK
  obtain ⟨rfl, hZ, hh⟩ := hP
  have hx := Bd.exec
  have hby := Bd.bytes
  have hml : c.maxLocals = 2 := hml0
  have hown : s.vm.findClass "java/lang/Math" = some m.cls := findClass_of_methodNamed Bd.named
  have hnm := (name_of_methodNamed Bd.named Bd.method).1
  have X0 : Stand p l e ({ frames := 0, cells := 0, slots := 0, locals := 0 } : Room) s m #[(.int u), (.int v)] below meth c s₁ [] 0 0 := Stand.of_body Bd
  have e0 : s₁.heap = h0 := by rw [← hh, Bd.state]; rfl
  have N0 := Fr.nil n0
  have KP0 : Keep h0 h0 [] := Keep.refl _ _
  refine ownFin (Q := own_mmin_Q Z u v h0 n0) ?_
  refine ownStep (fun _ k => castTop (own_mmin_ef m u v) k) ?_
  show ownGo p.tables e below (s₁.setTop (mkF m 0 #[.val (.int u), .val (.int v)] [])) _
  refine ownStep (fun _ k => XS.iloadN X0.here hx rfl (hb hby own_mmin_d0) rfl  k) ?_
  refine ownStep (fun _ k => XS.iloadN X0.here hx rfl (hb hby own_mmin_d1) rfl  k) ?_
  show ownGo p.tables e below (s₁.setTop (mkF m 2 #[.val (.int u), .val (.int v)] [(.int v), (.int u)])) _
  by_cases hc2 : v < u
  · skip
    refine ownStep (fun _ k => XS.icmpYes X0.here hx rfl (pc0 := 2) (pc' := 9) rfl (hb hby own_mmin_d2) rfl (tlt (hc2 : v < u)).2.2.1 (by decide) (by decide) k) ?_
    refine ownStep (fun _ k => XS.iloadN X0.here hx rfl (hb hby own_mmin_d9) rfl  k) ?_
    show ownGo p.tables e below (s₁.setTop (mkF m 10 #[.val (.int u), .val (.int v)] [(.int v)])) _
    exact ownRet X0 (v := some (.int v)) Bd.notSynchronized (fun h => by rw [Bd.returns] at h; cases h) (fun _ hr => retI X0 hx Bd.returns (hb hby own_mmin_d10) hr) (by rw [e0]; exact ⟨v, rfl, N0, rfl⟩) (by decide) (by decide)
  · skip
    refine ownStep (fun _ k => XS.icmpNo X0.here hx rfl (hb hby own_mmin_d2) rfl (flt (hc2 : ¬ v < u)).2.2.1 k) ?_
    refine ownStep (fun _ k => XS.iloadN X0.here hx rfl (hb hby own_mmin_d5) rfl  k) ?_
    refine ownStep (fun _ k => XS.goto X0.here hx rfl (pc0 := 6) (pc' := 10) rfl (hb hby own_mmin_d6) (by decide) (by decide) k) ?_
    show ownGo p.tables e below (s₁.setTop (mkF m 10 #[.val (.int u), .val (.int v)] [(.int u)])) _
    exact ownRet X0 (v := some (.int u)) Bd.notSynchronized (fun h => by rw [Bd.returns] at h; cases h) (fun _ hr => retI X0 hx Bd.returns (hb hby own_mmin_d10) hr) (by rw [e0]; exact ⟨u, rfl, N0, rfl⟩) (by decide) (by decide)
theorem own_mmax_d0 : decode jdk_29_method_65_code 0 = .ok (.iload_n 0, 1) := by decide +kernel
theorem own_mmax_d1 : decode jdk_29_method_65_code 1 = .ok (.iload_n 1, 1) := by decide +kernel
theorem own_mmax_d2 : decode jdk_29_method_65_code 2 = .ok (.if_icmp .lt 7, 3) := by decide +kernel
theorem own_mmax_d5 : decode jdk_29_method_65_code 5 = .ok (.iload_n 0, 1) := by decide +kernel
theorem own_mmax_d6 : decode jdk_29_method_65_code 6 = .ok (.goto 4, 3) := by decide +kernel
theorem own_mmax_d9 : decode jdk_29_method_65_code 9 = .ok (.iload_n 1, 1) := by decide +kernel
theorem own_mmax_d10 : decode jdk_29_method_65_code 10 = .ok (.ireturn, 1) := by decide +kernel
theorem own_mmax_ef (m : MethodId) (x0 : Int32) (x1 : Int32) : entryFrame m #[(.int x0), (.int x1)] 2 = mkF m 0 #[.val (.int x0), .val (.int x1)] [] := by first | (simp [entryFrame, mkF, argsToLocals, Value.category]; done) | rfl
def own_mmax_Q (Z : State) (u : Int32) (v : Int32) (h0 : Heap) (n0 : Nat) (vv_ : Option Value) (hh_ : Heap) (LL_ : List Loc) : Prop := ∃ r : Int32, vv_ = some (.int r) ∧ Fr n0 LL_ ∧ hh_ = h0
set_option maxRecDepth 65536 in
set_option maxHeartbeats 40000000 in
theorem own_mmax (l : Launch) (Z : State) (a0 : Array Value) (hw : ∀ d ∈ tables_1, d.before a0 Z = true) (ws : List Jvm.Cond) (u : Int32) (v : Int32) (h0 : Heap) (n0 : Nat) (Z0 : n0 ≤ h0.size) :
    MetFree l (⟨"java/lang/Math", "max", "(II)I"⟩ : MethodName) (head1 (Jvm.Cond.code (⟨"java/lang/Math", "max", "(II)I"⟩ : MethodName) jdk_29_method_65_code 2 (some .int) :: ws) ({ frames := 0, cells := 0, slots := 0, locals := 0 } : Room)) (fun aa_ UU_ => aa_ = #[(.int u), (.int v)] ∧ Z.Warmed39 UU_.vm ∧ UU_.heap = h0) (fun _ _ _ _ _ => True) (fun _ UU_ oo_ UV_ => ∃ vv_ LL_, oo_ = .returned vv_ ∧ own_mmax_Q Z u v h0 n0 vv_ UV_.heap LL_ ∧ FrameEnd UU_ oo_ UV_ LL_ ({ frames := 0, cells := 0, slots := 0, locals := 0 } : Room).cells ({ frames := 0, cells := 0, slots := 0, locals := 0 } : Room).slots) := by
  refine MetFree.of_bodySF (Jvm.Free.JP.mathPlain rfl (by decide +kernel)) hisR ?_
  intro p e s m args below meth c s₁ Bd hml0 hP hK
  obtain ⟨rfl, hZ, hh⟩ := hP
  have hx := Bd.exec
  have hby := Bd.bytes
  have hml : c.maxLocals = 2 := hml0
  have hown : s.vm.findClass "java/lang/Math" = some m.cls := findClass_of_methodNamed Bd.named
  have hnm := (name_of_methodNamed Bd.named Bd.method).1
  have X0 : Stand p l e ({ frames := 0, cells := 0, slots := 0, locals := 0 } : Room) s m #[(.int u), (.int v)] below meth c s₁ [] 0 0 := Stand.of_body Bd
  have e0 : s₁.heap = h0 := by rw [← hh, Bd.state]; rfl
  have N0 := Fr.nil n0
  have KP0 : Keep h0 h0 [] := Keep.refl _ _
  refine ownFin (Q := own_mmax_Q Z u v h0 n0) ?_
  refine ownStep (fun _ k => castTop (own_mmax_ef m u v) k) ?_
  show ownGo p.tables e below (s₁.setTop (mkF m 0 #[.val (.int u), .val (.int v)] [])) _
  refine ownStep (fun _ k => XS.iloadN X0.here hx rfl (hb hby own_mmax_d0) rfl  k) ?_
  refine ownStep (fun _ k => XS.iloadN X0.here hx rfl (hb hby own_mmax_d1) rfl  k) ?_
  show ownGo p.tables e below (s₁.setTop (mkF m 2 #[.val (.int u), .val (.int v)] [(.int v), (.int u)])) _
  by_cases hc2 : u < v
  · skip
    refine ownStep (fun _ k => XS.icmpYes X0.here hx rfl (pc0 := 2) (pc' := 9) rfl (hb hby own_mmax_d2) rfl (tlt (hc2 : u < v)).1 (by decide) (by decide) k) ?_
    refine ownStep (fun _ k => XS.iloadN X0.here hx rfl (hb hby own_mmax_d9) rfl  k) ?_
    show ownGo p.tables e below (s₁.setTop (mkF m 10 #[.val (.int u), .val (.int v)] [(.int v)])) _
    exact ownRet X0 (v := some (.int v)) Bd.notSynchronized (fun h => by rw [Bd.returns] at h; cases h) (fun _ hr => retI X0 hx Bd.returns (hb hby own_mmax_d10) hr) (by rw [e0]; exact ⟨v, rfl, N0, rfl⟩) (by decide) (by decide)
  · skip
    refine ownStep (fun _ k => XS.icmpNo X0.here hx rfl (hb hby own_mmax_d2) rfl (flt (hc2 : ¬ u < v)).1 k) ?_
    refine ownStep (fun _ k => XS.iloadN X0.here hx rfl (hb hby own_mmax_d5) rfl  k) ?_
    refine ownStep (fun _ k => XS.goto X0.here hx rfl (pc0 := 6) (pc' := 10) rfl (hb hby own_mmax_d6) (by decide) (by decide) k) ?_
    show ownGo p.tables e below (s₁.setTop (mkF m 10 #[.val (.int u), .val (.int v)] [(.int u)])) _
    exact ownRet X0 (v := some (.int u)) Bd.notSynchronized (fun h => by rw [Bd.returns] at h; cases h) (fun _ hr => retI X0 hx Bd.returns (hb hby own_mmax_d10) hr) (by rw [e0]; exact ⟨u, rfl, N0, rfl⟩) (by decide) (by decide)
def own_c5 (c0 c1 c2 c3 c4 : Addr) : Fin 5 → Addr := fun i => match i.1 with | 0 => c0 | 1 => c1 | 2 => c2 | 3 => c3 | _ => c4
theorem own_all5 {P : Addr → Prop} {c0 c1 c2 c3 c4 : Addr} (h0 : P c0) (h1 : P c1) (h2 : P c2) (h3 : P c3) (h4 : P c4) : ∀ i, P (own_c5 c0 c1 c2 c3 c4 i) := by
  rintro ⟨i, hi⟩
  rcases i with _ | _ | _ | _ | _ | i
  · exact h0
  · exact h1
  · exact h2
  · exact h3
  · exact h4
  · omega
theorem own_pairs5 {c0 c1 c2 c3 c4 : Addr} (n01 : c0 ≠ c1) (n02 : c0 ≠ c2) (n03 : c0 ≠ c3) (n04 : c0 ≠ c4) (n12 : c1 ≠ c2) (n13 : c1 ≠ c3) (n14 : c1 ≠ c4) (n23 : c2 ≠ c3) (n24 : c2 ≠ c4) (n34 : c3 ≠ c4) :
    ∀ i j, i ≠ j → own_c5 c0 c1 c2 c3 c4 i ≠ own_c5 c0 c1 c2 c3 c4 j := by
  rintro ⟨i, hi⟩ ⟨j, hj⟩ hij
  rcases i with _ | _ | _ | _ | _ | i <;> rcases j with _ | _ | _ | _ | _ | j <;>
    first | exact absurd rfl hij | exact n01 | exact n02 | exact n03 | exact n04 | exact n12 | exact n13 | exact n14 | exact n23 | exact n24 | exact n34 | exact n01.symm | exact n02.symm | exact n03.symm | exact n04.symm | exact n12.symm | exact n13.symm | exact n14.symm | exact n23.symm | exact n24.symm | exact n34.symm | omega
/-- a list at a, its array at d: the empty one, or one of its own made behind hb; at most m elements, not said which -/
def own_WL (Z : State) (hb : Nat) (ed : Addr) (m : Int32) (h : Heap) (a d : Addr) : Prop :=
  Exa Z h a "java/util/ArrayList" ∧ Fld Z h a "java/util/ArrayList" "elementData" "[Ljava/lang/Object;" (.ref d) ∧ (∃ mc, Fld Z h a "java/util/AbstractList" "modCount" "I" (.int mc)) ∧
  ((d = ed ∧ Fld Z h a "java/util/ArrayList" "size" "I" (.int (0 : Int32))) ∨ (hb ≤ d ∧ ∃ n cl, Fld Z h a "java/util/ArrayList" "size" "I" (.int n) ∧ ¬ n < (0 : Int32) ∧ ¬ m < n ∧ Arr Z h d cl (.object "java/lang/Object") ∧ cl.slots.size = 10 ∧ Ovr Z cl.cls "java/lang/Object"))
def own_CH (Z : State) (hb : Nat) (ed : Addr) (m : Int32) (h : Heap) (c : Fin 5 → Addr) : Prop :=
  ∃ d : Fin 5 → Addr, (∀ i, own_WL Z hb ed m h (c i) (d i)) ∧ ∀ i j, i ≠ j → d i = ed ∨ d i ≠ d j
theorem own_WL_keep {Z : State} {hb : Nat} {ed : Addr} {m m' : Int32} {h h' : Heap} {a d : Addr} {ws : List Addr} (hm : ∀ n : Int32, ¬ m < n → ¬ m' < n) (W : own_WL Z hb ed m h a d) (K : Keep h h' ws) (na : a ∉ ws) (nd : hb ≤ d → d ∉ ws) : own_WL Z hb ed m' h' a d := by
  obtain ⟨E, Fe, ⟨mc, Fm⟩, D⟩ := W
  refine ⟨E.keep K, Fe.keep K na, ⟨mc, Fm.keep K na⟩, ?_⟩
  rcases D with ⟨q, Fs⟩ | ⟨g, n, cl, Fs, h1, h2, A, sz, O⟩
  · exact Or.inl ⟨q, Fs.keep K na⟩
  · exact Or.inr ⟨g, n, cl, Fs.keep K na, h1, hm n h2, ⟨K.2.1 _ _ A.1 (nd g), A.2⟩, sz, O⟩
theorem own_ne1 {x y : Addr} {b : Nat} (h1 : x < b) (h2 : b ≤ y) : x ≠ y := Nat.ne_of_lt (Nat.lt_of_lt_of_le h1 h2)
theorem own_WL_lt {Z : State} {hb : Nat} {ed : Addr} {m : Int32} {h : Heap} {a d : Addr} (hed : ed < hb) (hh : hb ≤ h.size) (W : own_WL Z hb ed m h a d) : d < h.size := by
  obtain ⟨-, -, -, D⟩ := W
  rcases D with ⟨q, -⟩ | ⟨-, n, cl, -, -, -, A, -⟩
  · exact q ▸ Nat.lt_of_lt_of_le hed hh
  · exact A.lt
theorem own_CH_at {Z : State} {hb : Nat} {ed : Addr} {m m' : Int32} {h : Heap} {c : Fin 5 → Addr} (H : own_CH Z hb ed m h c) (hc : ∀ i j, i ≠ j → c i ≠ c j) (hl : ∀ i, c i < hb) (hed : ed < hb) (hh : hb ≤ h.size) (hm : ∀ n : Int32, ¬ m < n → ¬ m' < n) (i : Fin 5) :
    ∃ d, own_WL Z hb ed m h (c i) d ∧ ∀ h' d', (Keep h h' [c i] ∨ (hb ≤ d ∧ Keep h h' [c i, d])) → own_WL Z hb ed m' h' (c i) d' → (d' = d ∨ h.size ≤ d') → own_CH Z hb ed m' h' c := by
  obtain ⟨d, W, P⟩ := H
  refine ⟨d i, W i, fun h' d' K W' D => ⟨fun j => if j = i then d' else d j, fun j => ?_, fun j k hjk => ?_⟩⟩
  · by_cases e : j = i
    · subst e
      simp only [if_true]
      exact W'
    · simp only [if_neg e]
      have hi := hl i
      have hj := hl j
      rcases K with K | ⟨gd, K⟩
      · exact own_WL_keep hm (W j) K (ninS (hc j i e) nin0) fun g => ninS (own_ne1 hi g).symm nin0
      · refine own_WL_keep hm (W j) K (ninS (hc j i e) (ninS (own_ne1 hj gd) nin0)) fun g => ninS (own_ne1 hi g).symm (ninS ?_ nin0)
        rcases P j i e with q | q
        · exact absurd q (own_ne1 hed g).symm
        · exact q
  · have lj := own_WL_lt hed hh (W j)
    have lk := own_WL_lt hed hh (W k)
    by_cases e : j = i
    · have e2 : ¬ k = i := fun z => hjk (e.trans z.symm)
      simp only [if_pos e, if_neg e2]
      rcases D with q | q
      · rw [q]; exact P i k (fun z => e2 z.symm)
      · exact Or.inr (own_ne1 lk q).symm
    · by_cases e2 : k = i
      · simp only [if_neg e, if_pos e2]
        rcases D with q | q
        · rw [q]; exact P j i e
        · exact Or.inr (own_ne1 lj q)
      · simp only [if_neg e, if_neg e2]; exact P j k hjk
theorem own_WL_first {Z : State} {hb : Nat} {ed : Addr} {m : Int32} {h : Heap} {a d : Addr} {k : ClassId} {vs : List Value} {mc : Int32} (hm : ¬ m < (1 : Int32)) (g : hb ≤ d) (E : Exa Z h a "java/util/ArrayList") (Fe : Fld Z h a "java/util/ArrayList" "elementData" "[Ljava/lang/Object;" (.ref d)) (Fm : Fld Z h a "java/util/AbstractList" "modCount" "I" (.int mc))
    (Fs : Fld Z h a "java/util/ArrayList" "size" "I" (.int (1 : Int32))) (V : Arv Z h d k (.object "java/lang/Object") (10 : Int32) vs .null) (O : Ovr Z k "java/lang/Object") : own_WL Z hb ed m h a d := by
  obtain ⟨cl, A, q, S, -⟩ := V
  exact ⟨E, Fe, ⟨_, Fm⟩, Or.inr ⟨g, 1, cl, Fs, by decide, hm, A, S, q ▸ O⟩⟩
theorem own_WL_more {Z : State} {hb : Nat} {ed : Addr} {m m' : Int32} {h : Heap} {a d : Addr} {n mc : Int32} {cl : Cell} {v : Value} (h1 : ¬ n < (0 : Int32)) (h2 : ¬ m < n) (hm : m'.toInt = m.toInt + 1 ∧ m.toInt < 100) (g : hb ≤ d) (sz : cl.slots.size = 10) (O : Ovr Z cl.cls "java/lang/Object") (E : Exa Z h a "java/util/ArrayList")
    (Fe : Fld Z h a "java/util/ArrayList" "elementData" "[Ljava/lang/Object;" (.ref d)) (Fm : Fld Z h a "java/util/AbstractList" "modCount" "I" (.int mc)) (Fs : Fld Z h a "java/util/ArrayList" "size" "I" (.int (n + (1 : Int32)))) (A : Arr Z h d (cl.setSlot n.toNatClampNeg v) (.object "java/lang/Object")) : own_WL Z hb ed m' h a d := by
  have e0 : (0 : Int32).toInt = 0 := by decide
  have e1 : (1 : Int32).toInt = 1 := by decide
  have c1 := c_iadd n (1 : Int32)
  have r1 := rng32 n
  have r2 := rng32 (n + (1 : Int32))
  rw [Int32.lt_iff_toInt_lt, e0] at h1
  rw [Int32.lt_iff_toInt_lt] at h2
  rw [e1] at c1
  refine ⟨E, Fe, ⟨_, Fm⟩, Or.inr ⟨g, n + 1, _, Fs, ?_, ?_, A, by rw [sz_set]; exact sz, O⟩⟩
  · rw [Int32.lt_iff_toInt_lt, e0]; omega
  · rw [Int32.lt_iff_toInt_lt]; omega
theorem own_lt10 {m n : Int32} (hm : m.toInt < 10) (h : ¬ m < n) : n < (10 : Int32) := by
  have e : (10 : Int32).toInt = 10 := by decide
  rw [Int32.lt_iff_toInt_lt] at h
  rw [Int32.lt_iff_toInt_lt, e]; omega
theorem own_mono {m m' : Int32} (hm : m.toInt ≤ m'.toInt) : ∀ n : Int32, ¬ m < n → ¬ m' < n := fun n h => by
  rw [Int32.lt_iff_toInt_lt] at h ⊢; omega
theorem own_b2 {a : Int32} (h : a = (0 : Int32) ∨ a = (1 : Int32)) : ¬ a < (0 : Int32) ∧ a < (5 : Int32) := by rcases h with rfl | rfl <;> decide
theorem own_b3 {a : Int32} (h : a = (0 : Int32) ∨ a = (1 : Int32) ∨ a = (2 : Int32)) : ¬ a < (0 : Int32) ∧ a < (5 : Int32) := by rcases h with rfl | rfl | rfl <;> decide
theorem own_b4 {a : Int32} (h : a = (0 : Int32) ∨ a = (1 : Int32) ∨ a = (2 : Int32) ∨ a = (3 : Int32)) : ¬ a < (0 : Int32) ∧ a < (5 : Int32) := by rcases h with rfl | rfl | rfl | rfl <;> decide
theorem own_ctor_d0 : decode prog_15_method_1_code 0 = .ok (.aload_n 0, 1) := by decide +kernel
theorem own_ctor_d1 : decode prog_15_method_1_code 1 = .ok (.invokespecial 1, 3) := by decide +kernel
theorem own_ctor_d4 : decode prog_15_method_1_code 4 = .ok (.aload_n 0, 1) := by decide +kernel
theorem own_ctor_d5 : decode prog_15_method_1_code 5 = .ok (.new 7, 3) := by decide +kernel
theorem own_ctor_d8 : decode prog_15_method_1_code 8 = .ok (.dup, 1) := by decide +kernel
theorem own_ctor_d9 : decode prog_15_method_1_code 9 = .ok (.invokespecial 9, 3) := by decide +kernel
theorem own_ctor_d12 : decode prog_15_method_1_code 12 = .ok (.putfield 10, 3) := by decide +kernel
theorem own_ctor_d15 : decode prog_15_method_1_code 15 = .ok (.aload_n 0, 1) := by decide +kernel
theorem own_ctor_d16 : decode prog_15_method_1_code 16 = .ok (.aload_n 1, 1) := by decide +kernel
theorem own_ctor_d17 : decode prog_15_method_1_code 17 = .ok (.putfield 16, 3) := by decide +kernel
theorem own_ctor_d20 : decode prog_15_method_1_code 20 = .ok (.aload_n 0, 1) := by decide +kernel
theorem own_ctor_d21 : decode prog_15_method_1_code 21 = .ok (.aload_n 2, 1) := by decide +kernel
theorem own_ctor_d22 : decode prog_15_method_1_code 22 = .ok (.putfield 20, 3) := by decide +kernel
theorem own_ctor_d25 : decode prog_15_method_1_code 25 = .ok (.aload_n 0, 1) := by decide +kernel
theorem own_ctor_d26 : decode prog_15_method_1_code 26 = .ok (.aload_n 3, 1) := by decide +kernel
theorem own_ctor_d27 : decode prog_15_method_1_code 27 = .ok (.putfield 23, 3) := by decide +kernel
theorem own_ctor_d30 : decode prog_15_method_1_code 30 = .ok (.aload_n 0, 1) := by decide +kernel
theorem own_ctor_d31 : decode prog_15_method_1_code 31 = .ok (.aload 4, 2) := by decide +kernel
theorem own_ctor_d33 : decode prog_15_method_1_code 33 = .ok (.putfield 27, 3) := by decide +kernel
theorem own_ctor_d36 : decode prog_15_method_1_code 36 = .ok (.aload_n 0, 1) := by decide +kernel
theorem own_ctor_d37 : decode prog_15_method_1_code 37 = .ok (.aload_n 2, 1) := by decide +kernel
theorem own_ctor_d38 : decode prog_15_method_1_code 38 = .ok (.arraylength, 1) := by decide +kernel
theorem own_ctor_d39 : decode prog_15_method_1_code 39 = .ok (.newarray .int, 2) := by decide +kernel
theorem own_ctor_d41 : decode prog_15_method_1_code 41 = .ok (.putfield 30, 3) := by decide +kernel
theorem own_ctor_d44 : decode prog_15_method_1_code 44 = .ok (.aload_n 0, 1) := by decide +kernel
theorem own_ctor_d45 : decode prog_15_method_1_code 45 = .ok (.aload_n 2, 1) := by decide +kernel
theorem own_ctor_d46 : decode prog_15_method_1_code 46 = .ok (.arraylength, 1) := by decide +kernel
theorem own_ctor_d47 : decode prog_15_method_1_code 47 = .ok (.newarray .int, 2) := by decide +kernel
theorem own_ctor_d49 : decode prog_15_method_1_code 49 = .ok (.putfield 33, 3) := by decide +kernel
theorem own_ctor_d52 : decode prog_15_method_1_code 52 = .ok (.iconst 0, 1) := by decide +kernel
theorem own_ctor_d53 : decode prog_15_method_1_code 53 = .ok (.istore 7, 2) := by decide +kernel
theorem own_ctor_d55 : decode prog_15_method_1_code 55 = .ok (.iload 7, 2) := by decide +kernel
theorem own_ctor_d57 : decode prog_15_method_1_code 57 = .ok (.aload_n 2, 1) := by decide +kernel
theorem own_ctor_d58 : decode prog_15_method_1_code 58 = .ok (.arraylength, 1) := by decide +kernel
theorem own_ctor_d59 : decode prog_15_method_1_code 59 = .ok (.if_icmp .ge 43, 3) := by decide +kernel
theorem own_ctor_d62 : decode prog_15_method_1_code 62 = .ok (.aload_n 0, 1) := by decide +kernel
theorem own_ctor_d63 : decode prog_15_method_1_code 63 = .ok (.getfield 10, 3) := by decide +kernel
theorem own_ctor_d66 : decode prog_15_method_1_code 66 = .ok (.new 7, 3) := by decide +kernel
theorem own_ctor_d69 : decode prog_15_method_1_code 69 = .ok (.dup, 1) := by decide +kernel
theorem own_ctor_d70 : decode prog_15_method_1_code 70 = .ok (.invokespecial 9, 3) := by decide +kernel
theorem own_ctor_d73 : decode prog_15_method_1_code 73 = .ok (.invokeinterface 36 2, 5) := by decide +kernel
theorem own_ctor_d78 : decode prog_15_method_1_code 78 = .ok (.pop, 1) := by decide +kernel
theorem own_ctor_d79 : decode prog_15_method_1_code 79 = .ok (.aload_n 0, 1) := by decide +kernel
theorem own_ctor_d80 : decode prog_15_method_1_code 80 = .ok (.getfield 30, 3) := by decide +kernel
theorem own_ctor_d83 : decode prog_15_method_1_code 83 = .ok (.iload 7, 2) := by decide +kernel
theorem own_ctor_d85 : decode prog_15_method_1_code 85 = .ok (.iload 6, 2) := by decide +kernel
theorem own_ctor_d87 : decode prog_15_method_1_code 87 = .ok (.iastore, 1) := by decide +kernel
theorem own_ctor_d88 : decode prog_15_method_1_code 88 = .ok (.aload_n 0, 1) := by decide +kernel
theorem own_ctor_d89 : decode prog_15_method_1_code 89 = .ok (.getfield 33, 3) := by decide +kernel
theorem own_ctor_d92 : decode prog_15_method_1_code 92 = .ok (.iload 7, 2) := by decide +kernel
theorem own_ctor_d94 : decode prog_15_method_1_code 94 = .ok (.iconst (-1), 1) := by decide +kernel
theorem own_ctor_d95 : decode prog_15_method_1_code 95 = .ok (.iastore, 1) := by decide +kernel
theorem own_ctor_d96 : decode prog_15_method_1_code 96 = .ok (.iinc 7 1, 3) := by decide +kernel
theorem own_ctor_d99 : decode prog_15_method_1_code 99 = .ok (.goto (-44), 3) := by decide +kernel
theorem own_ctor_d102 : decode prog_15_method_1_code 102 = .ok (.iconst 1, 1) := by decide +kernel
theorem own_ctor_d103 : decode prog_15_method_1_code 103 = .ok (.istore 7, 2) := by decide +kernel
theorem own_ctor_d105 : decode prog_15_method_1_code 105 = .ok (.iload 7, 2) := by decide +kernel
theorem own_ctor_d107 : decode prog_15_method_1_code 107 = .ok (.aload_n 2, 1) := by decide +kernel
theorem own_ctor_d108 : decode prog_15_method_1_code 108 = .ok (.arraylength, 1) := by decide +kernel
theorem own_ctor_d109 : decode prog_15_method_1_code 109 = .ok (.if_icmp .ge 36, 3) := by decide +kernel
theorem own_ctor_d112 : decode prog_15_method_1_code 112 = .ok (.aload_n 0, 1) := by decide +kernel
theorem own_ctor_d113 : decode prog_15_method_1_code 113 = .ok (.getfield 10, 3) := by decide +kernel
theorem own_ctor_d116 : decode prog_15_method_1_code 116 = .ok (.aload_n 2, 1) := by decide +kernel
theorem own_ctor_d117 : decode prog_15_method_1_code 117 = .ok (.iload 7, 2) := by decide +kernel
theorem own_ctor_d119 : decode prog_15_method_1_code 119 = .ok (.iaload, 1) := by decide +kernel
theorem own_ctor_d120 : decode prog_15_method_1_code 120 = .ok (.invokeinterface 42 2, 5) := by decide +kernel
theorem own_ctor_d125 : decode prog_15_method_1_code 125 = .ok (.checkcast 37, 3) := by decide +kernel
theorem own_ctor_d128 : decode prog_15_method_1_code 128 = .ok (.iload 7, 2) := by decide +kernel
theorem own_ctor_d130 : decode prog_15_method_1_code 130 = .ok (.invokestatic 46, 3) := by decide +kernel
theorem own_ctor_d133 : decode prog_15_method_1_code 133 = .ok (.invokeinterface 36 2, 5) := by decide +kernel
theorem own_ctor_d138 : decode prog_15_method_1_code 138 = .ok (.pop, 1) := by decide +kernel
theorem own_ctor_d139 : decode prog_15_method_1_code 139 = .ok (.iinc 7 1, 3) := by decide +kernel
theorem own_ctor_d142 : decode prog_15_method_1_code 142 = .ok (.goto (-37), 3) := by decide +kernel
theorem own_ctor_d145 : decode prog_15_method_1_code 145 = .ok (.iconst 0, 1) := by decide +kernel
theorem own_ctor_d146 : decode prog_15_method_1_code 146 = .ok (.istore 7, 2) := by decide +kernel
theorem own_ctor_d148 : decode prog_15_method_1_code 148 = .ok (.iload 7, 2) := by decide +kernel
theorem own_ctor_d150 : decode prog_15_method_1_code 150 = .ok (.aload_n 1, 1) := by decide +kernel
theorem own_ctor_d151 : decode prog_15_method_1_code 151 = .ok (.arraylength, 1) := by decide +kernel
theorem own_ctor_d152 : decode prog_15_method_1_code 152 = .ok (.if_icmp .ge 61, 3) := by decide +kernel
theorem own_ctor_d155 : decode prog_15_method_1_code 155 = .ok (.aload_n 0, 1) := by decide +kernel
theorem own_ctor_d156 : decode prog_15_method_1_code 156 = .ok (.getfield 30, 3) := by decide +kernel
theorem own_ctor_d159 : decode prog_15_method_1_code 159 = .ok (.aload_n 1, 1) := by decide +kernel
theorem own_ctor_d160 : decode prog_15_method_1_code 160 = .ok (.iload 7, 2) := by decide +kernel
theorem own_ctor_d162 : decode prog_15_method_1_code 162 = .ok (.iaload, 1) := by decide +kernel
theorem own_ctor_d163 : decode prog_15_method_1_code 163 = .ok (.aload_n 0, 1) := by decide +kernel
theorem own_ctor_d164 : decode prog_15_method_1_code 164 = .ok (.getfield 30, 3) := by decide +kernel
theorem own_ctor_d167 : decode prog_15_method_1_code 167 = .ok (.aload_n 1, 1) := by decide +kernel
theorem own_ctor_d168 : decode prog_15_method_1_code 168 = .ok (.iload 7, 2) := by decide +kernel
theorem own_ctor_d170 : decode prog_15_method_1_code 170 = .ok (.iaload, 1) := by decide +kernel
theorem own_ctor_d171 : decode prog_15_method_1_code 171 = .ok (.iaload, 1) := by decide +kernel
theorem own_ctor_d172 : decode prog_15_method_1_code 172 = .ok (.aload 5, 2) := by decide +kernel
theorem own_ctor_d174 : decode prog_15_method_1_code 174 = .ok (.iload 7, 2) := by decide +kernel
theorem own_ctor_d176 : decode prog_15_method_1_code 176 = .ok (.iaload, 1) := by decide +kernel
theorem own_ctor_d177 : decode prog_15_method_1_code 177 = .ok (.invokestatic 52, 3) := by decide +kernel
theorem own_ctor_d180 : decode prog_15_method_1_code 180 = .ok (.iastore, 1) := by decide +kernel
theorem own_ctor_d181 : decode prog_15_method_1_code 181 = .ok (.aload_n 0, 1) := by decide +kernel
theorem own_ctor_d182 : decode prog_15_method_1_code 182 = .ok (.getfield 33, 3) := by decide +kernel
theorem own_ctor_d185 : decode prog_15_method_1_code 185 = .ok (.aload_n 1, 1) := by decide +kernel
theorem own_ctor_d186 : decode prog_15_method_1_code 186 = .ok (.iload 7, 2) := by decide +kernel
theorem own_ctor_d188 : decode prog_15_method_1_code 188 = .ok (.iaload, 1) := by decide +kernel
theorem own_ctor_d189 : decode prog_15_method_1_code 189 = .ok (.aload_n 0, 1) := by decide +kernel
theorem own_ctor_d190 : decode prog_15_method_1_code 190 = .ok (.getfield 33, 3) := by decide +kernel
theorem own_ctor_d193 : decode prog_15_method_1_code 193 = .ok (.aload_n 1, 1) := by decide +kernel
theorem own_ctor_d194 : decode prog_15_method_1_code 194 = .ok (.iload 7, 2) := by decide +kernel
theorem own_ctor_d196 : decode prog_15_method_1_code 196 = .ok (.iaload, 1) := by decide +kernel
theorem own_ctor_d197 : decode prog_15_method_1_code 197 = .ok (.iaload, 1) := by decide +kernel
theorem own_ctor_d198 : decode prog_15_method_1_code 198 = .ok (.aload 5, 2) := by decide +kernel
theorem own_ctor_d200 : decode prog_15_method_1_code 200 = .ok (.iload 7, 2) := by decide +kernel
theorem own_ctor_d202 : decode prog_15_method_1_code 202 = .ok (.iaload, 1) := by decide +kernel
theorem own_ctor_d203 : decode prog_15_method_1_code 203 = .ok (.invokestatic 58, 3) := by decide +kernel
theorem own_ctor_d206 : decode prog_15_method_1_code 206 = .ok (.iastore, 1) := by decide +kernel
theorem own_ctor_d207 : decode prog_15_method_1_code 207 = .ok (.iinc 7 1, 3) := by decide +kernel
theorem own_ctor_d210 : decode prog_15_method_1_code 210 = .ok (.goto (-62), 3) := by decide +kernel
theorem own_ctor_d213 : decode prog_15_method_1_code 213 = .ok (.aload_n 2, 1) := by decide +kernel
theorem own_ctor_d214 : decode prog_15_method_1_code 214 = .ok (.arraylength, 1) := by decide +kernel
theorem own_ctor_d215 : decode prog_15_method_1_code 215 = .ok (.iconst 1, 1) := by decide +kernel
theorem own_ctor_d216 : decode prog_15_method_1_code 216 = .ok (.isub, 1) := by decide +kernel
theorem own_ctor_d217 : decode prog_15_method_1_code 217 = .ok (.istore 7, 2) := by decide +kernel
theorem own_ctor_d219 : decode prog_15_method_1_code 219 = .ok (.iload 7, 2) := by decide +kernel
theorem own_ctor_d221 : decode prog_15_method_1_code 221 = .ok (.ifCond .le 65, 3) := by decide +kernel
theorem own_ctor_d224 : decode prog_15_method_1_code 224 = .ok (.aload_n 0, 1) := by decide +kernel
theorem own_ctor_d225 : decode prog_15_method_1_code 225 = .ok (.getfield 30, 3) := by decide +kernel
theorem own_ctor_d228 : decode prog_15_method_1_code 228 = .ok (.aload_n 2, 1) := by decide +kernel
theorem own_ctor_d229 : decode prog_15_method_1_code 229 = .ok (.iload 7, 2) := by decide +kernel
theorem own_ctor_d231 : decode prog_15_method_1_code 231 = .ok (.iaload, 1) := by decide +kernel
theorem own_ctor_d232 : decode prog_15_method_1_code 232 = .ok (.aload_n 0, 1) := by decide +kernel
theorem own_ctor_d233 : decode prog_15_method_1_code 233 = .ok (.getfield 30, 3) := by decide +kernel
theorem own_ctor_d236 : decode prog_15_method_1_code 236 = .ok (.aload_n 2, 1) := by decide +kernel
theorem own_ctor_d237 : decode prog_15_method_1_code 237 = .ok (.iload 7, 2) := by decide +kernel
theorem own_ctor_d239 : decode prog_15_method_1_code 239 = .ok (.iaload, 1) := by decide +kernel
theorem own_ctor_d240 : decode prog_15_method_1_code 240 = .ok (.iaload, 1) := by decide +kernel
theorem own_ctor_d241 : decode prog_15_method_1_code 241 = .ok (.aload_n 0, 1) := by decide +kernel
theorem own_ctor_d242 : decode prog_15_method_1_code 242 = .ok (.getfield 30, 3) := by decide +kernel
theorem own_ctor_d245 : decode prog_15_method_1_code 245 = .ok (.iload 7, 2) := by decide +kernel
theorem own_ctor_d247 : decode prog_15_method_1_code 247 = .ok (.iaload, 1) := by decide +kernel
theorem own_ctor_d248 : decode prog_15_method_1_code 248 = .ok (.invokestatic 52, 3) := by decide +kernel
theorem own_ctor_d251 : decode prog_15_method_1_code 251 = .ok (.iastore, 1) := by decide +kernel
theorem own_ctor_d252 : decode prog_15_method_1_code 252 = .ok (.aload_n 0, 1) := by decide +kernel
theorem own_ctor_d253 : decode prog_15_method_1_code 253 = .ok (.getfield 33, 3) := by decide +kernel
theorem own_ctor_d256 : decode prog_15_method_1_code 256 = .ok (.aload_n 2, 1) := by decide +kernel
theorem own_ctor_d257 : decode prog_15_method_1_code 257 = .ok (.iload 7, 2) := by decide +kernel
theorem own_ctor_d259 : decode prog_15_method_1_code 259 = .ok (.iaload, 1) := by decide +kernel
theorem own_ctor_d260 : decode prog_15_method_1_code 260 = .ok (.aload_n 0, 1) := by decide +kernel
theorem own_ctor_d261 : decode prog_15_method_1_code 261 = .ok (.getfield 33, 3) := by decide +kernel
theorem own_ctor_d264 : decode prog_15_method_1_code 264 = .ok (.aload_n 2, 1) := by decide +kernel
theorem own_ctor_d265 : decode prog_15_method_1_code 265 = .ok (.iload 7, 2) := by decide +kernel
theorem own_ctor_d267 : decode prog_15_method_1_code 267 = .ok (.iaload, 1) := by decide +kernel
theorem own_ctor_d268 : decode prog_15_method_1_code 268 = .ok (.iaload, 1) := by decide +kernel
theorem own_ctor_d269 : decode prog_15_method_1_code 269 = .ok (.aload_n 0, 1) := by decide +kernel
theorem own_ctor_d270 : decode prog_15_method_1_code 270 = .ok (.getfield 33, 3) := by decide +kernel
theorem own_ctor_d273 : decode prog_15_method_1_code 273 = .ok (.iload 7, 2) := by decide +kernel
theorem own_ctor_d275 : decode prog_15_method_1_code 275 = .ok (.iaload, 1) := by decide +kernel
theorem own_ctor_d276 : decode prog_15_method_1_code 276 = .ok (.invokestatic 58, 3) := by decide +kernel
theorem own_ctor_d279 : decode prog_15_method_1_code 279 = .ok (.iastore, 1) := by decide +kernel
theorem own_ctor_d280 : decode prog_15_method_1_code 280 = .ok (.iinc 7 (-1), 3) := by decide +kernel
theorem own_ctor_d283 : decode prog_15_method_1_code 283 = .ok (.goto (-64), 3) := by decide +kernel
theorem own_ctor_d286 : decode prog_15_method_1_code 286 = .ok (.aload_n 0, 1) := by decide +kernel
theorem own_ctor_d287 : decode prog_15_method_1_code 287 = .ok (.getfield 30, 3) := by decide +kernel
theorem own_ctor_d290 : decode prog_15_method_1_code 290 = .ok (.iconst 0, 1) := by decide +kernel
theorem own_ctor_d291 : decode prog_15_method_1_code 291 = .ok (.iconst 0, 1) := by decide +kernel
theorem own_ctor_d292 : decode prog_15_method_1_code 292 = .ok (.iastore, 1) := by decide +kernel
theorem own_ctor_d293 : decode prog_15_method_1_code 293 = .ok (.aload_n 0, 1) := by decide +kernel
theorem own_ctor_d294 : decode prog_15_method_1_code 294 = .ok (.getfield 33, 3) := by decide +kernel
theorem own_ctor_d297 : decode prog_15_method_1_code 297 = .ok (.iconst 0, 1) := by decide +kernel
theorem own_ctor_d298 : decode prog_15_method_1_code 298 = .ok (.iload 6, 2) := by decide +kernel
theorem own_ctor_d300 : decode prog_15_method_1_code 300 = .ok (.iconst 1, 1) := by decide +kernel
theorem own_ctor_d301 : decode prog_15_method_1_code 301 = .ok (.isub, 1) := by decide +kernel
theorem own_ctor_d302 : decode prog_15_method_1_code 302 = .ok (.iastore, 1) := by decide +kernel
theorem own_ctor_d303 : decode prog_15_method_1_code 303 = .ok (.iconst 1, 1) := by decide +kernel
theorem own_ctor_d304 : decode prog_15_method_1_code 304 = .ok (.istore 7, 2) := by decide +kernel
theorem own_ctor_d306 : decode prog_15_method_1_code 306 = .ok (.iload 7, 2) := by decide +kernel
theorem own_ctor_d308 : decode prog_15_method_1_code 308 = .ok (.aload_n 2, 1) := by decide +kernel
theorem own_ctor_d309 : decode prog_15_method_1_code 309 = .ok (.arraylength, 1) := by decide +kernel
theorem own_ctor_d310 : decode prog_15_method_1_code 310 = .ok (.if_icmp .ge 48, 3) := by decide +kernel
theorem own_ctor_d313 : decode prog_15_method_1_code 313 = .ok (.aload_n 3, 1) := by decide +kernel
theorem own_ctor_d314 : decode prog_15_method_1_code 314 = .ok (.iload 7, 2) := by decide +kernel
theorem own_ctor_d316 : decode prog_15_method_1_code 316 = .ok (.baload, 1) := by decide +kernel
theorem own_ctor_d317 : decode prog_15_method_1_code 317 = .ok (.ifCond .eq 35, 3) := by decide +kernel
theorem own_ctor_d352 : decode prog_15_method_1_code 352 = .ok (.iinc 7 1, 3) := by decide +kernel
theorem own_ctor_d355 : decode prog_15_method_1_code 355 = .ok (.goto (-49), 3) := by decide +kernel
theorem own_ctor_d358 : decode prog_15_method_1_code 358 = .ok (.return_, 1) := by decide +kernel
theorem own_ctor_pn : plainName "com/example/adept_layout/adeptlayout/layout/Nesting" = true := by first | (simp [plainName, overriddenIn]; done) | decide +kernel
theorem own_ctor_pd0 : parseMethodDescriptor "()V" = some ⟨[], none⟩ := by decide +kernel
theorem own_ctor_pd1 : parseMethodDescriptor "(Ljava/lang/Object;)Z" = some ⟨[(.object "java/lang/Object")], some .boolean⟩ := by decide +kernel
theorem own_ctor_pd2 : parseMethodDescriptor "(II)I" = some ⟨[.int, .int], some .int⟩ := by decide +kernel
theorem own_ctor_pd3 : parseMethodDescriptor "(I)Ljava/lang/Object;" = some ⟨[.int], some (.object "java/lang/Object")⟩ := by decide +kernel
theorem own_ctor_pd4 : parseMethodDescriptor "(I)Ljava/lang/Integer;" = some ⟨[.int], some (.object "java/lang/Integer")⟩ := by decide +kernel
theorem own_ctor_ef (m : MethodId) (x0 : Addr) (x1 : Addr) (x2 : Addr) (x3 : Addr) (x4 : Addr) (x5 : Addr) (x6 : Int32) : entryFrame m #[(.ref x0), (.ref x1), (.ref x2), (.ref x3), (.ref x4), (.ref x5), (.int x6)] 8 = mkF m 0 #[.val (.ref x0), .val (.ref x1), .val (.ref x2), .val (.ref x3), .val (.ref x4), .val (.ref x5), .val (.int x6), .unset] [] := by first | (simp [entryFrame, mkF, argsToLocals, Value.category]; done) | rfl
def own_ctor_Q (Z : State) (ed : Addr) (kd : ClassId) (ca : Addr) (clc : Cell) (a : Addr) (ow : Addr) (pa : Addr) (la : Addr) (ls : Addr) (ly : Addr) (ko : ClassId) (kp : ClassId) (kl : ClassId) (ky : ClassId) (a2 : Int32) (a3 : Int32) (a4 : Int32) (o0 : Int32) (o1 : Int32) (h0 : Heap) (n0 : Nat) (vv_ : Option Value) (hh_ : Heap) (LL_ : List Loc) : Prop := vv_ = none ∧ Fr n0 LL_ ∧ Keep h0 hh_ [a] ∧ Fld Z hh_ a "com/example/adept_layout/adeptlayout/layout/Nesting" "owner" "[I" (.ref ow) ∧ Fld Z hh_ a "com/example/adept_layout/adeptlayout/layout/Nesting" "parent" "[I" (.ref pa)
set_option maxRecDepth 65536 in
set_option maxHeartbeats 40000000 in
theorem own_ctor (l : Launch) (Z : State) (a0 : Array Value) (hw : ∀ d ∈ tables_1, d.before a0 Z = true) (ws : List Jvm.Cond) (ed : Addr) (kd : ClassId) (ca : Addr) (clc : Cell) (a : Addr) (ow : Addr) (pa : Addr) (la : Addr) (ls : Addr) (ly : Addr) (ko : ClassId) (kp : ClassId) (kl : ClassId) (ky : ClassId) (a2 : Int32) (a3 : Int32) (a4 : Int32) (o0 : Int32) (o1 : Int32) (h0 : Heap) (n0 : Nat) (Z0 : n0 ≤ h0.size) (hOld : Old Z n0 h0) (S : Sta Z Z.heap "java/util/ArrayList" "DEFAULTCAPACITY_EMPTY_ELEMENTDATA" "[Ljava/lang/Object;" (.ref ed)) (V : Arv Z Z.heap ed kd (.object "java/lang/Object") (0 : Int32) [] .null) (Sh : Sta Z Z.heap "java/lang/Integer$IntegerCache" "high" "I" (.int (127 : Int32))) (Sc : Sta Z Z.heap "java/lang/Integer$IntegerCache" "cache" "[Ljava/lang/Integer;" (.ref ca)) (BX : Bxs Z ca clc "java/lang/Integer" "I" (256 : Int32) (fun j => .int (j - (128 : Int32)))) (E : Exa Z h0 a "com/example/adept_layout/adeptlayout/layout/Nesting") (g : n0 ≤ a) (F_children : Fld Z h0 a "com/example/adept_layout/adeptlayout/layout/Nesting" "children" "Ljava/util/List;" .null) (F_owner : Fld Z h0 a "com/example/adept_layout/adeptlayout/layout/Nesting" "owner" "[I" .null) (F_parent : Fld Z h0 a "com/example/adept_layout/adeptlayout/layout/Nesting" "parent" "[I" .null) (F_lane : Fld Z h0 a "com/example/adept_layout/adeptlayout/layout/Nesting" "lane" "[Z" .null) (F_listedSide : Fld Z h0 a "com/example/adept_layout/adeptlayout/layout/Nesting" "listedSide" "[I" .null) (F_first : Fld Z h0 a "com/example/adept_layout/adeptlayout/layout/Nesting" "first" "[I" .null) (F_last : Fld Z h0 a "com/example/adept_layout/adeptlayout/layout/Nesting" "last" "[I" .null) (VP : Arv Z h0 pa kp .int (5 : Int32) [(.int (-1 : Int32)), (.int (0 : Int32)), (.int a2), (.int a3), (.int a4)] (.int (0 : Int32))) (VO : Arv Z h0 ow ko .int (2 : Int32) [(.int o0), (.int o1)] (.int (0 : Int32))) (VL : Arv Z h0 la kl .boolean (5 : Int32) [(.int (0 : Int32)), (.int (0 : Int32)), (.int (0 : Int32)), (.int (0 : Int32)), (.int (0 : Int32))] (.int (0 : Int32))) (VY : Arv Z h0 ly ky .int (2 : Int32) [(.int (0 : Int32)), (.int (0 : Int32))] (.int (0 : Int32))) (ra2 : a2 = (0 : Int32) ∨ a2 = (1 : Int32)) (ra3 : a3 = (0 : Int32) ∨ a3 = (1 : Int32) ∨ a3 = (2 : Int32)) (ra4 : a4 = (0 : Int32) ∨ a4 = (1 : Int32) ∨ a4 = (2 : Int32) ∨ a4 = (3 : Int32)) (c0l : ¬ o0 < (0 : Int32)) (c0h : o0 < (5 : Int32)) (c1l : ¬ o1 < (0 : Int32)) (c1h : o1 < (5 : Int32)) (dn0 : pa ≠ a) (dn1 : ow ≠ a) (dn2 : la ≠ a) (dn3 : ly ≠ a) :
    MetFree l (⟨"com/example/adept_layout/adeptlayout/layout/Nesting", "<init>", "([I[I[Z[I[II)V"⟩ : MethodName) (head1 (Jvm.Cond.code (⟨"com/example/adept_layout/adeptlayout/layout/Nesting", "<init>", "([I[I[Z[I[II)V"⟩ : MethodName) prog_15_method_1_code 8 none :: ws) ({ frames := 5, cells := 17, slots := 118, locals := 69 } : Room)) (fun aa_ UU_ => aa_ = #[(.ref a), (.ref ow), (.ref pa), (.ref la), (.ref ls), (.ref ly), (.int (1 : Int32))] ∧ Z.Warmed39 UU_.vm ∧ UU_.heap = h0) (fun _ _ _ _ _ => True) (fun _ UU_ oo_ UV_ => ∃ vv_ LL_, oo_ = .returned vv_ ∧ own_ctor_Q Z ed kd ca clc a ow pa la ls ly ko kp kl ky a2 a3 a4 o0 o1 h0 n0 vv_ UV_.heap LL_ ∧ FrameEnd UU_ oo_ UV_ LL_ ({ frames := 5, cells := 17, slots := 118, locals := 69 } : Room).cells ({ frames := 5, cells := 17, slots := 118, locals := 69 } : Room).slots) := by
  refine MetFree.of_bodySF (plainFor_of_name own_ctor_pn) hisR ?_
  intro p e s m args below meth c s₁ Bd hml0 hP hK
  obtain ⟨rfl, hZ, hh⟩ := hP
  have hx := Bd.exec
  have hby := Bd.bytes
  have hml : c.maxLocals = 8 := hml0
  have hown : s.vm.findClass "com/example/adept_layout/adeptlayout/layout/Nesting" = some m.cls := findClass_of_methodNamed Bd.named
  have hnm := (name_of_methodNamed Bd.named Bd.method).1
  have X0 : Stand p l e ({ frames := 5, cells := 17, slots := 118, locals := 69 } : Room) s m #[(.ref a), (.ref ow), (.ref pa), (.ref la), (.ref ls), (.ref ly), (.int (1 : Int32))] below meth c s₁ [] 0 0 := Stand.of_body Bd
  have e0 : s₁.heap = h0 := by rw [← hh, Bd.state]; rfl
  have N0 := Fr.nil n0
  have KP0 : Keep h0 h0 [a] := Keep.refl _ _
  refine ownFin (Q := own_ctor_Q Z ed kd ca clc a ow pa la ls ly ko kp kl ky a2 a3 a4 o0 o1 h0 n0) ?_
  refine ownStep (fun _ k => castTop (own_ctor_ef m a ow pa la ls ly (1 : Int32)) k) ?_
  show ownGo p.tables e below (s₁.setTop (mkF m 0 #[.val (.ref a), .val (.ref ow), .val (.ref pa), .val (.ref la), .val (.ref ls), .val (.ref ly), .val (.int (1 : Int32)), .unset] [])) _
  refine ownStep (fun _ k => XS.aloadN X0.here hx rfl (hb hby own_ctor_d0) rfl rfl k) ?_
  show ownGo p.tables e below (s₁.setTop (mkF m 1 #[.val (.ref a), .val (.ref ow), .val (.ref pa), .val (.ref la), .val (.ref ls), .val (.ref ly), .val (.int (1 : Int32)), .unset] [(.ref a)])) _
  obtain ⟨T1, X1, e1, st1⟩ := initO X0 hx hZ hown (hw _ (List.mem_of_getElem? (i := 9) rfl)) (hw _ (List.mem_of_getElem? (i := 10) rfl)) (hw _ (List.mem_of_getElem? (i := 11) rfl)) e0 (g := (mkF m 1 #[.val (.ref a), .val (.ref ow), .val (.ref pa), .val (.ref la), .val (.ref ls), .val (.ref ly), .val (.int (1 : Int32)), .unset] [(.ref a)])) rfl (by rw [hml]; rfl) rfl (hb hby own_ctor_d1) (by decide) (W := 0) (by show 2 * 0 + _ ≤ _; exact Nat.le_of_eq rfl) (by decide)
  refine ownStep st1 ?_
  refine ownStep (fun _ k => XS.aloadN X1.here hx rfl (hb hby own_ctor_d4) rfl rfl k) ?_
  show ownGo p.tables e below (T1.setTop (mkF m 5 #[.val (.ref a), .val (.ref ow), .val (.ref pa), .val (.ref la), .val (.ref ls), .val (.ref ly), .val (.int (1 : Int32)), .unset] [(.ref a)])) _
  obtain ⟨T2, h2, X2, e2, E2, A2, D2, U2, st2⟩ := newO X1 hx hZ hown (hw _ (List.mem_of_getElem? (i := 12) rfl)) (hw _ (List.mem_of_getElem? (i := 13) rfl)) (hw _ (List.mem_of_getElem? (i := 14) rfl)) e1 (g := (mkF m 5 #[.val (.ref a), .val (.ref ow), .val (.ref pa), .val (.ref la), .val (.ref ls), .val (.ref ly), .val (.int (1 : Int32)), .unset] [(.ref a)])) rfl (hb hby own_ctor_d5) (by decide) (by decide)
  obtain ⟨b2, g2⟩ : ∃ z, z = h0.size := ⟨_, rfl⟩
  rw [← g2] at A2 D2 U2 st2
  have gh_b2 : h0.size ≤ b2 := Nat.le_trans KP0.1 (Nat.le_of_eq g2.symm)
  have gn_b2 : n0 ≤ b2 := Nat.le_trans Z0 gh_b2
  have KP3 : Keep h0 h2 [a] := KP0.ext E2
  have F4 : Fld Z h2 b2 "java/util/AbstractList" "modCount" "I" (.int (0 : Int32)) := D2 (Or.inl (hw _ (List.mem_of_getElem? (i := 32) rfl))) (ty := .int) (by decide)
  have F5 : Fld Z h2 b2 "java/util/ArrayList" "elementData" "[Ljava/lang/Object;" .null := D2 (Or.inl (hw _ (List.mem_of_getElem? (i := 35) rfl))) (ty := (.array (.object "java/lang/Object"))) (by decide)
  have F6 : Fld Z h2 b2 "java/util/ArrayList" "size" "I" (.int (0 : Int32)) := D2 (Or.inl (hw _ (List.mem_of_getElem? (i := 62) rfl))) (ty := .int) (by decide)
  refine ownStep st2 ?_
  refine ownStep (fun _ k => XS.dup X2.here hx rfl (hb hby own_ctor_d8) rfl rfl k) ?_
  show ownGo p.tables e below (T2.setTop (mkF m 9 #[.val (.ref a), .val (.ref ow), .val (.ref pa), .val (.ref la), .val (.ref ls), .val (.ref ly), .val (.int (1 : Int32)), .unset] [(.ref b2), (.ref b2), (.ref a)])) _
  have Q7 : Old Z n0 h2 := (hOld.ext E2)
  have Zs9 : n0 ≤ h2.size := Nat.le_trans Z0 KP3.1
  obtain ⟨_, _, ⟨T8, L8, k8, n8⟩, -, X8, ⟨Lc8, hQ8, l8, y8, z8⟩, st8⟩ := X2.specialBack hx (y := (⟨"java/util/ArrayList", "<init>", "()V"⟩ : MethodName)) rfl hown (mvT hZ (hw _ (List.mem_of_getElem? (i := 15) rfl))) (mvT hZ (hw _ (List.mem_of_getElem? (i := 16) rfl))) (mvT hZ (hw _ (List.mem_of_getElem? (i := 17) rfl))) (by decide) (backOf (W := 2) (own_al_init l Z a0 hw [] b2 ed h2 n0 Zs9 Q7 S A2 F5 F6 F4 gn_b2) hZ (hw _ (List.mem_of_getElem? (i := 17) rfl)) (hw _ (List.mem_of_getElem? (i := 14) rfl)) (by decide) (by decide)) (g := (mkF m 9 #[.val (.ref a), .val (.ref ow), .val (.ref pa), .val (.ref la), .val (.ref ls), .val (.ref ly), .val (.int (1 : Int32)), .unset] [(.ref b2), (.ref b2), (.ref a)])) rfl (by rw [hml]; rfl) (Steps.refl _) (a := b2) (argsL := []) (rest := [(.ref b2), (.ref a)]) (lenOf own_ctor_pd0 rfl) rfl (by show 2 * 0 + _ ≤ _; exact Nat.le_of_eq rfl) (hb hby own_ctor_d9) (fun _ _ => ⟨rfl, e2, (by decide : 1 + 0 ≤ _), (by decide : 3 + 0 ≤ _)⟩)
  dsimp only [Pt.U, Pt.locs, Pt.cells, Pt.slots] at X8 l8 y8 z8 st8 hQ8
  obtain rfl : k8 = 1 := y8
  obtain rfl : n8 = 3 := z8
  obtain ⟨rfl, N8q, R8, P10, P11, P12⟩ := hQ8
  have N8 : Fr n0 L8 := l8 ▸ Fr.app N0 N8q
  refine ownStep (fun _ k => st8.trans k) ?_
  have KP13 : Keep h0 T8.heap [a] := KP3.trans R8 (allS (Or.inr gh_b2) all0)
  show ownGo p.tables e below (T8.setTop (mkF m 12 #[.val (.ref a), .val (.ref ow), .val (.ref pa), .val (.ref la), .val (.ref ls), .val (.ref ly), .val (.int (1 : Int32)), .unset] [(.ref b2), (.ref a)])) _
  have ne14 : a ≠ b2 := Nat.ne_of_lt (Nat.lt_of_lt_of_le (Nat.lt_of_lt_of_le E.lt (Nat.le_refl _)) (Nat.le_of_eq g2.symm))
  have Q15 : Fld Z T8.heap a "com/example/adept_layout/adeptlayout/layout/Nesting" "children" "Ljava/util/List;" .null := ((F_children.ext E2).keep R8 (ninS ne14 nin0))
  have Q16 : Exa Z T8.heap a "com/example/adept_layout/adeptlayout/layout/Nesting" := ((E.ext E2).keep R8)
  obtain ⟨T17, h17, X17, e17, W17, st17⟩ := putF X8 hx hZ hown (host := "") (Or.inl (hw _ (List.mem_of_getElem? (i := 36) rfl))) Via.refl rfl Q15 Q16 (Or.inr ⟨(hw _ (List.mem_of_getElem? (i := 37) rfl)), rfl, hnm⟩) (hw _ (List.mem_of_getElem? (i := 4) rfl)) (ty := (.object "java/util/List")) (by decide) rfl rfl (g := (mkF m 12 #[.val (.ref a), .val (.ref ow), .val (.ref pa), .val (.ref la), .val (.ref ls), .val (.ref ly), .val (.int (1 : Int32)), .unset] [(.ref b2), (.ref a)])) rfl rfl (hb hby own_ctor_d12)
  have N18 := Fr.snoc X17 N8 g
  have KP19 : Keep h0 h17 [a] := KP13.wr W17 (Or.inl (List.mem_of_getElem? (i := 0) rfl))
  have F20 : Fld Z h17 a "com/example/adept_layout/adeptlayout/layout/Nesting" "children" "Ljava/util/List;" (.ref b2) := Q15.same W17
  refine ownStep st17 ?_
  refine ownStep (fun _ k => XS.aloadN X17.here hx rfl (hb hby own_ctor_d15) rfl rfl k) ?_
  refine ownStep (fun _ k => XS.aloadN X17.here hx rfl (hb hby own_ctor_d16) rfl rfl k) ?_
  show ownGo p.tables e below (T17.setTop (mkF m 17 #[.val (.ref a), .val (.ref ow), .val (.ref pa), .val (.ref la), .val (.ref ls), .val (.ref ly), .val (.int (1 : Int32)), .unset] [(.ref ow), (.ref a)])) _
  have Q21 : Fld Z h17 a "com/example/adept_layout/adeptlayout/layout/Nesting" "owner" "[I" .null := (((F_owner.ext E2).keep R8 (ninS ne14 nin0)).other W17 (Or.inr (slot_ne (Or.inr (hw _ (List.mem_of_getElem? (i := 39) rfl))) (Or.inr (hw _ (List.mem_of_getElem? (i := 37) rfl))) (by decide) (t := (.array .int)) (t' := (.object "java/util/List")) (by decide) (by decide))))
  have Q22 : Exa Z h17 a "com/example/adept_layout/adeptlayout/layout/Nesting" := (Q16.wr W17)
  obtain ⟨T23, h23, X23, e23, W23, st23⟩ := putF X17 hx hZ hown (host := "") (Or.inl (hw _ (List.mem_of_getElem? (i := 38) rfl))) Via.refl e17 Q21 Q22 (Or.inr ⟨(hw _ (List.mem_of_getElem? (i := 39) rfl)), rfl, hnm⟩) (hw _ (List.mem_of_getElem? (i := 4) rfl)) (ty := (.array .int)) (by decide) rfl rfl (g := (mkF m 17 #[.val (.ref a), .val (.ref ow), .val (.ref pa), .val (.ref la), .val (.ref ls), .val (.ref ly), .val (.int (1 : Int32)), .unset] [(.ref ow), (.ref a)])) rfl rfl (hb hby own_ctor_d17)
  have N24 := Fr.snoc X23 N18 g
  have KP25 : Keep h0 h23 [a] := KP19.wr W23 (Or.inl (List.mem_of_getElem? (i := 0) rfl))
  have F26 : Fld Z h23 a "com/example/adept_layout/adeptlayout/layout/Nesting" "owner" "[I" (.ref ow) := Q21.same W23
  refine ownStep st23 ?_
  refine ownStep (fun _ k => XS.aloadN X23.here hx rfl (hb hby own_ctor_d20) rfl rfl k) ?_
  refine ownStep (fun _ k => XS.aloadN X23.here hx rfl (hb hby own_ctor_d21) rfl rfl k) ?_
  show ownGo p.tables e below (T23.setTop (mkF m 22 #[.val (.ref a), .val (.ref ow), .val (.ref pa), .val (.ref la), .val (.ref ls), .val (.ref ly), .val (.int (1 : Int32)), .unset] [(.ref pa), (.ref a)])) _
  have Q27 : Fld Z h23 a "com/example/adept_layout/adeptlayout/layout/Nesting" "parent" "[I" .null := ((((F_parent.ext E2).keep R8 (ninS ne14 nin0)).other W17 (Or.inr (slot_ne (Or.inr (hw _ (List.mem_of_getElem? (i := 41) rfl))) (Or.inr (hw _ (List.mem_of_getElem? (i := 37) rfl))) (by decide) (t := (.array .int)) (t' := (.object "java/util/List")) (by decide) (by decide)))).other W23 (Or.inr (slot_ne (Or.inr (hw _ (List.mem_of_getElem? (i := 41) rfl))) (Or.inr (hw _ (List.mem_of_getElem? (i := 39) rfl))) (by decide) (t := (.array .int)) (t' := (.array .int)) (by decide) (by decide))))
  have Q28 : Exa Z h23 a "com/example/adept_layout/adeptlayout/layout/Nesting" := (Q22.wr W23)
  obtain ⟨T29, h29, X29, e29, W29, st29⟩ := putF X23 hx hZ hown (host := "") (Or.inl (hw _ (List.mem_of_getElem? (i := 40) rfl))) Via.refl e23 Q27 Q28 (Or.inr ⟨(hw _ (List.mem_of_getElem? (i := 41) rfl)), rfl, hnm⟩) (hw _ (List.mem_of_getElem? (i := 4) rfl)) (ty := (.array .int)) (by decide) rfl rfl (g := (mkF m 22 #[.val (.ref a), .val (.ref ow), .val (.ref pa), .val (.ref la), .val (.ref ls), .val (.ref ly), .val (.int (1 : Int32)), .unset] [(.ref pa), (.ref a)])) rfl rfl (hb hby own_ctor_d22)
  have N30 := Fr.snoc X29 N24 g
  have KP31 : Keep h0 h29 [a] := KP25.wr W29 (Or.inl (List.mem_of_getElem? (i := 0) rfl))
  have F32 : Fld Z h29 a "com/example/adept_layout/adeptlayout/layout/Nesting" "parent" "[I" (.ref pa) := Q27.same W29
  refine ownStep st29 ?_
  refine ownStep (fun _ k => XS.aloadN X29.here hx rfl (hb hby own_ctor_d25) rfl rfl k) ?_
  refine ownStep (fun _ k => XS.aloadN X29.here hx rfl (hb hby own_ctor_d26) rfl rfl k) ?_
  show ownGo p.tables e below (T29.setTop (mkF m 27 #[.val (.ref a), .val (.ref ow), .val (.ref pa), .val (.ref la), .val (.ref ls), .val (.ref ly), .val (.int (1 : Int32)), .unset] [(.ref la), (.ref a)])) _
  have Q33 : Fld Z h29 a "com/example/adept_layout/adeptlayout/layout/Nesting" "lane" "[Z" .null := (((((F_lane.ext E2).keep R8 (ninS ne14 nin0)).other W17 (Or.inr (slot_ne (Or.inr (hw _ (List.mem_of_getElem? (i := 43) rfl))) (Or.inr (hw _ (List.mem_of_getElem? (i := 37) rfl))) (by decide) (t := (.array .boolean)) (t' := (.object "java/util/List")) (by decide) (by decide)))).other W23 (Or.inr (slot_ne (Or.inr (hw _ (List.mem_of_getElem? (i := 43) rfl))) (Or.inr (hw _ (List.mem_of_getElem? (i := 39) rfl))) (by decide) (t := (.array .boolean)) (t' := (.array .int)) (by decide) (by decide)))).other W29 (Or.inr (slot_ne (Or.inr (hw _ (List.mem_of_getElem? (i := 43) rfl))) (Or.inr (hw _ (List.mem_of_getElem? (i := 41) rfl))) (by decide) (t := (.array .boolean)) (t' := (.array .int)) (by decide) (by decide))))
  have Q34 : Exa Z h29 a "com/example/adept_layout/adeptlayout/layout/Nesting" := (Q28.wr W29)
  obtain ⟨T35, h35, X35, e35, W35, st35⟩ := putF X29 hx hZ hown (host := "") (Or.inl (hw _ (List.mem_of_getElem? (i := 42) rfl))) Via.refl e29 Q33 Q34 (Or.inr ⟨(hw _ (List.mem_of_getElem? (i := 43) rfl)), rfl, hnm⟩) (hw _ (List.mem_of_getElem? (i := 4) rfl)) (ty := (.array .boolean)) (by decide) rfl rfl (g := (mkF m 27 #[.val (.ref a), .val (.ref ow), .val (.ref pa), .val (.ref la), .val (.ref ls), .val (.ref ly), .val (.int (1 : Int32)), .unset] [(.ref la), (.ref a)])) rfl rfl (hb hby own_ctor_d27)
  have N36 := Fr.snoc X35 N30 g
  have KP37 : Keep h0 h35 [a] := KP31.wr W35 (Or.inl (List.mem_of_getElem? (i := 0) rfl))
  have F38 : Fld Z h35 a "com/example/adept_layout/adeptlayout/layout/Nesting" "lane" "[Z" (.ref la) := Q33.same W35
  refine ownStep st35 ?_
  refine ownStep (fun _ k => XS.aloadN X35.here hx rfl (hb hby own_ctor_d30) rfl rfl k) ?_
  refine ownStep (fun _ k => XS.aload X35.here hx rfl (hb hby own_ctor_d31) rfl rfl k) ?_
  show ownGo p.tables e below (T35.setTop (mkF m 33 #[.val (.ref a), .val (.ref ow), .val (.ref pa), .val (.ref la), .val (.ref ls), .val (.ref ly), .val (.int (1 : Int32)), .unset] [(.ref ls), (.ref a)])) _
  have Q39 : Fld Z h35 a "com/example/adept_layout/adeptlayout/layout/Nesting" "listedSide" "[I" .null := ((((((F_listedSide.ext E2).keep R8 (ninS ne14 nin0)).other W17 (Or.inr (slot_ne (Or.inr (hw _ (List.mem_of_getElem? (i := 45) rfl))) (Or.inr (hw _ (List.mem_of_getElem? (i := 37) rfl))) (by decide) (t := (.array .int)) (t' := (.object "java/util/List")) (by decide) (by decide)))).other W23 (Or.inr (slot_ne (Or.inr (hw _ (List.mem_of_getElem? (i := 45) rfl))) (Or.inr (hw _ (List.mem_of_getElem? (i := 39) rfl))) (by decide) (t := (.array .int)) (t' := (.array .int)) (by decide) (by decide)))).other W29 (Or.inr (slot_ne (Or.inr (hw _ (List.mem_of_getElem? (i := 45) rfl))) (Or.inr (hw _ (List.mem_of_getElem? (i := 41) rfl))) (by decide) (t := (.array .int)) (t' := (.array .int)) (by decide) (by decide)))).other W35 (Or.inr (slot_ne (Or.inr (hw _ (List.mem_of_getElem? (i := 45) rfl))) (Or.inr (hw _ (List.mem_of_getElem? (i := 43) rfl))) (by decide) (t := (.array .int)) (t' := (.array .boolean)) (by decide) (by decide))))
  have Q40 : Exa Z h35 a "com/example/adept_layout/adeptlayout/layout/Nesting" := (Q34.wr W35)
  obtain ⟨T41, h41, X41, e41, W41, st41⟩ := putF X35 hx hZ hown (host := "") (Or.inl (hw _ (List.mem_of_getElem? (i := 44) rfl))) Via.refl e35 Q39 Q40 (Or.inr ⟨(hw _ (List.mem_of_getElem? (i := 45) rfl)), rfl, hnm⟩) (hw _ (List.mem_of_getElem? (i := 4) rfl)) (ty := (.array .int)) (by decide) rfl rfl (g := (mkF m 33 #[.val (.ref a), .val (.ref ow), .val (.ref pa), .val (.ref la), .val (.ref ls), .val (.ref ly), .val (.int (1 : Int32)), .unset] [(.ref ls), (.ref a)])) rfl rfl (hb hby own_ctor_d33)
  have N42 := Fr.snoc X41 N36 g
  have KP43 : Keep h0 h41 [a] := KP37.wr W41 (Or.inl (List.mem_of_getElem? (i := 0) rfl))
  have F44 : Fld Z h41 a "com/example/adept_layout/adeptlayout/layout/Nesting" "listedSide" "[I" (.ref ls) := Q39.same W41
  refine ownStep st41 ?_
  refine ownStep (fun _ k => XS.aloadN X41.here hx rfl (hb hby own_ctor_d36) rfl rfl k) ?_
  refine ownStep (fun _ k => XS.aloadN X41.here hx rfl (hb hby own_ctor_d37) rfl rfl k) ?_
  show ownGo p.tables e below (T41.setTop (mkF m 38 #[.val (.ref a), .val (.ref ow), .val (.ref pa), .val (.ref la), .val (.ref ls), .val (.ref ly), .val (.int (1 : Int32)), .unset] [(.ref pa), (.ref a)])) _
  have ne46 : pa ≠ b2 := Nat.ne_of_lt (Nat.lt_of_lt_of_le (Nat.lt_of_lt_of_le VP.lt (Nat.le_refl _)) (Nat.le_of_eq g2.symm))
  have Q47 : Arv Z h41 pa kp .int (5 : Int32) [(.int (-1 : Int32)), (.int (0 : Int32)), (.int a2), (.int a3), (.int a4)] (.int (0 : Int32)) := (((((((VP.ext E2).keep R8 (ninS ne46 nin0)).other W17 dn0).other W23 dn0).other W29 dn0).other W35 dn0).other W41 dn0)
  have Vo45 := Q47
  obtain ⟨cl45, Ar45, q45, S45, N45, H45, G45⟩ := Vo45
  refine ownStep (X41.arraylength hx (by rw [e41]; exact Ar45.1) (State.isArrayOf_alike hZ.alike Ar45.2.1) (g := (mkF m 38 #[.val (.ref a), .val (.ref ow), .val (.ref pa), .val (.ref la), .val (.ref ls), .val (.ref ly), .val (.int (1 : Int32)), .unset] [(.ref pa), (.ref a)])) rfl rfl (hb hby own_ctor_d38)) ?_
  rw [len_of S45 N45]
  show ownGo p.tables e below (T41.setTop (mkF m 39 #[.val (.ref a), .val (.ref ow), .val (.ref pa), .val (.ref la), .val (.ref ls), .val (.ref ly), .val (.int (1 : Int32)), .unset] [(.int (5 : Int32)), (.ref a)])) _
  obtain ⟨T48, h48, k48, X48, e48, E48, A48, st48⟩ := newP X41 hx hZ (hw _ (List.mem_of_getElem? (i := 0) rfl)) e41 (g := (mkF m 39 #[.val (.ref a), .val (.ref ow), .val (.ref pa), .val (.ref la), .val (.ref ls), .val (.ref ly), .val (.int (1 : Int32)), .unset] [(.int (5 : Int32)), (.ref a)])) rfl (hb hby own_ctor_d39) rfl (by decide) (cap := 5) (by decide) (by decide) (by decide) (by decide)
  obtain ⟨b48, g48⟩ : ∃ z, z = h41.size := ⟨_, rfl⟩
  rw [← g48] at A48 st48
  have gh_b48 : h0.size ≤ b48 := Nat.le_trans KP43.1 (Nat.le_of_eq g48.symm)
  have gn_b48 : n0 ≤ b48 := Nat.le_trans Z0 gh_b48
  have KP49 : Keep h0 h48 [a] := KP43.ext E48
  have V48 : Arv Z h48 b48 k48 .int (5 : Int32) [(.int (0 : Int32)), (.int (0 : Int32)), (.int (0 : Int32)), (.int (0 : Int32)), (.int (0 : Int32))] (.int (0 : Int32)) := (Arv.new A48 (by decide)).pad (pad_rep [] (.int (0 : Int32)) 5)
  refine ownStep st48 ?_
  show ownGo p.tables e below (T48.setTop (mkF m 41 #[.val (.ref a), .val (.ref ow), .val (.ref pa), .val (.ref la), .val (.ref ls), .val (.ref ly), .val (.int (1 : Int32)), .unset] [(.ref b48), (.ref a)])) _
  have Q50 : Fld Z h48 a "com/example/adept_layout/adeptlayout/layout/Nesting" "first" "[I" .null := ((((((((F_first.ext E2).keep R8 (ninS ne14 nin0)).other W17 (Or.inr (slot_ne (Or.inr (hw _ (List.mem_of_getElem? (i := 47) rfl))) (Or.inr (hw _ (List.mem_of_getElem? (i := 37) rfl))) (by decide) (t := (.array .int)) (t' := (.object "java/util/List")) (by decide) (by decide)))).other W23 (Or.inr (slot_ne (Or.inr (hw _ (List.mem_of_getElem? (i := 47) rfl))) (Or.inr (hw _ (List.mem_of_getElem? (i := 39) rfl))) (by decide) (t := (.array .int)) (t' := (.array .int)) (by decide) (by decide)))).other W29 (Or.inr (slot_ne (Or.inr (hw _ (List.mem_of_getElem? (i := 47) rfl))) (Or.inr (hw _ (List.mem_of_getElem? (i := 41) rfl))) (by decide) (t := (.array .int)) (t' := (.array .int)) (by decide) (by decide)))).other W35 (Or.inr (slot_ne (Or.inr (hw _ (List.mem_of_getElem? (i := 47) rfl))) (Or.inr (hw _ (List.mem_of_getElem? (i := 43) rfl))) (by decide) (t := (.array .int)) (t' := (.array .boolean)) (by decide) (by decide)))).other W41 (Or.inr (slot_ne (Or.inr (hw _ (List.mem_of_getElem? (i := 47) rfl))) (Or.inr (hw _ (List.mem_of_getElem? (i := 45) rfl))) (by decide) (t := (.array .int)) (t' := (.array .int)) (by decide) (by decide)))).ext E48)
  have Q51 : Exa Z h48 a "com/example/adept_layout/adeptlayout/layout/Nesting" := ((Q40.wr W41).ext E48)
  obtain ⟨T52, h52, X52, e52, W52, st52⟩ := putF X48 hx hZ hown (host := "") (Or.inl (hw _ (List.mem_of_getElem? (i := 46) rfl))) Via.refl e48 Q50 Q51 (Or.inr ⟨(hw _ (List.mem_of_getElem? (i := 47) rfl)), rfl, hnm⟩) (hw _ (List.mem_of_getElem? (i := 4) rfl)) (ty := (.array .int)) (by decide) rfl rfl (g := (mkF m 41 #[.val (.ref a), .val (.ref ow), .val (.ref pa), .val (.ref la), .val (.ref ls), .val (.ref ly), .val (.int (1 : Int32)), .unset] [(.ref b48), (.ref a)])) rfl rfl (hb hby own_ctor_d41)
  have N53 := Fr.snoc X52 N42 g
  have KP54 : Keep h0 h52 [a] := KP49.wr W52 (Or.inl (List.mem_of_getElem? (i := 0) rfl))
  have F55 : Fld Z h52 a "com/example/adept_layout/adeptlayout/layout/Nesting" "first" "[I" (.ref b48) := Q50.same W52
  refine ownStep st52 ?_
  refine ownStep (fun _ k => XS.aloadN X52.here hx rfl (hb hby own_ctor_d44) rfl rfl k) ?_
  refine ownStep (fun _ k => XS.aloadN X52.here hx rfl (hb hby own_ctor_d45) rfl rfl k) ?_
  show ownGo p.tables e below (T52.setTop (mkF m 46 #[.val (.ref a), .val (.ref ow), .val (.ref pa), .val (.ref la), .val (.ref ls), .val (.ref ly), .val (.int (1 : Int32)), .unset] [(.ref pa), (.ref a)])) _
  have Q57 : Arv Z h52 pa kp .int (5 : Int32) [(.int (-1 : Int32)), (.int (0 : Int32)), (.int a2), (.int a3), (.int a4)] (.int (0 : Int32)) := ((Q47.ext E48).other W52 dn0)
  have Vo56 := Q57
  obtain ⟨cl56, Ar56, q56, S56, N56, H56, G56⟩ := Vo56
  refine ownStep (X52.arraylength hx (by rw [e52]; exact Ar56.1) (State.isArrayOf_alike hZ.alike Ar56.2.1) (g := (mkF m 46 #[.val (.ref a), .val (.ref ow), .val (.ref pa), .val (.ref la), .val (.ref ls), .val (.ref ly), .val (.int (1 : Int32)), .unset] [(.ref pa), (.ref a)])) rfl rfl (hb hby own_ctor_d46)) ?_
  rw [len_of S56 N56]
  show ownGo p.tables e below (T52.setTop (mkF m 47 #[.val (.ref a), .val (.ref ow), .val (.ref pa), .val (.ref la), .val (.ref ls), .val (.ref ly), .val (.int (1 : Int32)), .unset] [(.int (5 : Int32)), (.ref a)])) _
  obtain ⟨T58, h58, k58, X58, e58, E58, A58, st58⟩ := newP X52 hx hZ (hw _ (List.mem_of_getElem? (i := 0) rfl)) e52 (g := (mkF m 47 #[.val (.ref a), .val (.ref ow), .val (.ref pa), .val (.ref la), .val (.ref ls), .val (.ref ly), .val (.int (1 : Int32)), .unset] [(.int (5 : Int32)), (.ref a)])) rfl (hb hby own_ctor_d47) rfl (by decide) (cap := 5) (by decide) (by decide) (by decide) (by decide)
  obtain ⟨b58, g58⟩ : ∃ z, z = h52.size := ⟨_, rfl⟩
  rw [← g58] at A58 st58
  have gh_b58 : h0.size ≤ b58 := Nat.le_trans KP54.1 (Nat.le_of_eq g58.symm)
  have gn_b58 : n0 ≤ b58 := Nat.le_trans Z0 gh_b58
  have KP59 : Keep h0 h58 [a] := KP54.ext E58
  have V58 : Arv Z h58 b58 k58 .int (5 : Int32) [(.int (0 : Int32)), (.int (0 : Int32)), (.int (0 : Int32)), (.int (0 : Int32)), (.int (0 : Int32))] (.int (0 : Int32)) := (Arv.new A58 (by decide)).pad (pad_rep [] (.int (0 : Int32)) 5)
  refine ownStep st58 ?_
  show ownGo p.tables e below (T58.setTop (mkF m 49 #[.val (.ref a), .val (.ref ow), .val (.ref pa), .val (.ref la), .val (.ref ls), .val (.ref ly), .val (.int (1 : Int32)), .unset] [(.ref b58), (.ref a)])) _
  have Q60 : Fld Z h58 a "com/example/adept_layout/adeptlayout/layout/Nesting" "last" "[I" .null := ((((((((((F_last.ext E2).keep R8 (ninS ne14 nin0)).other W17 (Or.inr (slot_ne (Or.inr (hw _ (List.mem_of_getElem? (i := 49) rfl))) (Or.inr (hw _ (List.mem_of_getElem? (i := 37) rfl))) (by decide) (t := (.array .int)) (t' := (.object "java/util/List")) (by decide) (by decide)))).other W23 (Or.inr (slot_ne (Or.inr (hw _ (List.mem_of_getElem? (i := 49) rfl))) (Or.inr (hw _ (List.mem_of_getElem? (i := 39) rfl))) (by decide) (t := (.array .int)) (t' := (.array .int)) (by decide) (by decide)))).other W29 (Or.inr (slot_ne (Or.inr (hw _ (List.mem_of_getElem? (i := 49) rfl))) (Or.inr (hw _ (List.mem_of_getElem? (i := 41) rfl))) (by decide) (t := (.array .int)) (t' := (.array .int)) (by decide) (by decide)))).other W35 (Or.inr (slot_ne (Or.inr (hw _ (List.mem_of_getElem? (i := 49) rfl))) (Or.inr (hw _ (List.mem_of_getElem? (i := 43) rfl))) (by decide) (t := (.array .int)) (t' := (.array .boolean)) (by decide) (by decide)))).other W41 (Or.inr (slot_ne (Or.inr (hw _ (List.mem_of_getElem? (i := 49) rfl))) (Or.inr (hw _ (List.mem_of_getElem? (i := 45) rfl))) (by decide) (t := (.array .int)) (t' := (.array .int)) (by decide) (by decide)))).ext E48).other W52 (Or.inr (slot_ne (Or.inr (hw _ (List.mem_of_getElem? (i := 49) rfl))) (Or.inr (hw _ (List.mem_of_getElem? (i := 47) rfl))) (by decide) (t := (.array .int)) (t' := (.array .int)) (by decide) (by decide)))).ext E58)
  have Q61 : Exa Z h58 a "com/example/adept_layout/adeptlayout/layout/Nesting" := ((Q51.wr W52).ext E58)
  obtain ⟨T62, h62, X62, e62, W62, st62⟩ := putF X58 hx hZ hown (host := "") (Or.inl (hw _ (List.mem_of_getElem? (i := 48) rfl))) Via.refl e58 Q60 Q61 (Or.inr ⟨(hw _ (List.mem_of_getElem? (i := 49) rfl)), rfl, hnm⟩) (hw _ (List.mem_of_getElem? (i := 4) rfl)) (ty := (.array .int)) (by decide) rfl rfl (g := (mkF m 49 #[.val (.ref a), .val (.ref ow), .val (.ref pa), .val (.ref la), .val (.ref ls), .val (.ref ly), .val (.int (1 : Int32)), .unset] [(.ref b58), (.ref a)])) rfl rfl (hb hby own_ctor_d49)
  have N63 := Fr.snoc X62 N53 g
  have KP64 : Keep h0 h62 [a] := KP59.wr W62 (Or.inl (List.mem_of_getElem? (i := 0) rfl))
  have F65 : Fld Z h62 a "com/example/adept_layout/adeptlayout/layout/Nesting" "last" "[I" (.ref b58) := Q60.same W62
  refine ownStep st62 ?_
  refine ownStep (fun _ k => XS.iconst X62.here hx rfl (hb hby own_ctor_d52) k) ?_
  refine ownStep (fun _ k => XS.istore X62.here hx rfl (hb hby own_ctor_d53) rfl (l' := #[.val (.ref a), .val (.ref ow), .val (.ref pa), .val (.ref la), .val (.ref ls), .val (.ref ly), .val (.int (1 : Int32)), .val (.int (0 : Int32))]) rfl k) ?_
  refine ownStep (fun _ k => XS.iload X62.here hx rfl (hb hby own_ctor_d55) rfl  k) ?_
  refine ownStep (fun _ k => XS.aloadN X62.here hx rfl (hb hby own_ctor_d57) rfl rfl k) ?_
  show ownGo p.tables e below (T62.setTop (mkF m 58 #[.val (.ref a), .val (.ref ow), .val (.ref pa), .val (.ref la), .val (.ref ls), .val (.ref ly), .val (.int (1 : Int32)), .val (.int (0 : Int32))] [(.ref pa), (.int (0 : Int32))])) _
  have Q67 : Arv Z h62 pa kp .int (5 : Int32) [(.int (-1 : Int32)), (.int (0 : Int32)), (.int a2), (.int a3), (.int a4)] (.int (0 : Int32)) := ((Q57.ext E58).other W62 dn0)
  have Vo66 := Q67
  obtain ⟨cl66, Ar66, q66, S66, N66, H66, G66⟩ := Vo66
  refine ownStep (X62.arraylength hx (by rw [e62]; exact Ar66.1) (State.isArrayOf_alike hZ.alike Ar66.2.1) (g := (mkF m 58 #[.val (.ref a), .val (.ref ow), .val (.ref pa), .val (.ref la), .val (.ref ls), .val (.ref ly), .val (.int (1 : Int32)), .val (.int (0 : Int32))] [(.ref pa), (.int (0 : Int32))])) rfl rfl (hb hby own_ctor_d58)) ?_
  rw [len_of S66 N66]
  refine ownStep (fun _ k => XS.icmpNo X62.here hx rfl (hb hby own_ctor_d59) rfl (tlt (by decide : (0 : Int32) < (5 : Int32))).2.1 k) ?_
  refine ownStep (fun _ k => XS.aloadN X62.here hx rfl (hb hby own_ctor_d62) rfl rfl k) ?_
  show ownGo p.tables e below (T62.setTop (mkF m 63 #[.val (.ref a), .val (.ref ow), .val (.ref pa), .val (.ref la), .val (.ref ls), .val (.ref ly), .val (.int (1 : Int32)), .val (.int (0 : Int32))] [(.ref a)])) _
  have Q68 : Fld Z h62 a "com/example/adept_layout/adeptlayout/layout/Nesting" "children" "Ljava/util/List;" (.ref b2) := ((((((((F20.other W23 (Or.inr (slot_ne (Or.inr (hw _ (List.mem_of_getElem? (i := 37) rfl))) (Or.inr (hw _ (List.mem_of_getElem? (i := 39) rfl))) (by decide) (t := (.object "java/util/List")) (t' := (.array .int)) (by decide) (by decide)))).other W29 (Or.inr (slot_ne (Or.inr (hw _ (List.mem_of_getElem? (i := 37) rfl))) (Or.inr (hw _ (List.mem_of_getElem? (i := 41) rfl))) (by decide) (t := (.object "java/util/List")) (t' := (.array .int)) (by decide) (by decide)))).other W35 (Or.inr (slot_ne (Or.inr (hw _ (List.mem_of_getElem? (i := 37) rfl))) (Or.inr (hw _ (List.mem_of_getElem? (i := 43) rfl))) (by decide) (t := (.object "java/util/List")) (t' := (.array .boolean)) (by decide) (by decide)))).other W41 (Or.inr (slot_ne (Or.inr (hw _ (List.mem_of_getElem? (i := 37) rfl))) (Or.inr (hw _ (List.mem_of_getElem? (i := 45) rfl))) (by decide) (t := (.object "java/util/List")) (t' := (.array .int)) (by decide) (by decide)))).ext E48).other W52 (Or.inr (slot_ne (Or.inr (hw _ (List.mem_of_getElem? (i := 37) rfl))) (Or.inr (hw _ (List.mem_of_getElem? (i := 47) rfl))) (by decide) (t := (.object "java/util/List")) (t' := (.array .int)) (by decide) (by decide)))).ext E58).other W62 (Or.inr (slot_ne (Or.inr (hw _ (List.mem_of_getElem? (i := 37) rfl))) (Or.inr (hw _ (List.mem_of_getElem? (i := 49) rfl))) (by decide) (t := (.object "java/util/List")) (t' := (.array .int)) (by decide) (by decide))))
  obtain ⟨T69, X69, e69, st69⟩ := getF X62 hx hZ hown (host := "") (Or.inl (hw _ (List.mem_of_getElem? (i := 36) rfl))) Via.refl e62 Q68 (g := (mkF m 63 #[.val (.ref a), .val (.ref ow), .val (.ref pa), .val (.ref la), .val (.ref ls), .val (.ref ly), .val (.int (1 : Int32)), .val (.int (0 : Int32))] [(.ref a)])) rfl rfl (hb hby own_ctor_d63)
  refine ownStep st69 ?_
  show ownGo p.tables e below (T69.setTop (mkF m 66 #[.val (.ref a), .val (.ref ow), .val (.ref pa), .val (.ref la), .val (.ref ls), .val (.ref ly), .val (.int (1 : Int32)), .val (.int (0 : Int32))] [(.ref b2)])) _
  obtain ⟨T70, h70, X70, e70, E70, A70, D70, U70, st70⟩ := newO X69 hx hZ hown (hw _ (List.mem_of_getElem? (i := 12) rfl)) (hw _ (List.mem_of_getElem? (i := 13) rfl)) (hw _ (List.mem_of_getElem? (i := 14) rfl)) e69 (g := (mkF m 66 #[.val (.ref a), .val (.ref ow), .val (.ref pa), .val (.ref la), .val (.ref ls), .val (.ref ly), .val (.int (1 : Int32)), .val (.int (0 : Int32))] [(.ref b2)])) rfl (hb hby own_ctor_d66) (by decide) (by decide)
  obtain ⟨b70, g70⟩ : ∃ z, z = h62.size := ⟨_, rfl⟩
  rw [← g70] at A70 D70 U70 st70
  have gh_b70 : h0.size ≤ b70 := Nat.le_trans KP64.1 (Nat.le_of_eq g70.symm)
  have gn_b70 : n0 ≤ b70 := Nat.le_trans Z0 gh_b70
  have KP71 : Keep h0 h70 [a] := KP64.ext E70
  have F72 : Fld Z h70 b70 "java/util/AbstractList" "modCount" "I" (.int (0 : Int32)) := D70 (Or.inl (hw _ (List.mem_of_getElem? (i := 32) rfl))) (ty := .int) (by decide)
  have F73 : Fld Z h70 b70 "java/util/ArrayList" "elementData" "[Ljava/lang/Object;" .null := D70 (Or.inl (hw _ (List.mem_of_getElem? (i := 35) rfl))) (ty := (.array (.object "java/lang/Object"))) (by decide)
  have F74 : Fld Z h70 b70 "java/util/ArrayList" "size" "I" (.int (0 : Int32)) := D70 (Or.inl (hw _ (List.mem_of_getElem? (i := 62) rfl))) (ty := .int) (by decide)
  refine ownStep st70 ?_
  refine ownStep (fun _ k => XS.dup X70.here hx rfl (hb hby own_ctor_d69) rfl rfl k) ?_
  show ownGo p.tables e below (T70.setTop (mkF m 70 #[.val (.ref a), .val (.ref ow), .val (.ref pa), .val (.ref la), .val (.ref ls), .val (.ref ly), .val (.int (1 : Int32)), .val (.int (0 : Int32))] [(.ref b70), (.ref b70), (.ref b2)])) _
  have Q75 : Old Z n0 h70 := (((((((((((Q7.keep R8 (allS gn_b2 all0)).wr W17 g).wr W23 g).wr W29 g).wr W35 g).wr W41 g).ext E48).wr W52 g).ext E58).wr W62 g).ext E70)
  have Zs77 : n0 ≤ h70.size := Nat.le_trans Z0 KP71.1
  obtain ⟨_, _, ⟨T76, L76, k76, n76⟩, -, X76, ⟨Lc76, hQ76, l76, y76, z76⟩, st76⟩ := X70.specialBack hx (y := (⟨"java/util/ArrayList", "<init>", "()V"⟩ : MethodName)) rfl hown (mvT hZ (hw _ (List.mem_of_getElem? (i := 15) rfl))) (mvT hZ (hw _ (List.mem_of_getElem? (i := 16) rfl))) (mvT hZ (hw _ (List.mem_of_getElem? (i := 17) rfl))) (by decide) (backOf (W := 2) (own_al_init l Z a0 hw [] b70 ed h70 n0 Zs77 Q75 S A70 F73 F74 F72 gn_b70) hZ (hw _ (List.mem_of_getElem? (i := 17) rfl)) (hw _ (List.mem_of_getElem? (i := 14) rfl)) (by decide) (by decide)) (g := (mkF m 70 #[.val (.ref a), .val (.ref ow), .val (.ref pa), .val (.ref la), .val (.ref ls), .val (.ref ly), .val (.int (1 : Int32)), .val (.int (0 : Int32))] [(.ref b70), (.ref b70), (.ref b2)])) rfl (by rw [hml]; rfl) (Steps.refl _) (a := b70) (argsL := []) (rest := [(.ref b70), (.ref b2)]) (lenOf own_ctor_pd0 rfl) rfl (by show 2 * 0 + _ ≤ _; exact Nat.le_of_eq rfl) (hb hby own_ctor_d70) (fun _ _ => ⟨rfl, e70, (by decide : 4 + 0 ≤ _), (by decide : 16 + 0 ≤ _)⟩)
  dsimp only [Pt.U, Pt.locs, Pt.cells, Pt.slots] at X76 l76 y76 z76 st76 hQ76
  obtain rfl : k76 = 4 := y76
  obtain rfl : n76 = 16 := z76
  obtain ⟨rfl, N76q, R76, P78, P79, P80⟩ := hQ76
  have N76 : Fr n0 L76 := l76 ▸ Fr.app N63 N76q
  refine ownStep (fun _ k => st76.trans k) ?_
  have KP81 : Keep h0 T76.heap [a] := KP71.trans R76 (allS (Or.inr gh_b70) all0)
  show ownGo p.tables e below (T76.setTop (mkF m 73 #[.val (.ref a), .val (.ref ow), .val (.ref pa), .val (.ref la), .val (.ref ls), .val (.ref ly), .val (.int (1 : Int32)), .val (.int (0 : Int32))] [(.ref b70), (.ref b2)])) _
  have Q82 : Exa Z T76.heap b70 "java/util/ArrayList" := (A70.keep R76)
  have Q83 : Old Z n0 T76.heap := (Q75.keep R76 (allS gn_b70 all0))
  have Q84 : Exa Z T76.heap b2 "java/util/ArrayList" := ((((((((((((A2.keep R8).wr W17).wr W23).wr W29).wr W35).wr W41).ext E48).wr W52).ext E58).wr W62).ext E70).keep R76)
  have ne85 : b2 ≠ b70 := Nat.ne_of_lt (Nat.lt_of_lt_of_le (Nat.lt_of_lt_of_le P10.lt (Nat.le_trans (Nat.le_trans (Nat.le_trans (Nat.le_trans (Nat.le_trans (Nat.le_trans (Nat.le_trans (Nat.le_trans (Nat.le_trans (Nat.le_refl _) (Keep.of_wr W17).1) (Keep.of_wr W23).1) (Keep.of_wr W29).1) (Keep.of_wr W35).1) (Keep.of_wr W41).1) E48.1) (Keep.of_wr W52).1) E58.1) (Keep.of_wr W62).1)) (Nat.le_of_eq g70.symm))
  have Q86 : Fld Z T76.heap b2 "java/util/ArrayList" "elementData" "[Ljava/lang/Object;" (.ref ed) := (((((((((((P10.other W17 (Or.inl (Ne.symm ne14))).other W23 (Or.inl (Ne.symm ne14))).other W29 (Or.inl (Ne.symm ne14))).other W35 (Or.inl (Ne.symm ne14))).other W41 (Or.inl (Ne.symm ne14))).ext E48).other W52 (Or.inl (Ne.symm ne14))).ext E58).other W62 (Or.inl (Ne.symm ne14))).ext E70).keep R76 (ninS ne85 nin0))
  have Q87 : Fld Z T76.heap b2 "java/util/ArrayList" "size" "I" (.int (0 : Int32)) := (((((((((((P11.other W17 (Or.inl (Ne.symm ne14))).other W23 (Or.inl (Ne.symm ne14))).other W29 (Or.inl (Ne.symm ne14))).other W35 (Or.inl (Ne.symm ne14))).other W41 (Or.inl (Ne.symm ne14))).ext E48).other W52 (Or.inl (Ne.symm ne14))).ext E58).other W62 (Or.inl (Ne.symm ne14))).ext E70).keep R76 (ninS ne85 nin0))
  have Q88 : Fld Z T76.heap b2 "java/util/AbstractList" "modCount" "I" (.int (0 : Int32)) := (((((((((((P12.other W17 (Or.inl (Ne.symm ne14))).other W23 (Or.inl (Ne.symm ne14))).other W29 (Or.inl (Ne.symm ne14))).other W35 (Or.inl (Ne.symm ne14))).other W41 (Or.inl (Ne.symm ne14))).ext E48).other W52 (Or.inl (Ne.symm ne14))).ext E58).other W62 (Or.inl (Ne.symm ne14))).ext E70).keep R76 (ninS ne85 nin0))
  have Zs90 : n0 ≤ T76.heap.size := Nat.le_trans Z0 KP81.1
  obtain ⟨cq89, kq89, q89a, q89b, q89c⟩ := isOf hZ rfl Q84
  obtain ⟨_, _, ⟨T89, L89, k89, n89⟩, -, X89, ⟨Lc89, hQ89, l89, y89, z89⟩, st89⟩ := X76.interfaceBack hx (xi := (⟨"java/util/List", "add", "(Ljava/lang/Object;)Z"⟩ : MethodName)) (y := (⟨"java/util/ArrayList", "add", "(Ljava/lang/Object;)Z"⟩ : MethodName)) hown (mvT hZ (hw _ (List.mem_of_getElem? (i := 50) rfl))) (mvT hZ (hw _ (List.mem_of_getElem? (i := 51) rfl))) (mvT hZ (hw _ (List.mem_of_getElem? (i := 52) rfl))) (mvT hZ (hw _ (List.mem_of_getElem? (i := 53) rfl))) (mvT hZ (hw _ (List.mem_of_getElem? (i := 54) rfl))) (mvT hZ (hw _ (List.mem_of_getElem? (i := 55) rfl))) (mvT hZ (hw _ (List.mem_of_getElem? (i := 56) rfl))) (mvT hZ (hw _ (List.mem_of_getElem? (i := 57) rfl))) (by decide) (backOf (W := 0) (own_al_add_0 l Z a0 hw [] b2 ed kd (0 : Int32) b70 T76.heap n0 Zs90 Q83 S V Q84 Q86 Q87 Q88 gn_b2 (Ins.of_exa Q82 (hw _ (List.mem_of_getElem? (i := 84) rfl)))) hZ (hw _ (List.mem_of_getElem? (i := 58) rfl)) (hw _ (List.mem_of_getElem? (i := 14) rfl)) (by decide) (by decide)) q89a q89b q89c (g := (mkF m 73 #[.val (.ref a), .val (.ref ow), .val (.ref pa), .val (.ref la), .val (.ref ls), .val (.ref ly), .val (.int (1 : Int32)), .val (.int (0 : Int32))] [(.ref b70), (.ref b2)])) rfl (by rw [hml]; rfl) (Steps.refl _) (argsL := [(.ref b70)]) (rest := []) (lenOf own_ctor_pd1 rfl) rfl (by show 2 * 0 + _ ≤ _; exact Nat.le_of_eq rfl) (hb hby own_ctor_d73) (fun _ _ => ⟨rfl, rfl, (by decide : 4 + 1 ≤ _), (by decide : 16 + 10 ≤ _)⟩)
  dsimp only [Pt.U, Pt.locs, Pt.cells, Pt.slots] at X89 l89 y89 z89 st89 hQ89
  obtain rfl : k89 = 5 := y89
  obtain rfl : n89 = 26 := z89
  obtain ⟨dd_89, kk_89, rfl, N89q, R89, P91, P92, P93, P94, P95, P96⟩ := hQ89
  have N89 : Fr n0 L89 := l89 ▸ Fr.app N76 N89q
  have gh_dd_89 : h0.size ≤ dd_89 := Nat.le_trans KP81.1 P96
  have gn_dd_89 : n0 ≤ dd_89 := Nat.le_trans Z0 gh_dd_89
  refine ownStep (fun _ k => st89.trans k) ?_
  have KP97 : Keep h0 T89.heap [a] := KP81.trans R89 (allS (Or.inr gh_b2) all0)
  refine ownStep (fun _ k => XS.pop X89.here hx rfl (hb hby own_ctor_d78) rfl rfl k) ?_
  refine ownStep (fun _ k => XS.aloadN X89.here hx rfl (hb hby own_ctor_d79) rfl rfl k) ?_
  show ownGo p.tables e below (T89.setTop (mkF m 80 #[.val (.ref a), .val (.ref ow), .val (.ref pa), .val (.ref la), .val (.ref ls), .val (.ref ly), .val (.int (1 : Int32)), .val (.int (0 : Int32))] [(.ref a)])) _
  have ne98 : a ≠ b70 := Nat.ne_of_lt (Nat.lt_of_lt_of_le (Nat.lt_of_lt_of_le F65.lt (Nat.le_refl _)) (Nat.le_of_eq g70.symm))
  have Q99 : Fld Z T89.heap a "com/example/adept_layout/adeptlayout/layout/Nesting" "first" "[I" (.ref b48) := (((((F55.ext E58).other W62 (Or.inr (slot_ne (Or.inr (hw _ (List.mem_of_getElem? (i := 47) rfl))) (Or.inr (hw _ (List.mem_of_getElem? (i := 49) rfl))) (by decide) (t := (.array .int)) (t' := (.array .int)) (by decide) (by decide)))).ext E70).keep R76 (ninS ne98 nin0)).keep R89 (ninS ne14 nin0))
  obtain ⟨T100, X100, e100, st100⟩ := getF X89 hx hZ hown (host := "") (Or.inl (hw _ (List.mem_of_getElem? (i := 46) rfl))) Via.refl rfl Q99 (g := (mkF m 80 #[.val (.ref a), .val (.ref ow), .val (.ref pa), .val (.ref la), .val (.ref ls), .val (.ref ly), .val (.int (1 : Int32)), .val (.int (0 : Int32))] [(.ref a)])) rfl rfl (hb hby own_ctor_d80)
  refine ownStep st100 ?_
  refine ownStep (fun _ k => XS.iload X100.here hx rfl (hb hby own_ctor_d83) rfl  k) ?_
  refine ownStep (fun _ k => XS.iload X100.here hx rfl (hb hby own_ctor_d85) rfl  k) ?_
  show ownGo p.tables e below (T100.setTop (mkF m 87 #[.val (.ref a), .val (.ref ow), .val (.ref pa), .val (.ref la), .val (.ref ls), .val (.ref ly), .val (.int (1 : Int32)), .val (.int (0 : Int32))] [(.int (1 : Int32)), (.int (0 : Int32)), (.ref b48)])) _
  have ne102 : a ≠ b48 := Nat.ne_of_lt (Nat.lt_of_lt_of_le (Nat.lt_of_lt_of_le F44.lt (Nat.le_refl _)) (Nat.le_of_eq g48.symm))
  have ne103 : b48 ≠ b70 := Nat.ne_of_lt (Nat.lt_of_lt_of_le (Nat.lt_of_lt_of_le V48.lt (Nat.le_trans (Nat.le_trans (Nat.le_trans (Nat.le_refl _) (Keep.of_wr W52).1) E58.1) (Keep.of_wr W62).1)) (Nat.le_of_eq g70.symm))
  have ne104 : b2 ≠ b48 := Nat.ne_of_lt (Nat.lt_of_lt_of_le (Nat.lt_of_lt_of_le P10.lt (Nat.le_trans (Nat.le_trans (Nat.le_trans (Nat.le_trans (Nat.le_trans (Nat.le_refl _) (Keep.of_wr W17).1) (Keep.of_wr W23).1) (Keep.of_wr W29).1) (Keep.of_wr W35).1) (Keep.of_wr W41).1)) (Nat.le_of_eq g48.symm))
  have Q105 : Arv Z T89.heap b48 k48 .int (5 : Int32) [(.int (0 : Int32)), (.int (0 : Int32)), (.int (0 : Int32)), (.int (0 : Int32)), (.int (0 : Int32))] (.int (0 : Int32)) := ((((((V48.other W52 (Ne.symm ne102)).ext E58).other W62 (Ne.symm ne102)).ext E70).keep R76 (ninS ne103 nin0)).keep R89 (ninS (Ne.symm ne104) nin0))
  have Vo101 := Q105
  obtain ⟨cl101, Ar101, q101, S101, N101, H101, G101⟩ := Vo101
  have hin101 : ¬ ((0 : Int32) < 0 ∨ cl101.slots.size ≤ ((0 : Int32)).toNatClampNeg) := inb_of S101 ⟨by decide, by decide⟩
  obtain ⟨T106, h106, X106, e106, W106, st106⟩ := stI X100 hx hZ e100 Ar101 (j := (0 : Int32)) hin101 (g := (mkF m 87 #[.val (.ref a), .val (.ref ow), .val (.ref pa), .val (.ref la), .val (.ref ls), .val (.ref ly), .val (.int (1 : Int32)), .val (.int (0 : Int32))] [(.int (1 : Int32)), (.int (0 : Int32)), (.ref b48)])) rfl rfl (hb hby own_ctor_d87)
  have N107 := Fr.snoc X106 N89 gn_b48
  have KP108 : Keep h0 h106 [a] := KP97.wr W106 (Or.inr gh_b48)
  have V109 : Arv Z h106 b48 k48 .int (5 : Int32) [(.int (1 : Int32)), (.int (0 : Int32)), (.int (0 : Int32)), (.int (0 : Int32)), (.int (0 : Int32))] (.int (0 : Int32)) := Arv.set Ar101 q101 S101 N101 H101 G101 rfl W106 0 rfl (Nat.le_of_ble_eq_true rfl)
  refine ownStep st106 ?_
  refine ownStep (fun _ k => XS.aloadN X106.here hx rfl (hb hby own_ctor_d88) rfl rfl k) ?_
  show ownGo p.tables e below (T106.setTop (mkF m 89 #[.val (.ref a), .val (.ref ow), .val (.ref pa), .val (.ref la), .val (.ref ls), .val (.ref ly), .val (.int (1 : Int32)), .val (.int (0 : Int32))] [(.ref a)])) _
  have Q110 : Fld Z h106 a "com/example/adept_layout/adeptlayout/layout/Nesting" "last" "[I" (.ref b58) := ((((F65.ext E70).keep R76 (ninS ne98 nin0)).keep R89 (ninS ne14 nin0)).other W106 (Or.inl ne102))
  obtain ⟨T111, X111, e111, st111⟩ := getF X106 hx hZ hown (host := "") (Or.inl (hw _ (List.mem_of_getElem? (i := 48) rfl))) Via.refl e106 Q110 (g := (mkF m 89 #[.val (.ref a), .val (.ref ow), .val (.ref pa), .val (.ref la), .val (.ref ls), .val (.ref ly), .val (.int (1 : Int32)), .val (.int (0 : Int32))] [(.ref a)])) rfl rfl (hb hby own_ctor_d89)
  refine ownStep st111 ?_
  refine ownStep (fun _ k => XS.iload X111.here hx rfl (hb hby own_ctor_d92) rfl  k) ?_
  refine ownStep (fun _ k => XS.iconst X111.here hx rfl (hb hby own_ctor_d94) k) ?_
  show ownGo p.tables e below (T111.setTop (mkF m 95 #[.val (.ref a), .val (.ref ow), .val (.ref pa), .val (.ref la), .val (.ref ls), .val (.ref ly), .val (.int (1 : Int32)), .val (.int (0 : Int32))] [(.int (-1 : Int32)), (.int (0 : Int32)), (.ref b58)])) _
  have ne113 : a ≠ b58 := Nat.ne_of_lt (Nat.lt_of_lt_of_le (Nat.lt_of_lt_of_le F55.lt (Nat.le_refl _)) (Nat.le_of_eq g58.symm))
  have ne114 : b58 ≠ b70 := Nat.ne_of_lt (Nat.lt_of_lt_of_le (Nat.lt_of_lt_of_le V58.lt (Nat.le_trans (Nat.le_refl _) (Keep.of_wr W62).1)) (Nat.le_of_eq g70.symm))
  have ne115 : b2 ≠ b58 := Nat.ne_of_lt (Nat.lt_of_lt_of_le (Nat.lt_of_lt_of_le P10.lt (Nat.le_trans (Nat.le_trans (Nat.le_trans (Nat.le_trans (Nat.le_trans (Nat.le_trans (Nat.le_trans (Nat.le_refl _) (Keep.of_wr W17).1) (Keep.of_wr W23).1) (Keep.of_wr W29).1) (Keep.of_wr W35).1) (Keep.of_wr W41).1) E48.1) (Keep.of_wr W52).1)) (Nat.le_of_eq g58.symm))
  have ne116 : b48 ≠ b58 := Nat.ne_of_lt (Nat.lt_of_lt_of_le (Nat.lt_of_lt_of_le V48.lt (Nat.le_trans (Nat.le_refl _) (Keep.of_wr W52).1)) (Nat.le_of_eq g58.symm))
  have Q117 : Arv Z h106 b58 k58 .int (5 : Int32) [(.int (0 : Int32)), (.int (0 : Int32)), (.int (0 : Int32)), (.int (0 : Int32)), (.int (0 : Int32))] (.int (0 : Int32)) := (((((V58.other W62 (Ne.symm ne113)).ext E70).keep R76 (ninS ne114 nin0)).keep R89 (ninS (Ne.symm ne115) nin0)).other W106 (Ne.symm ne116))
  have Vo112 := Q117
  obtain ⟨cl112, Ar112, q112, S112, N112, H112, G112⟩ := Vo112
  have hin112 : ¬ ((0 : Int32) < 0 ∨ cl112.slots.size ≤ ((0 : Int32)).toNatClampNeg) := inb_of S112 ⟨by decide, by decide⟩
  obtain ⟨T118, h118, X118, e118, W118, st118⟩ := stI X111 hx hZ e111 Ar112 (j := (0 : Int32)) hin112 (g := (mkF m 95 #[.val (.ref a), .val (.ref ow), .val (.ref pa), .val (.ref la), .val (.ref ls), .val (.ref ly), .val (.int (1 : Int32)), .val (.int (0 : Int32))] [(.int (-1 : Int32)), (.int (0 : Int32)), (.ref b58)])) rfl rfl (hb hby own_ctor_d95)
  have N119 := Fr.snoc X118 N107 gn_b58
  have KP120 : Keep h0 h118 [a] := KP108.wr W118 (Or.inr gh_b58)
  have V121 : Arv Z h118 b58 k58 .int (5 : Int32) [(.int (-1 : Int32)), (.int (0 : Int32)), (.int (0 : Int32)), (.int (0 : Int32)), (.int (0 : Int32))] (.int (0 : Int32)) := Arv.set Ar112 q112 S112 N112 H112 G112 rfl W118 0 rfl (Nat.le_of_ble_eq_true rfl)
  refine ownStep st118 ?_
  refine ownStep (fun _ k => XS.iinc X118.here hx rfl (hb hby own_ctor_d96) rfl (l' := #[.val (.ref a), .val (.ref ow), .val (.ref pa), .val (.ref la), .val (.ref ls), .val (.ref ly), .val (.int (1 : Int32)), .val (.int (1 : Int32))]) rfl k) ?_
  refine ownStep (fun _ k => XS.goto X118.here hx rfl (pc0 := 99) (pc' := 55) rfl (hb hby own_ctor_d99) (by decide) (by decide) k) ?_
  refine ownStep (fun _ k => XS.iload X118.here hx rfl (hb hby own_ctor_d55) rfl  k) ?_
  refine ownStep (fun _ k => XS.aloadN X118.here hx rfl (hb hby own_ctor_d57) rfl rfl k) ?_
  show ownGo p.tables e below (T118.setTop (mkF m 58 #[.val (.ref a), .val (.ref ow), .val (.ref pa), .val (.ref la), .val (.ref ls), .val (.ref ly), .val (.int (1 : Int32)), .val (.int (1 : Int32))] [(.ref pa), (.int (1 : Int32))])) _
  have ne123 : pa ≠ b70 := Nat.ne_of_lt (Nat.lt_of_lt_of_le (Nat.lt_of_lt_of_le Q67.lt (Nat.le_refl _)) (Nat.le_of_eq g70.symm))
  have ne124 : pa ≠ b48 := Nat.ne_of_lt (Nat.lt_of_lt_of_le (Nat.lt_of_lt_of_le Q47.lt (Nat.le_refl _)) (Nat.le_of_eq g48.symm))
  have ne125 : pa ≠ b58 := Nat.ne_of_lt (Nat.lt_of_lt_of_le (Nat.lt_of_lt_of_le Q57.lt (Nat.le_refl _)) (Nat.le_of_eq g58.symm))
  have Q126 : Arv Z h118 pa kp .int (5 : Int32) [(.int (-1 : Int32)), (.int (0 : Int32)), (.int a2), (.int a3), (.int a4)] (.int (0 : Int32)) := (((((Q67.ext E70).keep R76 (ninS ne123 nin0)).keep R89 (ninS ne46 nin0)).other W106 ne124).other W118 ne125)
  have Vo122 := Q126
  obtain ⟨cl122, Ar122, q122, S122, N122, H122, G122⟩ := Vo122
  refine ownStep (X118.arraylength hx (by rw [e118]; exact Ar122.1) (State.isArrayOf_alike hZ.alike Ar122.2.1) (g := (mkF m 58 #[.val (.ref a), .val (.ref ow), .val (.ref pa), .val (.ref la), .val (.ref ls), .val (.ref ly), .val (.int (1 : Int32)), .val (.int (1 : Int32))] [(.ref pa), (.int (1 : Int32))])) rfl rfl (hb hby own_ctor_d58)) ?_
  rw [len_of S122 N122]
  refine ownStep (fun _ k => XS.icmpNo X118.here hx rfl (hb hby own_ctor_d59) rfl (tlt (by decide : (1 : Int32) < (5 : Int32))).2.1 k) ?_
  refine ownStep (fun _ k => XS.aloadN X118.here hx rfl (hb hby own_ctor_d62) rfl rfl k) ?_
  show ownGo p.tables e below (T118.setTop (mkF m 63 #[.val (.ref a), .val (.ref ow), .val (.ref pa), .val (.ref la), .val (.ref ls), .val (.ref ly), .val (.int (1 : Int32)), .val (.int (1 : Int32))] [(.ref a)])) _
  have Q127 : Fld Z h118 a "com/example/adept_layout/adeptlayout/layout/Nesting" "children" "Ljava/util/List;" (.ref b2) := (((((Q68.ext E70).keep R76 (ninS ne98 nin0)).keep R89 (ninS ne14 nin0)).other W106 (Or.inl ne102)).other W118 (Or.inl ne113))
  obtain ⟨T128, X128, e128, st128⟩ := getF X118 hx hZ hown (host := "") (Or.inl (hw _ (List.mem_of_getElem? (i := 36) rfl))) Via.refl e118 Q127 (g := (mkF m 63 #[.val (.ref a), .val (.ref ow), .val (.ref pa), .val (.ref la), .val (.ref ls), .val (.ref ly), .val (.int (1 : Int32)), .val (.int (1 : Int32))] [(.ref a)])) rfl rfl (hb hby own_ctor_d63)
  refine ownStep st128 ?_
  show ownGo p.tables e below (T128.setTop (mkF m 66 #[.val (.ref a), .val (.ref ow), .val (.ref pa), .val (.ref la), .val (.ref ls), .val (.ref ly), .val (.int (1 : Int32)), .val (.int (1 : Int32))] [(.ref b2)])) _
  obtain ⟨T129, h129, X129, e129, E129, A129, D129, U129, st129⟩ := newO X128 hx hZ hown (hw _ (List.mem_of_getElem? (i := 12) rfl)) (hw _ (List.mem_of_getElem? (i := 13) rfl)) (hw _ (List.mem_of_getElem? (i := 14) rfl)) e128 (g := (mkF m 66 #[.val (.ref a), .val (.ref ow), .val (.ref pa), .val (.ref la), .val (.ref ls), .val (.ref ly), .val (.int (1 : Int32)), .val (.int (1 : Int32))] [(.ref b2)])) rfl (hb hby own_ctor_d66) (by decide) (by decide)
  obtain ⟨b129, g129⟩ : ∃ z, z = h118.size := ⟨_, rfl⟩
  rw [← g129] at A129 D129 U129 st129
  have gh_b129 : h0.size ≤ b129 := Nat.le_trans KP120.1 (Nat.le_of_eq g129.symm)
  have gn_b129 : n0 ≤ b129 := Nat.le_trans Z0 gh_b129
  have KP130 : Keep h0 h129 [a] := KP120.ext E129
  have F131 : Fld Z h129 b129 "java/util/AbstractList" "modCount" "I" (.int (0 : Int32)) := D129 (Or.inl (hw _ (List.mem_of_getElem? (i := 32) rfl))) (ty := .int) (by decide)
  have F132 : Fld Z h129 b129 "java/util/ArrayList" "elementData" "[Ljava/lang/Object;" .null := D129 (Or.inl (hw _ (List.mem_of_getElem? (i := 35) rfl))) (ty := (.array (.object "java/lang/Object"))) (by decide)
  have F133 : Fld Z h129 b129 "java/util/ArrayList" "size" "I" (.int (0 : Int32)) := D129 (Or.inl (hw _ (List.mem_of_getElem? (i := 62) rfl))) (ty := .int) (by decide)
  refine ownStep st129 ?_
  refine ownStep (fun _ k => XS.dup X129.here hx rfl (hb hby own_ctor_d69) rfl rfl k) ?_
  show ownGo p.tables e below (T129.setTop (mkF m 70 #[.val (.ref a), .val (.ref ow), .val (.ref pa), .val (.ref la), .val (.ref ls), .val (.ref ly), .val (.int (1 : Int32)), .val (.int (1 : Int32))] [(.ref b129), (.ref b129), (.ref b2)])) _
  have Q134 : Old Z n0 h129 := ((((Q83.keep R89 (allS gn_b2 all0)).wr W106 gn_b48).wr W118 gn_b58).ext E129)
  have Zs136 : n0 ≤ h129.size := Nat.le_trans Z0 KP130.1
  obtain ⟨_, _, ⟨T135, L135, k135, n135⟩, -, X135, ⟨Lc135, hQ135, l135, y135, z135⟩, st135⟩ := X129.specialBack hx (y := (⟨"java/util/ArrayList", "<init>", "()V"⟩ : MethodName)) rfl hown (mvT hZ (hw _ (List.mem_of_getElem? (i := 15) rfl))) (mvT hZ (hw _ (List.mem_of_getElem? (i := 16) rfl))) (mvT hZ (hw _ (List.mem_of_getElem? (i := 17) rfl))) (by decide) (backOf (W := 2) (own_al_init l Z a0 hw [] b129 ed h129 n0 Zs136 Q134 S A129 F132 F133 F131 gn_b129) hZ (hw _ (List.mem_of_getElem? (i := 17) rfl)) (hw _ (List.mem_of_getElem? (i := 14) rfl)) (by decide) (by decide)) (g := (mkF m 70 #[.val (.ref a), .val (.ref ow), .val (.ref pa), .val (.ref la), .val (.ref ls), .val (.ref ly), .val (.int (1 : Int32)), .val (.int (1 : Int32))] [(.ref b129), (.ref b129), (.ref b2)])) rfl (by rw [hml]; rfl) (Steps.refl _) (a := b129) (argsL := []) (rest := [(.ref b129), (.ref b2)]) (lenOf own_ctor_pd0 rfl) rfl (by show 2 * 0 + _ ≤ _; exact Nat.le_of_eq rfl) (hb hby own_ctor_d70) (fun _ _ => ⟨rfl, e129, (by decide : 6 + 0 ≤ _), (by decide : 29 + 0 ≤ _)⟩)
  dsimp only [Pt.U, Pt.locs, Pt.cells, Pt.slots] at X135 l135 y135 z135 st135 hQ135
  obtain rfl : k135 = 6 := y135
  obtain rfl : n135 = 29 := z135
  obtain ⟨rfl, N135q, R135, P137, P138, P139⟩ := hQ135
  have N135 : Fr n0 L135 := l135 ▸ Fr.app N119 N135q
  refine ownStep (fun _ k => st135.trans k) ?_
  have KP140 : Keep h0 T135.heap [a] := KP130.trans R135 (allS (Or.inr gh_b129) all0)
  show ownGo p.tables e below (T135.setTop (mkF m 73 #[.val (.ref a), .val (.ref ow), .val (.ref pa), .val (.ref la), .val (.ref ls), .val (.ref ly), .val (.int (1 : Int32)), .val (.int (1 : Int32))] [(.ref b129), (.ref b2)])) _
  have Q141 : Exa Z T135.heap b129 "java/util/ArrayList" := (A129.keep R135)
  have ne142 : b2 ≠ dd_89 := Nat.ne_of_lt (Nat.lt_of_lt_of_le (Nat.lt_of_lt_of_le Q84.lt (Nat.le_refl _)) P96)
  have Q143 : Exa Z T135.heap b2 "java/util/ArrayList" := (((((Q84.keep R89).wr W106).wr W118).ext E129).keep R135)
  have ne144 : b2 ≠ b129 := Nat.ne_of_lt (Nat.lt_of_lt_of_le (Nat.lt_of_lt_of_le P91.lt (Nat.le_trans (Nat.le_trans (Nat.le_refl _) (Keep.of_wr W106).1) (Keep.of_wr W118).1)) (Nat.le_of_eq g129.symm))
  have Q145 : Fld Z T135.heap b2 "java/util/ArrayList" "elementData" "[Ljava/lang/Object;" (.ref dd_89) := ((((P91.other W106 (Or.inl ne104)).other W118 (Or.inl ne115)).ext E129).keep R135 (ninS ne144 nin0))
  have Q146 : Fld Z T135.heap b2 "java/util/ArrayList" "size" "I" (.int (1 : Int32)) := ((((P92.other W106 (Or.inl ne104)).other W118 (Or.inl ne115)).ext E129).keep R135 (ninS ne144 nin0))
  have Q147 : Fld Z T135.heap b2 "java/util/AbstractList" "modCount" "I" (.int ((0 : Int32) + (1 : Int32))) := ((((P93.other W106 (Or.inl ne104)).other W118 (Or.inl ne115)).ext E129).keep R135 (ninS ne144 nin0))
  have ne148 : b48 ≠ dd_89 := Nat.ne_of_lt (Nat.lt_of_lt_of_le (Nat.lt_of_lt_of_le V48.lt (Nat.le_trans (Nat.le_trans (Nat.le_trans (Nat.le_trans (Nat.le_trans (Nat.le_refl _) (Keep.of_wr W52).1) E58.1) (Keep.of_wr W62).1) E70.1) R76.1)) P96)
  have ne149 : b58 ≠ dd_89 := Nat.ne_of_lt (Nat.lt_of_lt_of_le (Nat.lt_of_lt_of_le V58.lt (Nat.le_trans (Nat.le_trans (Nat.le_trans (Nat.le_refl _) (Keep.of_wr W62).1) E70.1) R76.1)) P96)
  have ne150 : dd_89 ≠ b129 := Nat.ne_of_lt (Nat.lt_of_lt_of_le (Nat.lt_of_lt_of_le P94.lt (Nat.le_trans (Nat.le_trans (Nat.le_refl _) (Keep.of_wr W106).1) (Keep.of_wr W118).1)) (Nat.le_of_eq g129.symm))
  have Q151 : Arv Z T135.heap dd_89 kk_89 (.object "java/lang/Object") (10 : Int32) [(.ref b70), .null, .null, .null, .null, .null, .null, .null, .null, .null] .null := ((((P94.other W106 (Ne.symm ne148)).other W118 (Ne.symm ne149)).ext E129).keep R135 (ninS ne150 nin0))
  have Zs153 : n0 ≤ T135.heap.size := Nat.le_trans Z0 KP140.1
  obtain ⟨cq152, kq152, q152a, q152b, q152c⟩ := isOf hZ rfl Q143
  obtain ⟨_, _, ⟨T152, L152, k152, n152⟩, -, X152, ⟨Lc152, hQ152, l152, y152, z152⟩, st152⟩ := X135.interfaceBack hx (xi := (⟨"java/util/List", "add", "(Ljava/lang/Object;)Z"⟩ : MethodName)) (y := (⟨"java/util/ArrayList", "add", "(Ljava/lang/Object;)Z"⟩ : MethodName)) hown (mvT hZ (hw _ (List.mem_of_getElem? (i := 50) rfl))) (mvT hZ (hw _ (List.mem_of_getElem? (i := 51) rfl))) (mvT hZ (hw _ (List.mem_of_getElem? (i := 52) rfl))) (mvT hZ (hw _ (List.mem_of_getElem? (i := 53) rfl))) (mvT hZ (hw _ (List.mem_of_getElem? (i := 54) rfl))) (mvT hZ (hw _ (List.mem_of_getElem? (i := 55) rfl))) (mvT hZ (hw _ (List.mem_of_getElem? (i := 56) rfl))) (mvT hZ (hw _ (List.mem_of_getElem? (i := 57) rfl))) (by decide) (backOf (W := 0) (own_al_add_1 l Z a0 hw [] b2 dd_89 kk_89 ((0 : Int32) + (1 : Int32)) (.ref b70) b129 T135.heap n0 Zs153 Q143 Q145 Q146 Q147 Q151 P95 gn_b2 gn_dd_89 ne142 (Ins.of_exa Q141 (hw _ (List.mem_of_getElem? (i := 84) rfl)))) hZ (hw _ (List.mem_of_getElem? (i := 58) rfl)) (hw _ (List.mem_of_getElem? (i := 14) rfl)) (by decide) (by decide)) q152a q152b q152c (g := (mkF m 73 #[.val (.ref a), .val (.ref ow), .val (.ref pa), .val (.ref la), .val (.ref ls), .val (.ref ly), .val (.int (1 : Int32)), .val (.int (1 : Int32))] [(.ref b129), (.ref b2)])) rfl (by rw [hml]; rfl) (Steps.refl _) (argsL := [(.ref b129)]) (rest := []) (lenOf own_ctor_pd1 rfl) rfl (by show 2 * 0 + _ ≤ _; exact Nat.le_of_eq rfl) (hb hby own_ctor_d73) (fun _ _ => ⟨rfl, rfl, (by decide : 6 + 1 ≤ _), (by decide : 29 + 10 ≤ _)⟩)
  dsimp only [Pt.U, Pt.locs, Pt.cells, Pt.slots] at X152 l152 y152 z152 st152 hQ152
  obtain rfl : k152 = 7 := y152
  obtain rfl : n152 = 39 := z152
  obtain ⟨rfl, N152q, R152, P154, P155, P156, P157⟩ := hQ152
  have N152 : Fr n0 L152 := l152 ▸ Fr.app N135 N152q
  refine ownStep (fun _ k => st152.trans k) ?_
  have KP158 : Keep h0 T152.heap [a] := KP140.trans R152 (allS (Or.inr gh_b2) (allS (Or.inr gh_dd_89) all0))
  refine ownStep (fun _ k => XS.pop X152.here hx rfl (hb hby own_ctor_d78) rfl rfl k) ?_
  refine ownStep (fun _ k => XS.aloadN X152.here hx rfl (hb hby own_ctor_d79) rfl rfl k) ?_
  show ownGo p.tables e below (T152.setTop (mkF m 80 #[.val (.ref a), .val (.ref ow), .val (.ref pa), .val (.ref la), .val (.ref ls), .val (.ref ly), .val (.int (1 : Int32)), .val (.int (1 : Int32))] [(.ref a)])) _
  have ne159 : a ≠ b129 := Nat.ne_of_lt (Nat.lt_of_lt_of_le (Nat.lt_of_lt_of_le Q127.lt (Nat.le_refl _)) (Nat.le_of_eq g129.symm))
  have ne160 : a ≠ dd_89 := Nat.ne_of_lt (Nat.lt_of_lt_of_le (Nat.lt_of_lt_of_le F65.lt (Nat.le_trans (Nat.le_trans (Nat.le_refl _) E70.1) R76.1)) P96)
  have Q161 : Fld Z T152.heap a "com/example/adept_layout/adeptlayout/layout/Nesting" "first" "[I" (.ref b48) := (((((Q99.other W106 (Or.inl ne102)).other W118 (Or.inl ne113)).ext E129).keep R135 (ninS ne159 nin0)).keep R152 (ninS ne14 (ninS ne160 nin0)))
  obtain ⟨T162, X162, e162, st162⟩ := getF X152 hx hZ hown (host := "") (Or.inl (hw _ (List.mem_of_getElem? (i := 46) rfl))) Via.refl rfl Q161 (g := (mkF m 80 #[.val (.ref a), .val (.ref ow), .val (.ref pa), .val (.ref la), .val (.ref ls), .val (.ref ly), .val (.int (1 : Int32)), .val (.int (1 : Int32))] [(.ref a)])) rfl rfl (hb hby own_ctor_d80)
  refine ownStep st162 ?_
  refine ownStep (fun _ k => XS.iload X162.here hx rfl (hb hby own_ctor_d83) rfl  k) ?_
  refine ownStep (fun _ k => XS.iload X162.here hx rfl (hb hby own_ctor_d85) rfl  k) ?_
  show ownGo p.tables e below (T162.setTop (mkF m 87 #[.val (.ref a), .val (.ref ow), .val (.ref pa), .val (.ref la), .val (.ref ls), .val (.ref ly), .val (.int (1 : Int32)), .val (.int (1 : Int32))] [(.int (1 : Int32)), (.int (1 : Int32)), (.ref b48)])) _
  have ne164 : b48 ≠ b129 := Nat.ne_of_lt (Nat.lt_of_lt_of_le (Nat.lt_of_lt_of_le V109.lt (Nat.le_trans (Nat.le_refl _) (Keep.of_wr W118).1)) (Nat.le_of_eq g129.symm))
  have Q165 : Arv Z T152.heap b48 k48 .int (5 : Int32) [(.int (1 : Int32)), (.int (0 : Int32)), (.int (0 : Int32)), (.int (0 : Int32)), (.int (0 : Int32))] (.int (0 : Int32)) := ((((V109.other W118 ne116).ext E129).keep R135 (ninS ne164 nin0)).keep R152 (ninS (Ne.symm ne104) (ninS ne148 nin0)))
  have Vo163 := Q165
  obtain ⟨cl163, Ar163, q163, S163, N163, H163, G163⟩ := Vo163
  have hin163 : ¬ ((1 : Int32) < 0 ∨ cl163.slots.size ≤ ((1 : Int32)).toNatClampNeg) := inb_of S163 ⟨by decide, by decide⟩
  obtain ⟨T166, h166, X166, e166, W166, st166⟩ := stI X162 hx hZ e162 Ar163 (j := (1 : Int32)) hin163 (g := (mkF m 87 #[.val (.ref a), .val (.ref ow), .val (.ref pa), .val (.ref la), .val (.ref ls), .val (.ref ly), .val (.int (1 : Int32)), .val (.int (1 : Int32))] [(.int (1 : Int32)), (.int (1 : Int32)), (.ref b48)])) rfl rfl (hb hby own_ctor_d87)
  have N167 := Fr.snoc X166 N152 gn_b48
  have KP168 : Keep h0 h166 [a] := KP158.wr W166 (Or.inr gh_b48)
  have V169 : Arv Z h166 b48 k48 .int (5 : Int32) [(.int (1 : Int32)), (.int (1 : Int32)), (.int (0 : Int32)), (.int (0 : Int32)), (.int (0 : Int32))] (.int (0 : Int32)) := Arv.set Ar163 q163 S163 N163 H163 G163 rfl W166 1 rfl (Nat.le_of_ble_eq_true rfl)
  refine ownStep st166 ?_
  refine ownStep (fun _ k => XS.aloadN X166.here hx rfl (hb hby own_ctor_d88) rfl rfl k) ?_
  show ownGo p.tables e below (T166.setTop (mkF m 89 #[.val (.ref a), .val (.ref ow), .val (.ref pa), .val (.ref la), .val (.ref ls), .val (.ref ly), .val (.int (1 : Int32)), .val (.int (1 : Int32))] [(.ref a)])) _
  have Q170 : Fld Z h166 a "com/example/adept_layout/adeptlayout/layout/Nesting" "last" "[I" (.ref b58) := (((((Q110.other W118 (Or.inl ne113)).ext E129).keep R135 (ninS ne159 nin0)).keep R152 (ninS ne14 (ninS ne160 nin0))).other W166 (Or.inl ne102))
  obtain ⟨T171, X171, e171, st171⟩ := getF X166 hx hZ hown (host := "") (Or.inl (hw _ (List.mem_of_getElem? (i := 48) rfl))) Via.refl e166 Q170 (g := (mkF m 89 #[.val (.ref a), .val (.ref ow), .val (.ref pa), .val (.ref la), .val (.ref ls), .val (.ref ly), .val (.int (1 : Int32)), .val (.int (1 : Int32))] [(.ref a)])) rfl rfl (hb hby own_ctor_d89)
  refine ownStep st171 ?_
  refine ownStep (fun _ k => XS.iload X171.here hx rfl (hb hby own_ctor_d92) rfl  k) ?_
  refine ownStep (fun _ k => XS.iconst X171.here hx rfl (hb hby own_ctor_d94) k) ?_
  show ownGo p.tables e below (T171.setTop (mkF m 95 #[.val (.ref a), .val (.ref ow), .val (.ref pa), .val (.ref la), .val (.ref ls), .val (.ref ly), .val (.int (1 : Int32)), .val (.int (1 : Int32))] [(.int (-1 : Int32)), (.int (1 : Int32)), (.ref b58)])) _
  have ne173 : b58 ≠ b129 := Nat.ne_of_lt (Nat.lt_of_lt_of_le (Nat.lt_of_lt_of_le V121.lt (Nat.le_refl _)) (Nat.le_of_eq g129.symm))
  have Q174 : Arv Z h166 b58 k58 .int (5 : Int32) [(.int (-1 : Int32)), (.int (0 : Int32)), (.int (0 : Int32)), (.int (0 : Int32)), (.int (0 : Int32))] (.int (0 : Int32)) := ((((V121.ext E129).keep R135 (ninS ne173 nin0)).keep R152 (ninS (Ne.symm ne115) (ninS ne149 nin0))).other W166 (Ne.symm ne116))
  have Vo172 := Q174
  obtain ⟨cl172, Ar172, q172, S172, N172, H172, G172⟩ := Vo172
  have hin172 : ¬ ((1 : Int32) < 0 ∨ cl172.slots.size ≤ ((1 : Int32)).toNatClampNeg) := inb_of S172 ⟨by decide, by decide⟩
  obtain ⟨T175, h175, X175, e175, W175, st175⟩ := stI X171 hx hZ e171 Ar172 (j := (1 : Int32)) hin172 (g := (mkF m 95 #[.val (.ref a), .val (.ref ow), .val (.ref pa), .val (.ref la), .val (.ref ls), .val (.ref ly), .val (.int (1 : Int32)), .val (.int (1 : Int32))] [(.int (-1 : Int32)), (.int (1 : Int32)), (.ref b58)])) rfl rfl (hb hby own_ctor_d95)
  have N176 := Fr.snoc X175 N167 gn_b58
  have KP177 : Keep h0 h175 [a] := KP168.wr W175 (Or.inr gh_b58)
  have V178 : Arv Z h175 b58 k58 .int (5 : Int32) [(.int (-1 : Int32)), (.int (-1 : Int32)), (.int (0 : Int32)), (.int (0 : Int32)), (.int (0 : Int32))] (.int (0 : Int32)) := Arv.set Ar172 q172 S172 N172 H172 G172 rfl W175 1 rfl (Nat.le_of_ble_eq_true rfl)
  refine ownStep st175 ?_
  refine ownStep (fun _ k => XS.iinc X175.here hx rfl (hb hby own_ctor_d96) rfl (l' := #[.val (.ref a), .val (.ref ow), .val (.ref pa), .val (.ref la), .val (.ref ls), .val (.ref ly), .val (.int (1 : Int32)), .val (.int (2 : Int32))]) rfl k) ?_
  refine ownStep (fun _ k => XS.goto X175.here hx rfl (pc0 := 99) (pc' := 55) rfl (hb hby own_ctor_d99) (by decide) (by decide) k) ?_
  refine ownStep (fun _ k => XS.iload X175.here hx rfl (hb hby own_ctor_d55) rfl  k) ?_
  refine ownStep (fun _ k => XS.aloadN X175.here hx rfl (hb hby own_ctor_d57) rfl rfl k) ?_
  show ownGo p.tables e below (T175.setTop (mkF m 58 #[.val (.ref a), .val (.ref ow), .val (.ref pa), .val (.ref la), .val (.ref ls), .val (.ref ly), .val (.int (1 : Int32)), .val (.int (2 : Int32))] [(.ref pa), (.int (2 : Int32))])) _
  have ne180 : pa ≠ b129 := Nat.ne_of_lt (Nat.lt_of_lt_of_le (Nat.lt_of_lt_of_le Q126.lt (Nat.le_refl _)) (Nat.le_of_eq g129.symm))
  have ne181 : pa ≠ dd_89 := Nat.ne_of_lt (Nat.lt_of_lt_of_le (Nat.lt_of_lt_of_le Q67.lt (Nat.le_trans (Nat.le_trans (Nat.le_refl _) E70.1) R76.1)) P96)
  have Q182 : Arv Z h175 pa kp .int (5 : Int32) [(.int (-1 : Int32)), (.int (0 : Int32)), (.int a2), (.int a3), (.int a4)] (.int (0 : Int32)) := (((((Q126.ext E129).keep R135 (ninS ne180 nin0)).keep R152 (ninS ne46 (ninS ne181 nin0))).other W166 ne124).other W175 ne125)
  have Vo179 := Q182
  obtain ⟨cl179, Ar179, q179, S179, N179, H179, G179⟩ := Vo179
  refine ownStep (X175.arraylength hx (by rw [e175]; exact Ar179.1) (State.isArrayOf_alike hZ.alike Ar179.2.1) (g := (mkF m 58 #[.val (.ref a), .val (.ref ow), .val (.ref pa), .val (.ref la), .val (.ref ls), .val (.ref ly), .val (.int (1 : Int32)), .val (.int (2 : Int32))] [(.ref pa), (.int (2 : Int32))])) rfl rfl (hb hby own_ctor_d58)) ?_
  rw [len_of S179 N179]
  refine ownStep (fun _ k => XS.icmpNo X175.here hx rfl (hb hby own_ctor_d59) rfl (tlt (by decide : (2 : Int32) < (5 : Int32))).2.1 k) ?_
  refine ownStep (fun _ k => XS.aloadN X175.here hx rfl (hb hby own_ctor_d62) rfl rfl k) ?_
  show ownGo p.tables e below (T175.setTop (mkF m 63 #[.val (.ref a), .val (.ref ow), .val (.ref pa), .val (.ref la), .val (.ref ls), .val (.ref ly), .val (.int (1 : Int32)), .val (.int (2 : Int32))] [(.ref a)])) _
  have Q183 : Fld Z h175 a "com/example/adept_layout/adeptlayout/layout/Nesting" "children" "Ljava/util/List;" (.ref b2) := (((((Q127.ext E129).keep R135 (ninS ne159 nin0)).keep R152 (ninS ne14 (ninS ne160 nin0))).other W166 (Or.inl ne102)).other W175 (Or.inl ne113))
  obtain ⟨T184, X184, e184, st184⟩ := getF X175 hx hZ hown (host := "") (Or.inl (hw _ (List.mem_of_getElem? (i := 36) rfl))) Via.refl e175 Q183 (g := (mkF m 63 #[.val (.ref a), .val (.ref ow), .val (.ref pa), .val (.ref la), .val (.ref ls), .val (.ref ly), .val (.int (1 : Int32)), .val (.int (2 : Int32))] [(.ref a)])) rfl rfl (hb hby own_ctor_d63)
  refine ownStep st184 ?_
  show ownGo p.tables e below (T184.setTop (mkF m 66 #[.val (.ref a), .val (.ref ow), .val (.ref pa), .val (.ref la), .val (.ref ls), .val (.ref ly), .val (.int (1 : Int32)), .val (.int (2 : Int32))] [(.ref b2)])) _
  obtain ⟨T185, h185, X185, e185, E185, A185, D185, U185, st185⟩ := newO X184 hx hZ hown (hw _ (List.mem_of_getElem? (i := 12) rfl)) (hw _ (List.mem_of_getElem? (i := 13) rfl)) (hw _ (List.mem_of_getElem? (i := 14) rfl)) e184 (g := (mkF m 66 #[.val (.ref a), .val (.ref ow), .val (.ref pa), .val (.ref la), .val (.ref ls), .val (.ref ly), .val (.int (1 : Int32)), .val (.int (2 : Int32))] [(.ref b2)])) rfl (hb hby own_ctor_d66) (by decide) (by decide)
  obtain ⟨b185, g185⟩ : ∃ z, z = h175.size := ⟨_, rfl⟩
  rw [← g185] at A185 D185 U185 st185
  have gh_b185 : h0.size ≤ b185 := Nat.le_trans KP177.1 (Nat.le_of_eq g185.symm)
  have gn_b185 : n0 ≤ b185 := Nat.le_trans Z0 gh_b185
  have KP186 : Keep h0 h185 [a] := KP177.ext E185
  have F187 : Fld Z h185 b185 "java/util/AbstractList" "modCount" "I" (.int (0 : Int32)) := D185 (Or.inl (hw _ (List.mem_of_getElem? (i := 32) rfl))) (ty := .int) (by decide)
  have F188 : Fld Z h185 b185 "java/util/ArrayList" "elementData" "[Ljava/lang/Object;" .null := D185 (Or.inl (hw _ (List.mem_of_getElem? (i := 35) rfl))) (ty := (.array (.object "java/lang/Object"))) (by decide)
  have F189 : Fld Z h185 b185 "java/util/ArrayList" "size" "I" (.int (0 : Int32)) := D185 (Or.inl (hw _ (List.mem_of_getElem? (i := 62) rfl))) (ty := .int) (by decide)
  refine ownStep st185 ?_
  refine ownStep (fun _ k => XS.dup X185.here hx rfl (hb hby own_ctor_d69) rfl rfl k) ?_
  show ownGo p.tables e below (T185.setTop (mkF m 70 #[.val (.ref a), .val (.ref ow), .val (.ref pa), .val (.ref la), .val (.ref ls), .val (.ref ly), .val (.int (1 : Int32)), .val (.int (2 : Int32))] [(.ref b185), (.ref b185), (.ref b2)])) _
  have Q190 : Old Z n0 h185 := (((((Q134.keep R135 (allS gn_b129 all0)).keep R152 (allS gn_b2 (allS gn_dd_89 all0))).wr W166 gn_b48).wr W175 gn_b58).ext E185)
  have Zs192 : n0 ≤ h185.size := Nat.le_trans Z0 KP186.1
  obtain ⟨_, _, ⟨T191, L191, k191, n191⟩, -, X191, ⟨Lc191, hQ191, l191, y191, z191⟩, st191⟩ := X185.specialBack hx (y := (⟨"java/util/ArrayList", "<init>", "()V"⟩ : MethodName)) rfl hown (mvT hZ (hw _ (List.mem_of_getElem? (i := 15) rfl))) (mvT hZ (hw _ (List.mem_of_getElem? (i := 16) rfl))) (mvT hZ (hw _ (List.mem_of_getElem? (i := 17) rfl))) (by decide) (backOf (W := 2) (own_al_init l Z a0 hw [] b185 ed h185 n0 Zs192 Q190 S A185 F188 F189 F187 gn_b185) hZ (hw _ (List.mem_of_getElem? (i := 17) rfl)) (hw _ (List.mem_of_getElem? (i := 14) rfl)) (by decide) (by decide)) (g := (mkF m 70 #[.val (.ref a), .val (.ref ow), .val (.ref pa), .val (.ref la), .val (.ref ls), .val (.ref ly), .val (.int (1 : Int32)), .val (.int (2 : Int32))] [(.ref b185), (.ref b185), (.ref b2)])) rfl (by rw [hml]; rfl) (Steps.refl _) (a := b185) (argsL := []) (rest := [(.ref b185), (.ref b2)]) (lenOf own_ctor_pd0 rfl) rfl (by show 2 * 0 + _ ≤ _; exact Nat.le_of_eq rfl) (hb hby own_ctor_d70) (fun _ _ => ⟨rfl, e185, (by decide : 8 + 0 ≤ _), (by decide : 42 + 0 ≤ _)⟩)
  dsimp only [Pt.U, Pt.locs, Pt.cells, Pt.slots] at X191 l191 y191 z191 st191 hQ191
  obtain rfl : k191 = 8 := y191
  obtain rfl : n191 = 42 := z191
  obtain ⟨rfl, N191q, R191, P193, P194, P195⟩ := hQ191
  have N191 : Fr n0 L191 := l191 ▸ Fr.app N176 N191q
  refine ownStep (fun _ k => st191.trans k) ?_
  have KP196 : Keep h0 T191.heap [a] := KP186.trans R191 (allS (Or.inr gh_b185) all0)
  show ownGo p.tables e below (T191.setTop (mkF m 73 #[.val (.ref a), .val (.ref ow), .val (.ref pa), .val (.ref la), .val (.ref ls), .val (.ref ly), .val (.int (1 : Int32)), .val (.int (2 : Int32))] [(.ref b185), (.ref b2)])) _
  have Q197 : Exa Z T191.heap b185 "java/util/ArrayList" := (A185.keep R191)
  have Q198 : Exa Z T191.heap b2 "java/util/ArrayList" := (((((Q143.keep R152).wr W166).wr W175).ext E185).keep R191)
  have ne199 : b2 ≠ b185 := Nat.ne_of_lt (Nat.lt_of_lt_of_le (Nat.lt_of_lt_of_le P154.lt (Nat.le_trans (Nat.le_trans (Nat.le_refl _) (Keep.of_wr W166).1) (Keep.of_wr W175).1)) (Nat.le_of_eq g185.symm))
  have Q200 : Fld Z T191.heap b2 "java/util/ArrayList" "elementData" "[Ljava/lang/Object;" (.ref dd_89) := ((((P154.other W166 (Or.inl ne104)).other W175 (Or.inl ne115)).ext E185).keep R191 (ninS ne199 nin0))
  have Q201 : Fld Z T191.heap b2 "java/util/ArrayList" "size" "I" (.int (2 : Int32)) := ((((P155.other W166 (Or.inl ne104)).other W175 (Or.inl ne115)).ext E185).keep R191 (ninS ne199 nin0))
  have Q202 : Fld Z T191.heap b2 "java/util/AbstractList" "modCount" "I" (.int (((0 : Int32) + (1 : Int32)) + (1 : Int32))) := ((((P156.other W166 (Or.inl ne104)).other W175 (Or.inl ne115)).ext E185).keep R191 (ninS ne199 nin0))
  have ne203 : dd_89 ≠ b185 := Nat.ne_of_lt (Nat.lt_of_lt_of_le (Nat.lt_of_lt_of_le P157.lt (Nat.le_trans (Nat.le_trans (Nat.le_refl _) (Keep.of_wr W166).1) (Keep.of_wr W175).1)) (Nat.le_of_eq g185.symm))
  have Q204 : Arv Z T191.heap dd_89 kk_89 (.object "java/lang/Object") (10 : Int32) [(.ref b70), (.ref b129), .null, .null, .null, .null, .null, .null, .null, .null] .null := ((((P157.other W166 (Ne.symm ne148)).other W175 (Ne.symm ne149)).ext E185).keep R191 (ninS ne203 nin0))
  have Zs206 : n0 ≤ T191.heap.size := Nat.le_trans Z0 KP196.1
  obtain ⟨cq205, kq205, q205a, q205b, q205c⟩ := isOf hZ rfl Q198
  obtain ⟨_, _, ⟨T205, L205, k205, n205⟩, -, X205, ⟨Lc205, hQ205, l205, y205, z205⟩, st205⟩ := X191.interfaceBack hx (xi := (⟨"java/util/List", "add", "(Ljava/lang/Object;)Z"⟩ : MethodName)) (y := (⟨"java/util/ArrayList", "add", "(Ljava/lang/Object;)Z"⟩ : MethodName)) hown (mvT hZ (hw _ (List.mem_of_getElem? (i := 50) rfl))) (mvT hZ (hw _ (List.mem_of_getElem? (i := 51) rfl))) (mvT hZ (hw _ (List.mem_of_getElem? (i := 52) rfl))) (mvT hZ (hw _ (List.mem_of_getElem? (i := 53) rfl))) (mvT hZ (hw _ (List.mem_of_getElem? (i := 54) rfl))) (mvT hZ (hw _ (List.mem_of_getElem? (i := 55) rfl))) (mvT hZ (hw _ (List.mem_of_getElem? (i := 56) rfl))) (mvT hZ (hw _ (List.mem_of_getElem? (i := 57) rfl))) (by decide) (backOf (W := 0) (own_al_add_2 l Z a0 hw [] b2 dd_89 kk_89 (((0 : Int32) + (1 : Int32)) + (1 : Int32)) (.ref b70) (.ref b129) b185 T191.heap n0 Zs206 Q198 Q200 Q201 Q202 Q204 P95 gn_b2 gn_dd_89 ne142 (Ins.of_exa Q197 (hw _ (List.mem_of_getElem? (i := 84) rfl)))) hZ (hw _ (List.mem_of_getElem? (i := 58) rfl)) (hw _ (List.mem_of_getElem? (i := 14) rfl)) (by decide) (by decide)) q205a q205b q205c (g := (mkF m 73 #[.val (.ref a), .val (.ref ow), .val (.ref pa), .val (.ref la), .val (.ref ls), .val (.ref ly), .val (.int (1 : Int32)), .val (.int (2 : Int32))] [(.ref b185), (.ref b2)])) rfl (by rw [hml]; rfl) (Steps.refl _) (argsL := [(.ref b185)]) (rest := []) (lenOf own_ctor_pd1 rfl) rfl (by show 2 * 0 + _ ≤ _; exact Nat.le_of_eq rfl) (hb hby own_ctor_d73) (fun _ _ => ⟨rfl, rfl, (by decide : 8 + 1 ≤ _), (by decide : 42 + 10 ≤ _)⟩)
  dsimp only [Pt.U, Pt.locs, Pt.cells, Pt.slots] at X205 l205 y205 z205 st205 hQ205
  obtain rfl : k205 = 9 := y205
  obtain rfl : n205 = 52 := z205
  obtain ⟨rfl, N205q, R205, P207, P208, P209, P210⟩ := hQ205
  have N205 : Fr n0 L205 := l205 ▸ Fr.app N191 N205q
  refine ownStep (fun _ k => st205.trans k) ?_
  have KP211 : Keep h0 T205.heap [a] := KP196.trans R205 (allS (Or.inr gh_b2) (allS (Or.inr gh_dd_89) all0))
  refine ownStep (fun _ k => XS.pop X205.here hx rfl (hb hby own_ctor_d78) rfl rfl k) ?_
  refine ownStep (fun _ k => XS.aloadN X205.here hx rfl (hb hby own_ctor_d79) rfl rfl k) ?_
  show ownGo p.tables e below (T205.setTop (mkF m 80 #[.val (.ref a), .val (.ref ow), .val (.ref pa), .val (.ref la), .val (.ref ls), .val (.ref ly), .val (.int (1 : Int32)), .val (.int (2 : Int32))] [(.ref a)])) _
  have ne212 : a ≠ b185 := Nat.ne_of_lt (Nat.lt_of_lt_of_le (Nat.lt_of_lt_of_le Q183.lt (Nat.le_refl _)) (Nat.le_of_eq g185.symm))
  have Q213 : Fld Z T205.heap a "com/example/adept_layout/adeptlayout/layout/Nesting" "first" "[I" (.ref b48) := (((((Q161.other W166 (Or.inl ne102)).other W175 (Or.inl ne113)).ext E185).keep R191 (ninS ne212 nin0)).keep R205 (ninS ne14 (ninS ne160 nin0)))
  obtain ⟨T214, X214, e214, st214⟩ := getF X205 hx hZ hown (host := "") (Or.inl (hw _ (List.mem_of_getElem? (i := 46) rfl))) Via.refl rfl Q213 (g := (mkF m 80 #[.val (.ref a), .val (.ref ow), .val (.ref pa), .val (.ref la), .val (.ref ls), .val (.ref ly), .val (.int (1 : Int32)), .val (.int (2 : Int32))] [(.ref a)])) rfl rfl (hb hby own_ctor_d80)
  refine ownStep st214 ?_
  refine ownStep (fun _ k => XS.iload X214.here hx rfl (hb hby own_ctor_d83) rfl  k) ?_
  refine ownStep (fun _ k => XS.iload X214.here hx rfl (hb hby own_ctor_d85) rfl  k) ?_
  show ownGo p.tables e below (T214.setTop (mkF m 87 #[.val (.ref a), .val (.ref ow), .val (.ref pa), .val (.ref la), .val (.ref ls), .val (.ref ly), .val (.int (1 : Int32)), .val (.int (2 : Int32))] [(.int (1 : Int32)), (.int (2 : Int32)), (.ref b48)])) _
  have ne216 : b48 ≠ b185 := Nat.ne_of_lt (Nat.lt_of_lt_of_le (Nat.lt_of_lt_of_le V169.lt (Nat.le_trans (Nat.le_refl _) (Keep.of_wr W175).1)) (Nat.le_of_eq g185.symm))
  have Q217 : Arv Z T205.heap b48 k48 .int (5 : Int32) [(.int (1 : Int32)), (.int (1 : Int32)), (.int (0 : Int32)), (.int (0 : Int32)), (.int (0 : Int32))] (.int (0 : Int32)) := ((((V169.other W175 ne116).ext E185).keep R191 (ninS ne216 nin0)).keep R205 (ninS (Ne.symm ne104) (ninS ne148 nin0)))
  have Vo215 := Q217
  obtain ⟨cl215, Ar215, q215, S215, N215, H215, G215⟩ := Vo215
  have hin215 : ¬ ((2 : Int32) < 0 ∨ cl215.slots.size ≤ ((2 : Int32)).toNatClampNeg) := inb_of S215 ⟨by decide, by decide⟩
  obtain ⟨T218, h218, X218, e218, W218, st218⟩ := stI X214 hx hZ e214 Ar215 (j := (2 : Int32)) hin215 (g := (mkF m 87 #[.val (.ref a), .val (.ref ow), .val (.ref pa), .val (.ref la), .val (.ref ls), .val (.ref ly), .val (.int (1 : Int32)), .val (.int (2 : Int32))] [(.int (1 : Int32)), (.int (2 : Int32)), (.ref b48)])) rfl rfl (hb hby own_ctor_d87)
  have N219 := Fr.snoc X218 N205 gn_b48
  have KP220 : Keep h0 h218 [a] := KP211.wr W218 (Or.inr gh_b48)
  have V221 : Arv Z h218 b48 k48 .int (5 : Int32) [(.int (1 : Int32)), (.int (1 : Int32)), (.int (1 : Int32)), (.int (0 : Int32)), (.int (0 : Int32))] (.int (0 : Int32)) := Arv.set Ar215 q215 S215 N215 H215 G215 rfl W218 2 rfl (Nat.le_of_ble_eq_true rfl)
  refine ownStep st218 ?_
  refine ownStep (fun _ k => XS.aloadN X218.here hx rfl (hb hby own_ctor_d88) rfl rfl k) ?_
  show ownGo p.tables e below (T218.setTop (mkF m 89 #[.val (.ref a), .val (.ref ow), .val (.ref pa), .val (.ref la), .val (.ref ls), .val (.ref ly), .val (.int (1 : Int32)), .val (.int (2 : Int32))] [(.ref a)])) _
  have Q222 : Fld Z h218 a "com/example/adept_layout/adeptlayout/layout/Nesting" "last" "[I" (.ref b58) := (((((Q170.other W175 (Or.inl ne113)).ext E185).keep R191 (ninS ne212 nin0)).keep R205 (ninS ne14 (ninS ne160 nin0))).other W218 (Or.inl ne102))
  obtain ⟨T223, X223, e223, st223⟩ := getF X218 hx hZ hown (host := "") (Or.inl (hw _ (List.mem_of_getElem? (i := 48) rfl))) Via.refl e218 Q222 (g := (mkF m 89 #[.val (.ref a), .val (.ref ow), .val (.ref pa), .val (.ref la), .val (.ref ls), .val (.ref ly), .val (.int (1 : Int32)), .val (.int (2 : Int32))] [(.ref a)])) rfl rfl (hb hby own_ctor_d89)
  refine ownStep st223 ?_
  refine ownStep (fun _ k => XS.iload X223.here hx rfl (hb hby own_ctor_d92) rfl  k) ?_
  refine ownStep (fun _ k => XS.iconst X223.here hx rfl (hb hby own_ctor_d94) k) ?_
  show ownGo p.tables e below (T223.setTop (mkF m 95 #[.val (.ref a), .val (.ref ow), .val (.ref pa), .val (.ref la), .val (.ref ls), .val (.ref ly), .val (.int (1 : Int32)), .val (.int (2 : Int32))] [(.int (-1 : Int32)), (.int (2 : Int32)), (.ref b58)])) _
  have ne225 : b58 ≠ b185 := Nat.ne_of_lt (Nat.lt_of_lt_of_le (Nat.lt_of_lt_of_le V178.lt (Nat.le_refl _)) (Nat.le_of_eq g185.symm))
  have Q226 : Arv Z h218 b58 k58 .int (5 : Int32) [(.int (-1 : Int32)), (.int (-1 : Int32)), (.int (0 : Int32)), (.int (0 : Int32)), (.int (0 : Int32))] (.int (0 : Int32)) := ((((V178.ext E185).keep R191 (ninS ne225 nin0)).keep R205 (ninS (Ne.symm ne115) (ninS ne149 nin0))).other W218 (Ne.symm ne116))
  have Vo224 := Q226
  obtain ⟨cl224, Ar224, q224, S224, N224, H224, G224⟩ := Vo224
  have hin224 : ¬ ((2 : Int32) < 0 ∨ cl224.slots.size ≤ ((2 : Int32)).toNatClampNeg) := inb_of S224 ⟨by decide, by decide⟩
  obtain ⟨T227, h227, X227, e227, W227, st227⟩ := stI X223 hx hZ e223 Ar224 (j := (2 : Int32)) hin224 (g := (mkF m 95 #[.val (.ref a), .val (.ref ow), .val (.ref pa), .val (.ref la), .val (.ref ls), .val (.ref ly), .val (.int (1 : Int32)), .val (.int (2 : Int32))] [(.int (-1 : Int32)), (.int (2 : Int32)), (.ref b58)])) rfl rfl (hb hby own_ctor_d95)
  have N228 := Fr.snoc X227 N219 gn_b58
  have KP229 : Keep h0 h227 [a] := KP220.wr W227 (Or.inr gh_b58)
  have V230 : Arv Z h227 b58 k58 .int (5 : Int32) [(.int (-1 : Int32)), (.int (-1 : Int32)), (.int (-1 : Int32)), (.int (0 : Int32)), (.int (0 : Int32))] (.int (0 : Int32)) := Arv.set Ar224 q224 S224 N224 H224 G224 rfl W227 2 rfl (Nat.le_of_ble_eq_true rfl)
  refine ownStep st227 ?_
  refine ownStep (fun _ k => XS.iinc X227.here hx rfl (hb hby own_ctor_d96) rfl (l' := #[.val (.ref a), .val (.ref ow), .val (.ref pa), .val (.ref la), .val (.ref ls), .val (.ref ly), .val (.int (1 : Int32)), .val (.int (3 : Int32))]) rfl k) ?_
  refine ownStep (fun _ k => XS.goto X227.here hx rfl (pc0 := 99) (pc' := 55) rfl (hb hby own_ctor_d99) (by decide) (by decide) k) ?_
  refine ownStep (fun _ k => XS.iload X227.here hx rfl (hb hby own_ctor_d55) rfl  k) ?_
  refine ownStep (fun _ k => XS.aloadN X227.here hx rfl (hb hby own_ctor_d57) rfl rfl k) ?_
  show ownGo p.tables e below (T227.setTop (mkF m 58 #[.val (.ref a), .val (.ref ow), .val (.ref pa), .val (.ref la), .val (.ref ls), .val (.ref ly), .val (.int (1 : Int32)), .val (.int (3 : Int32))] [(.ref pa), (.int (3 : Int32))])) _
  have ne232 : pa ≠ b185 := Nat.ne_of_lt (Nat.lt_of_lt_of_le (Nat.lt_of_lt_of_le Q182.lt (Nat.le_refl _)) (Nat.le_of_eq g185.symm))
  have Q233 : Arv Z h227 pa kp .int (5 : Int32) [(.int (-1 : Int32)), (.int (0 : Int32)), (.int a2), (.int a3), (.int a4)] (.int (0 : Int32)) := (((((Q182.ext E185).keep R191 (ninS ne232 nin0)).keep R205 (ninS ne46 (ninS ne181 nin0))).other W218 ne124).other W227 ne125)
  have Vo231 := Q233
  obtain ⟨cl231, Ar231, q231, S231, N231, H231, G231⟩ := Vo231
  refine ownStep (X227.arraylength hx (by rw [e227]; exact Ar231.1) (State.isArrayOf_alike hZ.alike Ar231.2.1) (g := (mkF m 58 #[.val (.ref a), .val (.ref ow), .val (.ref pa), .val (.ref la), .val (.ref ls), .val (.ref ly), .val (.int (1 : Int32)), .val (.int (3 : Int32))] [(.ref pa), (.int (3 : Int32))])) rfl rfl (hb hby own_ctor_d58)) ?_
  rw [len_of S231 N231]
  refine ownStep (fun _ k => XS.icmpNo X227.here hx rfl (hb hby own_ctor_d59) rfl (tlt (by decide : (3 : Int32) < (5 : Int32))).2.1 k) ?_
  refine ownStep (fun _ k => XS.aloadN X227.here hx rfl (hb hby own_ctor_d62) rfl rfl k) ?_
  show ownGo p.tables e below (T227.setTop (mkF m 63 #[.val (.ref a), .val (.ref ow), .val (.ref pa), .val (.ref la), .val (.ref ls), .val (.ref ly), .val (.int (1 : Int32)), .val (.int (3 : Int32))] [(.ref a)])) _
  have Q234 : Fld Z h227 a "com/example/adept_layout/adeptlayout/layout/Nesting" "children" "Ljava/util/List;" (.ref b2) := (((((Q183.ext E185).keep R191 (ninS ne212 nin0)).keep R205 (ninS ne14 (ninS ne160 nin0))).other W218 (Or.inl ne102)).other W227 (Or.inl ne113))
  obtain ⟨T235, X235, e235, st235⟩ := getF X227 hx hZ hown (host := "") (Or.inl (hw _ (List.mem_of_getElem? (i := 36) rfl))) Via.refl e227 Q234 (g := (mkF m 63 #[.val (.ref a), .val (.ref ow), .val (.ref pa), .val (.ref la), .val (.ref ls), .val (.ref ly), .val (.int (1 : Int32)), .val (.int (3 : Int32))] [(.ref a)])) rfl rfl (hb hby own_ctor_d63)
  refine ownStep st235 ?_
  show ownGo p.tables e below (T235.setTop (mkF m 66 #[.val (.ref a), .val (.ref ow), .val (.ref pa), .val (.ref la), .val (.ref ls), .val (.ref ly), .val (.int (1 : Int32)), .val (.int (3 : Int32))] [(.ref b2)])) _
  obtain ⟨T236, h236, X236, e236, E236, A236, D236, U236, st236⟩ := newO X235 hx hZ hown (hw _ (List.mem_of_getElem? (i := 12) rfl)) (hw _ (List.mem_of_getElem? (i := 13) rfl)) (hw _ (List.mem_of_getElem? (i := 14) rfl)) e235 (g := (mkF m 66 #[.val (.ref a), .val (.ref ow), .val (.ref pa), .val (.ref la), .val (.ref ls), .val (.ref ly), .val (.int (1 : Int32)), .val (.int (3 : Int32))] [(.ref b2)])) rfl (hb hby own_ctor_d66) (by decide) (by decide)
  obtain ⟨b236, g236⟩ : ∃ z, z = h227.size := ⟨_, rfl⟩
  rw [← g236] at A236 D236 U236 st236
  have gh_b236 : h0.size ≤ b236 := Nat.le_trans KP229.1 (Nat.le_of_eq g236.symm)
  have gn_b236 : n0 ≤ b236 := Nat.le_trans Z0 gh_b236
  have KP237 : Keep h0 h236 [a] := KP229.ext E236
  have F238 : Fld Z h236 b236 "java/util/AbstractList" "modCount" "I" (.int (0 : Int32)) := D236 (Or.inl (hw _ (List.mem_of_getElem? (i := 32) rfl))) (ty := .int) (by decide)
  have F239 : Fld Z h236 b236 "java/util/ArrayList" "elementData" "[Ljava/lang/Object;" .null := D236 (Or.inl (hw _ (List.mem_of_getElem? (i := 35) rfl))) (ty := (.array (.object "java/lang/Object"))) (by decide)
  have F240 : Fld Z h236 b236 "java/util/ArrayList" "size" "I" (.int (0 : Int32)) := D236 (Or.inl (hw _ (List.mem_of_getElem? (i := 62) rfl))) (ty := .int) (by decide)
  refine ownStep st236 ?_
  refine ownStep (fun _ k => XS.dup X236.here hx rfl (hb hby own_ctor_d69) rfl rfl k) ?_
  show ownGo p.tables e below (T236.setTop (mkF m 70 #[.val (.ref a), .val (.ref ow), .val (.ref pa), .val (.ref la), .val (.ref ls), .val (.ref ly), .val (.int (1 : Int32)), .val (.int (3 : Int32))] [(.ref b236), (.ref b236), (.ref b2)])) _
  have Q241 : Old Z n0 h236 := (((((Q190.keep R191 (allS gn_b185 all0)).keep R205 (allS gn_b2 (allS gn_dd_89 all0))).wr W218 gn_b48).wr W227 gn_b58).ext E236)
  have Zs243 : n0 ≤ h236.size := Nat.le_trans Z0 KP237.1
  obtain ⟨_, _, ⟨T242, L242, k242, n242⟩, -, X242, ⟨Lc242, hQ242, l242, y242, z242⟩, st242⟩ := X236.specialBack hx (y := (⟨"java/util/ArrayList", "<init>", "()V"⟩ : MethodName)) rfl hown (mvT hZ (hw _ (List.mem_of_getElem? (i := 15) rfl))) (mvT hZ (hw _ (List.mem_of_getElem? (i := 16) rfl))) (mvT hZ (hw _ (List.mem_of_getElem? (i := 17) rfl))) (by decide) (backOf (W := 2) (own_al_init l Z a0 hw [] b236 ed h236 n0 Zs243 Q241 S A236 F239 F240 F238 gn_b236) hZ (hw _ (List.mem_of_getElem? (i := 17) rfl)) (hw _ (List.mem_of_getElem? (i := 14) rfl)) (by decide) (by decide)) (g := (mkF m 70 #[.val (.ref a), .val (.ref ow), .val (.ref pa), .val (.ref la), .val (.ref ls), .val (.ref ly), .val (.int (1 : Int32)), .val (.int (3 : Int32))] [(.ref b236), (.ref b236), (.ref b2)])) rfl (by rw [hml]; rfl) (Steps.refl _) (a := b236) (argsL := []) (rest := [(.ref b236), (.ref b2)]) (lenOf own_ctor_pd0 rfl) rfl (by show 2 * 0 + _ ≤ _; exact Nat.le_of_eq rfl) (hb hby own_ctor_d70) (fun _ _ => ⟨rfl, e236, (by decide : 10 + 0 ≤ _), (by decide : 55 + 0 ≤ _)⟩)
  dsimp only [Pt.U, Pt.locs, Pt.cells, Pt.slots] at X242 l242 y242 z242 st242 hQ242
  obtain rfl : k242 = 10 := y242
  obtain rfl : n242 = 55 := z242
  obtain ⟨rfl, N242q, R242, P244, P245, P246⟩ := hQ242
  have N242 : Fr n0 L242 := l242 ▸ Fr.app N228 N242q
  refine ownStep (fun _ k => st242.trans k) ?_
  have KP247 : Keep h0 T242.heap [a] := KP237.trans R242 (allS (Or.inr gh_b236) all0)
  show ownGo p.tables e below (T242.setTop (mkF m 73 #[.val (.ref a), .val (.ref ow), .val (.ref pa), .val (.ref la), .val (.ref ls), .val (.ref ly), .val (.int (1 : Int32)), .val (.int (3 : Int32))] [(.ref b236), (.ref b2)])) _
  have Q248 : Exa Z T242.heap b236 "java/util/ArrayList" := (A236.keep R242)
  have Q249 : Exa Z T242.heap b2 "java/util/ArrayList" := (((((Q198.keep R205).wr W218).wr W227).ext E236).keep R242)
  have ne250 : b2 ≠ b236 := Nat.ne_of_lt (Nat.lt_of_lt_of_le (Nat.lt_of_lt_of_le P207.lt (Nat.le_trans (Nat.le_trans (Nat.le_refl _) (Keep.of_wr W218).1) (Keep.of_wr W227).1)) (Nat.le_of_eq g236.symm))
  have Q251 : Fld Z T242.heap b2 "java/util/ArrayList" "elementData" "[Ljava/lang/Object;" (.ref dd_89) := ((((P207.other W218 (Or.inl ne104)).other W227 (Or.inl ne115)).ext E236).keep R242 (ninS ne250 nin0))
  have Q252 : Fld Z T242.heap b2 "java/util/ArrayList" "size" "I" (.int (3 : Int32)) := ((((P208.other W218 (Or.inl ne104)).other W227 (Or.inl ne115)).ext E236).keep R242 (ninS ne250 nin0))
  have Q253 : Fld Z T242.heap b2 "java/util/AbstractList" "modCount" "I" (.int ((((0 : Int32) + (1 : Int32)) + (1 : Int32)) + (1 : Int32))) := ((((P209.other W218 (Or.inl ne104)).other W227 (Or.inl ne115)).ext E236).keep R242 (ninS ne250 nin0))
  have ne254 : dd_89 ≠ b236 := Nat.ne_of_lt (Nat.lt_of_lt_of_le (Nat.lt_of_lt_of_le P210.lt (Nat.le_trans (Nat.le_trans (Nat.le_refl _) (Keep.of_wr W218).1) (Keep.of_wr W227).1)) (Nat.le_of_eq g236.symm))
  have Q255 : Arv Z T242.heap dd_89 kk_89 (.object "java/lang/Object") (10 : Int32) [(.ref b70), (.ref b129), (.ref b185), .null, .null, .null, .null, .null, .null, .null] .null := ((((P210.other W218 (Ne.symm ne148)).other W227 (Ne.symm ne149)).ext E236).keep R242 (ninS ne254 nin0))
  have Zs257 : n0 ≤ T242.heap.size := Nat.le_trans Z0 KP247.1
  obtain ⟨cq256, kq256, q256a, q256b, q256c⟩ := isOf hZ rfl Q249
  obtain ⟨_, _, ⟨T256, L256, k256, n256⟩, -, X256, ⟨Lc256, hQ256, l256, y256, z256⟩, st256⟩ := X242.interfaceBack hx (xi := (⟨"java/util/List", "add", "(Ljava/lang/Object;)Z"⟩ : MethodName)) (y := (⟨"java/util/ArrayList", "add", "(Ljava/lang/Object;)Z"⟩ : MethodName)) hown (mvT hZ (hw _ (List.mem_of_getElem? (i := 50) rfl))) (mvT hZ (hw _ (List.mem_of_getElem? (i := 51) rfl))) (mvT hZ (hw _ (List.mem_of_getElem? (i := 52) rfl))) (mvT hZ (hw _ (List.mem_of_getElem? (i := 53) rfl))) (mvT hZ (hw _ (List.mem_of_getElem? (i := 54) rfl))) (mvT hZ (hw _ (List.mem_of_getElem? (i := 55) rfl))) (mvT hZ (hw _ (List.mem_of_getElem? (i := 56) rfl))) (mvT hZ (hw _ (List.mem_of_getElem? (i := 57) rfl))) (by decide) (backOf (W := 0) (own_al_add_3 l Z a0 hw [] b2 dd_89 kk_89 ((((0 : Int32) + (1 : Int32)) + (1 : Int32)) + (1 : Int32)) (.ref b70) (.ref b129) (.ref b185) b236 T242.heap n0 Zs257 Q249 Q251 Q252 Q253 Q255 P95 gn_b2 gn_dd_89 ne142 (Ins.of_exa Q248 (hw _ (List.mem_of_getElem? (i := 84) rfl)))) hZ (hw _ (List.mem_of_getElem? (i := 58) rfl)) (hw _ (List.mem_of_getElem? (i := 14) rfl)) (by decide) (by decide)) q256a q256b q256c (g := (mkF m 73 #[.val (.ref a), .val (.ref ow), .val (.ref pa), .val (.ref la), .val (.ref ls), .val (.ref ly), .val (.int (1 : Int32)), .val (.int (3 : Int32))] [(.ref b236), (.ref b2)])) rfl (by rw [hml]; rfl) (Steps.refl _) (argsL := [(.ref b236)]) (rest := []) (lenOf own_ctor_pd1 rfl) rfl (by show 2 * 0 + _ ≤ _; exact Nat.le_of_eq rfl) (hb hby own_ctor_d73) (fun _ _ => ⟨rfl, rfl, (by decide : 10 + 1 ≤ _), (by decide : 55 + 10 ≤ _)⟩)
  dsimp only [Pt.U, Pt.locs, Pt.cells, Pt.slots] at X256 l256 y256 z256 st256 hQ256
  obtain rfl : k256 = 11 := y256
  obtain rfl : n256 = 65 := z256
  obtain ⟨rfl, N256q, R256, P258, P259, P260, P261⟩ := hQ256
  have N256 : Fr n0 L256 := l256 ▸ Fr.app N242 N256q
  refine ownStep (fun _ k => st256.trans k) ?_
  have KP262 : Keep h0 T256.heap [a] := KP247.trans R256 (allS (Or.inr gh_b2) (allS (Or.inr gh_dd_89) all0))
  refine ownStep (fun _ k => XS.pop X256.here hx rfl (hb hby own_ctor_d78) rfl rfl k) ?_
  refine ownStep (fun _ k => XS.aloadN X256.here hx rfl (hb hby own_ctor_d79) rfl rfl k) ?_
  show ownGo p.tables e below (T256.setTop (mkF m 80 #[.val (.ref a), .val (.ref ow), .val (.ref pa), .val (.ref la), .val (.ref ls), .val (.ref ly), .val (.int (1 : Int32)), .val (.int (3 : Int32))] [(.ref a)])) _
  have ne263 : a ≠ b236 := Nat.ne_of_lt (Nat.lt_of_lt_of_le (Nat.lt_of_lt_of_le Q234.lt (Nat.le_refl _)) (Nat.le_of_eq g236.symm))
  have Q264 : Fld Z T256.heap a "com/example/adept_layout/adeptlayout/layout/Nesting" "first" "[I" (.ref b48) := (((((Q213.other W218 (Or.inl ne102)).other W227 (Or.inl ne113)).ext E236).keep R242 (ninS ne263 nin0)).keep R256 (ninS ne14 (ninS ne160 nin0)))
  obtain ⟨T265, X265, e265, st265⟩ := getF X256 hx hZ hown (host := "") (Or.inl (hw _ (List.mem_of_getElem? (i := 46) rfl))) Via.refl rfl Q264 (g := (mkF m 80 #[.val (.ref a), .val (.ref ow), .val (.ref pa), .val (.ref la), .val (.ref ls), .val (.ref ly), .val (.int (1 : Int32)), .val (.int (3 : Int32))] [(.ref a)])) rfl rfl (hb hby own_ctor_d80)
  refine ownStep st265 ?_
  refine ownStep (fun _ k => XS.iload X265.here hx rfl (hb hby own_ctor_d83) rfl  k) ?_
  refine ownStep (fun _ k => XS.iload X265.here hx rfl (hb hby own_ctor_d85) rfl  k) ?_
  show ownGo p.tables e below (T265.setTop (mkF m 87 #[.val (.ref a), .val (.ref ow), .val (.ref pa), .val (.ref la), .val (.ref ls), .val (.ref ly), .val (.int (1 : Int32)), .val (.int (3 : Int32))] [(.int (1 : Int32)), (.int (3 : Int32)), (.ref b48)])) _
  have ne267 : b48 ≠ b236 := Nat.ne_of_lt (Nat.lt_of_lt_of_le (Nat.lt_of_lt_of_le V221.lt (Nat.le_trans (Nat.le_refl _) (Keep.of_wr W227).1)) (Nat.le_of_eq g236.symm))
  have Q268 : Arv Z T256.heap b48 k48 .int (5 : Int32) [(.int (1 : Int32)), (.int (1 : Int32)), (.int (1 : Int32)), (.int (0 : Int32)), (.int (0 : Int32))] (.int (0 : Int32)) := ((((V221.other W227 ne116).ext E236).keep R242 (ninS ne267 nin0)).keep R256 (ninS (Ne.symm ne104) (ninS ne148 nin0)))
  have Vo266 := Q268
  obtain ⟨cl266, Ar266, q266, S266, N266, H266, G266⟩ := Vo266
  have hin266 : ¬ ((3 : Int32) < 0 ∨ cl266.slots.size ≤ ((3 : Int32)).toNatClampNeg) := inb_of S266 ⟨by decide, by decide⟩
  obtain ⟨T269, h269, X269, e269, W269, st269⟩ := stI X265 hx hZ e265 Ar266 (j := (3 : Int32)) hin266 (g := (mkF m 87 #[.val (.ref a), .val (.ref ow), .val (.ref pa), .val (.ref la), .val (.ref ls), .val (.ref ly), .val (.int (1 : Int32)), .val (.int (3 : Int32))] [(.int (1 : Int32)), (.int (3 : Int32)), (.ref b48)])) rfl rfl (hb hby own_ctor_d87)
  have N270 := Fr.snoc X269 N256 gn_b48
  have KP271 : Keep h0 h269 [a] := KP262.wr W269 (Or.inr gh_b48)
  have V272 : Arv Z h269 b48 k48 .int (5 : Int32) [(.int (1 : Int32)), (.int (1 : Int32)), (.int (1 : Int32)), (.int (1 : Int32)), (.int (0 : Int32))] (.int (0 : Int32)) := Arv.set Ar266 q266 S266 N266 H266 G266 rfl W269 3 rfl (Nat.le_of_ble_eq_true rfl)
  refine ownStep st269 ?_
  refine ownStep (fun _ k => XS.aloadN X269.here hx rfl (hb hby own_ctor_d88) rfl rfl k) ?_
  show ownGo p.tables e below (T269.setTop (mkF m 89 #[.val (.ref a), .val (.ref ow), .val (.ref pa), .val (.ref la), .val (.ref ls), .val (.ref ly), .val (.int (1 : Int32)), .val (.int (3 : Int32))] [(.ref a)])) _
  have Q273 : Fld Z h269 a "com/example/adept_layout/adeptlayout/layout/Nesting" "last" "[I" (.ref b58) := (((((Q222.other W227 (Or.inl ne113)).ext E236).keep R242 (ninS ne263 nin0)).keep R256 (ninS ne14 (ninS ne160 nin0))).other W269 (Or.inl ne102))
  obtain ⟨T274, X274, e274, st274⟩ := getF X269 hx hZ hown (host := "") (Or.inl (hw _ (List.mem_of_getElem? (i := 48) rfl))) Via.refl e269 Q273 (g := (mkF m 89 #[.val (.ref a), .val (.ref ow), .val (.ref pa), .val (.ref la), .val (.ref ls), .val (.ref ly), .val (.int (1 : Int32)), .val (.int (3 : Int32))] [(.ref a)])) rfl rfl (hb hby own_ctor_d89)
  refine ownStep st274 ?_
  refine ownStep (fun _ k => XS.iload X274.here hx rfl (hb hby own_ctor_d92) rfl  k) ?_
  refine ownStep (fun _ k => XS.iconst X274.here hx rfl (hb hby own_ctor_d94) k) ?_
  show ownGo p.tables e below (T274.setTop (mkF m 95 #[.val (.ref a), .val (.ref ow), .val (.ref pa), .val (.ref la), .val (.ref ls), .val (.ref ly), .val (.int (1 : Int32)), .val (.int (3 : Int32))] [(.int (-1 : Int32)), (.int (3 : Int32)), (.ref b58)])) _
  have ne276 : b58 ≠ b236 := Nat.ne_of_lt (Nat.lt_of_lt_of_le (Nat.lt_of_lt_of_le V230.lt (Nat.le_refl _)) (Nat.le_of_eq g236.symm))
  have Q277 : Arv Z h269 b58 k58 .int (5 : Int32) [(.int (-1 : Int32)), (.int (-1 : Int32)), (.int (-1 : Int32)), (.int (0 : Int32)), (.int (0 : Int32))] (.int (0 : Int32)) := ((((V230.ext E236).keep R242 (ninS ne276 nin0)).keep R256 (ninS (Ne.symm ne115) (ninS ne149 nin0))).other W269 (Ne.symm ne116))
  have Vo275 := Q277
  obtain ⟨cl275, Ar275, q275, S275, N275, H275, G275⟩ := Vo275
  have hin275 : ¬ ((3 : Int32) < 0 ∨ cl275.slots.size ≤ ((3 : Int32)).toNatClampNeg) := inb_of S275 ⟨by decide, by decide⟩
  obtain ⟨T278, h278, X278, e278, W278, st278⟩ := stI X274 hx hZ e274 Ar275 (j := (3 : Int32)) hin275 (g := (mkF m 95 #[.val (.ref a), .val (.ref ow), .val (.ref pa), .val (.ref la), .val (.ref ls), .val (.ref ly), .val (.int (1 : Int32)), .val (.int (3 : Int32))] [(.int (-1 : Int32)), (.int (3 : Int32)), (.ref b58)])) rfl rfl (hb hby own_ctor_d95)
  have N279 := Fr.snoc X278 N270 gn_b58
  have KP280 : Keep h0 h278 [a] := KP271.wr W278 (Or.inr gh_b58)
  have V281 : Arv Z h278 b58 k58 .int (5 : Int32) [(.int (-1 : Int32)), (.int (-1 : Int32)), (.int (-1 : Int32)), (.int (-1 : Int32)), (.int (0 : Int32))] (.int (0 : Int32)) := Arv.set Ar275 q275 S275 N275 H275 G275 rfl W278 3 rfl (Nat.le_of_ble_eq_true rfl)
  refine ownStep st278 ?_
  refine ownStep (fun _ k => XS.iinc X278.here hx rfl (hb hby own_ctor_d96) rfl (l' := #[.val (.ref a), .val (.ref ow), .val (.ref pa), .val (.ref la), .val (.ref ls), .val (.ref ly), .val (.int (1 : Int32)), .val (.int (4 : Int32))]) rfl k) ?_
  refine ownStep (fun _ k => XS.goto X278.here hx rfl (pc0 := 99) (pc' := 55) rfl (hb hby own_ctor_d99) (by decide) (by decide) k) ?_
  refine ownStep (fun _ k => XS.iload X278.here hx rfl (hb hby own_ctor_d55) rfl  k) ?_
  refine ownStep (fun _ k => XS.aloadN X278.here hx rfl (hb hby own_ctor_d57) rfl rfl k) ?_
  show ownGo p.tables e below (T278.setTop (mkF m 58 #[.val (.ref a), .val (.ref ow), .val (.ref pa), .val (.ref la), .val (.ref ls), .val (.ref ly), .val (.int (1 : Int32)), .val (.int (4 : Int32))] [(.ref pa), (.int (4 : Int32))])) _
  have ne283 : pa ≠ b236 := Nat.ne_of_lt (Nat.lt_of_lt_of_le (Nat.lt_of_lt_of_le Q233.lt (Nat.le_refl _)) (Nat.le_of_eq g236.symm))
  have Q284 : Arv Z h278 pa kp .int (5 : Int32) [(.int (-1 : Int32)), (.int (0 : Int32)), (.int a2), (.int a3), (.int a4)] (.int (0 : Int32)) := (((((Q233.ext E236).keep R242 (ninS ne283 nin0)).keep R256 (ninS ne46 (ninS ne181 nin0))).other W269 ne124).other W278 ne125)
  have Vo282 := Q284
  obtain ⟨cl282, Ar282, q282, S282, N282, H282, G282⟩ := Vo282
  refine ownStep (X278.arraylength hx (by rw [e278]; exact Ar282.1) (State.isArrayOf_alike hZ.alike Ar282.2.1) (g := (mkF m 58 #[.val (.ref a), .val (.ref ow), .val (.ref pa), .val (.ref la), .val (.ref ls), .val (.ref ly), .val (.int (1 : Int32)), .val (.int (4 : Int32))] [(.ref pa), (.int (4 : Int32))])) rfl rfl (hb hby own_ctor_d58)) ?_
  rw [len_of S282 N282]
  refine ownStep (fun _ k => XS.icmpNo X278.here hx rfl (hb hby own_ctor_d59) rfl (tlt (by decide : (4 : Int32) < (5 : Int32))).2.1 k) ?_
  refine ownStep (fun _ k => XS.aloadN X278.here hx rfl (hb hby own_ctor_d62) rfl rfl k) ?_
  show ownGo p.tables e below (T278.setTop (mkF m 63 #[.val (.ref a), .val (.ref ow), .val (.ref pa), .val (.ref la), .val (.ref ls), .val (.ref ly), .val (.int (1 : Int32)), .val (.int (4 : Int32))] [(.ref a)])) _
  have Q285 : Fld Z h278 a "com/example/adept_layout/adeptlayout/layout/Nesting" "children" "Ljava/util/List;" (.ref b2) := (((((Q234.ext E236).keep R242 (ninS ne263 nin0)).keep R256 (ninS ne14 (ninS ne160 nin0))).other W269 (Or.inl ne102)).other W278 (Or.inl ne113))
  obtain ⟨T286, X286, e286, st286⟩ := getF X278 hx hZ hown (host := "") (Or.inl (hw _ (List.mem_of_getElem? (i := 36) rfl))) Via.refl e278 Q285 (g := (mkF m 63 #[.val (.ref a), .val (.ref ow), .val (.ref pa), .val (.ref la), .val (.ref ls), .val (.ref ly), .val (.int (1 : Int32)), .val (.int (4 : Int32))] [(.ref a)])) rfl rfl (hb hby own_ctor_d63)
  refine ownStep st286 ?_
  show ownGo p.tables e below (T286.setTop (mkF m 66 #[.val (.ref a), .val (.ref ow), .val (.ref pa), .val (.ref la), .val (.ref ls), .val (.ref ly), .val (.int (1 : Int32)), .val (.int (4 : Int32))] [(.ref b2)])) _
  obtain ⟨T287, h287, X287, e287, E287, A287, D287, U287, st287⟩ := newO X286 hx hZ hown (hw _ (List.mem_of_getElem? (i := 12) rfl)) (hw _ (List.mem_of_getElem? (i := 13) rfl)) (hw _ (List.mem_of_getElem? (i := 14) rfl)) e286 (g := (mkF m 66 #[.val (.ref a), .val (.ref ow), .val (.ref pa), .val (.ref la), .val (.ref ls), .val (.ref ly), .val (.int (1 : Int32)), .val (.int (4 : Int32))] [(.ref b2)])) rfl (hb hby own_ctor_d66) (by decide) (by decide)
  obtain ⟨b287, g287⟩ : ∃ z, z = h278.size := ⟨_, rfl⟩
  rw [← g287] at A287 D287 U287 st287
  have gh_b287 : h0.size ≤ b287 := Nat.le_trans KP280.1 (Nat.le_of_eq g287.symm)
  have gn_b287 : n0 ≤ b287 := Nat.le_trans Z0 gh_b287
  have KP288 : Keep h0 h287 [a] := KP280.ext E287
  have F289 : Fld Z h287 b287 "java/util/AbstractList" "modCount" "I" (.int (0 : Int32)) := D287 (Or.inl (hw _ (List.mem_of_getElem? (i := 32) rfl))) (ty := .int) (by decide)
  have F290 : Fld Z h287 b287 "java/util/ArrayList" "elementData" "[Ljava/lang/Object;" .null := D287 (Or.inl (hw _ (List.mem_of_getElem? (i := 35) rfl))) (ty := (.array (.object "java/lang/Object"))) (by decide)
  have F291 : Fld Z h287 b287 "java/util/ArrayList" "size" "I" (.int (0 : Int32)) := D287 (Or.inl (hw _ (List.mem_of_getElem? (i := 62) rfl))) (ty := .int) (by decide)
  refine ownStep st287 ?_
  refine ownStep (fun _ k => XS.dup X287.here hx rfl (hb hby own_ctor_d69) rfl rfl k) ?_
  show ownGo p.tables e below (T287.setTop (mkF m 70 #[.val (.ref a), .val (.ref ow), .val (.ref pa), .val (.ref la), .val (.ref ls), .val (.ref ly), .val (.int (1 : Int32)), .val (.int (4 : Int32))] [(.ref b287), (.ref b287), (.ref b2)])) _
  have Q292 : Old Z n0 h287 := (((((Q241.keep R242 (allS gn_b236 all0)).keep R256 (allS gn_b2 (allS gn_dd_89 all0))).wr W269 gn_b48).wr W278 gn_b58).ext E287)
  have Zs294 : n0 ≤ h287.size := Nat.le_trans Z0 KP288.1
  obtain ⟨_, _, ⟨T293, L293, k293, n293⟩, -, X293, ⟨Lc293, hQ293, l293, y293, z293⟩, st293⟩ := X287.specialBack hx (y := (⟨"java/util/ArrayList", "<init>", "()V"⟩ : MethodName)) rfl hown (mvT hZ (hw _ (List.mem_of_getElem? (i := 15) rfl))) (mvT hZ (hw _ (List.mem_of_getElem? (i := 16) rfl))) (mvT hZ (hw _ (List.mem_of_getElem? (i := 17) rfl))) (by decide) (backOf (W := 2) (own_al_init l Z a0 hw [] b287 ed h287 n0 Zs294 Q292 S A287 F290 F291 F289 gn_b287) hZ (hw _ (List.mem_of_getElem? (i := 17) rfl)) (hw _ (List.mem_of_getElem? (i := 14) rfl)) (by decide) (by decide)) (g := (mkF m 70 #[.val (.ref a), .val (.ref ow), .val (.ref pa), .val (.ref la), .val (.ref ls), .val (.ref ly), .val (.int (1 : Int32)), .val (.int (4 : Int32))] [(.ref b287), (.ref b287), (.ref b2)])) rfl (by rw [hml]; rfl) (Steps.refl _) (a := b287) (argsL := []) (rest := [(.ref b287), (.ref b2)]) (lenOf own_ctor_pd0 rfl) rfl (by show 2 * 0 + _ ≤ _; exact Nat.le_of_eq rfl) (hb hby own_ctor_d70) (fun _ _ => ⟨rfl, e287, (by decide : 12 + 0 ≤ _), (by decide : 68 + 0 ≤ _)⟩)
  dsimp only [Pt.U, Pt.locs, Pt.cells, Pt.slots] at X293 l293 y293 z293 st293 hQ293
  obtain rfl : k293 = 12 := y293
  obtain rfl : n293 = 68 := z293
  obtain ⟨rfl, N293q, R293, P295, P296, P297⟩ := hQ293
  have N293 : Fr n0 L293 := l293 ▸ Fr.app N279 N293q
  refine ownStep (fun _ k => st293.trans k) ?_
  have KP298 : Keep h0 T293.heap [a] := KP288.trans R293 (allS (Or.inr gh_b287) all0)
  show ownGo p.tables e below (T293.setTop (mkF m 73 #[.val (.ref a), .val (.ref ow), .val (.ref pa), .val (.ref la), .val (.ref ls), .val (.ref ly), .val (.int (1 : Int32)), .val (.int (4 : Int32))] [(.ref b287), (.ref b2)])) _
  have Q299 : Exa Z T293.heap b287 "java/util/ArrayList" := (A287.keep R293)
  have Q300 : Exa Z T293.heap b2 "java/util/ArrayList" := (((((Q249.keep R256).wr W269).wr W278).ext E287).keep R293)
  have ne301 : b2 ≠ b287 := Nat.ne_of_lt (Nat.lt_of_lt_of_le (Nat.lt_of_lt_of_le P258.lt (Nat.le_trans (Nat.le_trans (Nat.le_refl _) (Keep.of_wr W269).1) (Keep.of_wr W278).1)) (Nat.le_of_eq g287.symm))
  have Q302 : Fld Z T293.heap b2 "java/util/ArrayList" "elementData" "[Ljava/lang/Object;" (.ref dd_89) := ((((P258.other W269 (Or.inl ne104)).other W278 (Or.inl ne115)).ext E287).keep R293 (ninS ne301 nin0))
  have Q303 : Fld Z T293.heap b2 "java/util/ArrayList" "size" "I" (.int (4 : Int32)) := ((((P259.other W269 (Or.inl ne104)).other W278 (Or.inl ne115)).ext E287).keep R293 (ninS ne301 nin0))
  have Q304 : Fld Z T293.heap b2 "java/util/AbstractList" "modCount" "I" (.int (((((0 : Int32) + (1 : Int32)) + (1 : Int32)) + (1 : Int32)) + (1 : Int32))) := ((((P260.other W269 (Or.inl ne104)).other W278 (Or.inl ne115)).ext E287).keep R293 (ninS ne301 nin0))
  have ne305 : dd_89 ≠ b287 := Nat.ne_of_lt (Nat.lt_of_lt_of_le (Nat.lt_of_lt_of_le P261.lt (Nat.le_trans (Nat.le_trans (Nat.le_refl _) (Keep.of_wr W269).1) (Keep.of_wr W278).1)) (Nat.le_of_eq g287.symm))
  have Q306 : Arv Z T293.heap dd_89 kk_89 (.object "java/lang/Object") (10 : Int32) [(.ref b70), (.ref b129), (.ref b185), (.ref b236), .null, .null, .null, .null, .null, .null] .null := ((((P261.other W269 (Ne.symm ne148)).other W278 (Ne.symm ne149)).ext E287).keep R293 (ninS ne305 nin0))
  have Zs308 : n0 ≤ T293.heap.size := Nat.le_trans Z0 KP298.1
  obtain ⟨cq307, kq307, q307a, q307b, q307c⟩ := isOf hZ rfl Q300
  obtain ⟨_, _, ⟨T307, L307, k307, n307⟩, -, X307, ⟨Lc307, hQ307, l307, y307, z307⟩, st307⟩ := X293.interfaceBack hx (xi := (⟨"java/util/List", "add", "(Ljava/lang/Object;)Z"⟩ : MethodName)) (y := (⟨"java/util/ArrayList", "add", "(Ljava/lang/Object;)Z"⟩ : MethodName)) hown (mvT hZ (hw _ (List.mem_of_getElem? (i := 50) rfl))) (mvT hZ (hw _ (List.mem_of_getElem? (i := 51) rfl))) (mvT hZ (hw _ (List.mem_of_getElem? (i := 52) rfl))) (mvT hZ (hw _ (List.mem_of_getElem? (i := 53) rfl))) (mvT hZ (hw _ (List.mem_of_getElem? (i := 54) rfl))) (mvT hZ (hw _ (List.mem_of_getElem? (i := 55) rfl))) (mvT hZ (hw _ (List.mem_of_getElem? (i := 56) rfl))) (mvT hZ (hw _ (List.mem_of_getElem? (i := 57) rfl))) (by decide) (backOf (W := 0) (own_al_add_4 l Z a0 hw [] b2 dd_89 kk_89 (((((0 : Int32) + (1 : Int32)) + (1 : Int32)) + (1 : Int32)) + (1 : Int32)) (.ref b70) (.ref b129) (.ref b185) (.ref b236) b287 T293.heap n0 Zs308 Q300 Q302 Q303 Q304 Q306 P95 gn_b2 gn_dd_89 ne142 (Ins.of_exa Q299 (hw _ (List.mem_of_getElem? (i := 84) rfl)))) hZ (hw _ (List.mem_of_getElem? (i := 58) rfl)) (hw _ (List.mem_of_getElem? (i := 14) rfl)) (by decide) (by decide)) q307a q307b q307c (g := (mkF m 73 #[.val (.ref a), .val (.ref ow), .val (.ref pa), .val (.ref la), .val (.ref ls), .val (.ref ly), .val (.int (1 : Int32)), .val (.int (4 : Int32))] [(.ref b287), (.ref b2)])) rfl (by rw [hml]; rfl) (Steps.refl _) (argsL := [(.ref b287)]) (rest := []) (lenOf own_ctor_pd1 rfl) rfl (by show 2 * 0 + _ ≤ _; exact Nat.le_of_eq rfl) (hb hby own_ctor_d73) (fun _ _ => ⟨rfl, rfl, (by decide : 12 + 1 ≤ _), (by decide : 68 + 10 ≤ _)⟩)
  dsimp only [Pt.U, Pt.locs, Pt.cells, Pt.slots] at X307 l307 y307 z307 st307 hQ307
  obtain rfl : k307 = 13 := y307
  obtain rfl : n307 = 78 := z307
  obtain ⟨rfl, N307q, R307, P309, P310, P311, P312⟩ := hQ307
  have N307 : Fr n0 L307 := l307 ▸ Fr.app N293 N307q
  refine ownStep (fun _ k => st307.trans k) ?_
  have KP313 : Keep h0 T307.heap [a] := KP298.trans R307 (allS (Or.inr gh_b2) (allS (Or.inr gh_dd_89) all0))
  refine ownStep (fun _ k => XS.pop X307.here hx rfl (hb hby own_ctor_d78) rfl rfl k) ?_
  refine ownStep (fun _ k => XS.aloadN X307.here hx rfl (hb hby own_ctor_d79) rfl rfl k) ?_
  show ownGo p.tables e below (T307.setTop (mkF m 80 #[.val (.ref a), .val (.ref ow), .val (.ref pa), .val (.ref la), .val (.ref ls), .val (.ref ly), .val (.int (1 : Int32)), .val (.int (4 : Int32))] [(.ref a)])) _
  have ne314 : a ≠ b287 := Nat.ne_of_lt (Nat.lt_of_lt_of_le (Nat.lt_of_lt_of_le Q285.lt (Nat.le_refl _)) (Nat.le_of_eq g287.symm))
  have Q315 : Fld Z T307.heap a "com/example/adept_layout/adeptlayout/layout/Nesting" "first" "[I" (.ref b48) := (((((Q264.other W269 (Or.inl ne102)).other W278 (Or.inl ne113)).ext E287).keep R293 (ninS ne314 nin0)).keep R307 (ninS ne14 (ninS ne160 nin0)))
  obtain ⟨T316, X316, e316, st316⟩ := getF X307 hx hZ hown (host := "") (Or.inl (hw _ (List.mem_of_getElem? (i := 46) rfl))) Via.refl rfl Q315 (g := (mkF m 80 #[.val (.ref a), .val (.ref ow), .val (.ref pa), .val (.ref la), .val (.ref ls), .val (.ref ly), .val (.int (1 : Int32)), .val (.int (4 : Int32))] [(.ref a)])) rfl rfl (hb hby own_ctor_d80)
  refine ownStep st316 ?_
  refine ownStep (fun _ k => XS.iload X316.here hx rfl (hb hby own_ctor_d83) rfl  k) ?_
  refine ownStep (fun _ k => XS.iload X316.here hx rfl (hb hby own_ctor_d85) rfl  k) ?_
  show ownGo p.tables e below (T316.setTop (mkF m 87 #[.val (.ref a), .val (.ref ow), .val (.ref pa), .val (.ref la), .val (.ref ls), .val (.ref ly), .val (.int (1 : Int32)), .val (.int (4 : Int32))] [(.int (1 : Int32)), (.int (4 : Int32)), (.ref b48)])) _
  have ne318 : b48 ≠ b287 := Nat.ne_of_lt (Nat.lt_of_lt_of_le (Nat.lt_of_lt_of_le V272.lt (Nat.le_trans (Nat.le_refl _) (Keep.of_wr W278).1)) (Nat.le_of_eq g287.symm))
  have Q319 : Arv Z T307.heap b48 k48 .int (5 : Int32) [(.int (1 : Int32)), (.int (1 : Int32)), (.int (1 : Int32)), (.int (1 : Int32)), (.int (0 : Int32))] (.int (0 : Int32)) := ((((V272.other W278 ne116).ext E287).keep R293 (ninS ne318 nin0)).keep R307 (ninS (Ne.symm ne104) (ninS ne148 nin0)))
  have Vo317 := Q319
  obtain ⟨cl317, Ar317, q317, S317, N317, H317, G317⟩ := Vo317
  have hin317 : ¬ ((4 : Int32) < 0 ∨ cl317.slots.size ≤ ((4 : Int32)).toNatClampNeg) := inb_of S317 ⟨by decide, by decide⟩
  obtain ⟨T320, h320, X320, e320, W320, st320⟩ := stI X316 hx hZ e316 Ar317 (j := (4 : Int32)) hin317 (g := (mkF m 87 #[.val (.ref a), .val (.ref ow), .val (.ref pa), .val (.ref la), .val (.ref ls), .val (.ref ly), .val (.int (1 : Int32)), .val (.int (4 : Int32))] [(.int (1 : Int32)), (.int (4 : Int32)), (.ref b48)])) rfl rfl (hb hby own_ctor_d87)
  have N321 := Fr.snoc X320 N307 gn_b48
  have KP322 : Keep h0 h320 [a] := KP313.wr W320 (Or.inr gh_b48)
  have V323 : Arv Z h320 b48 k48 .int (5 : Int32) [(.int (1 : Int32)), (.int (1 : Int32)), (.int (1 : Int32)), (.int (1 : Int32)), (.int (1 : Int32))] (.int (0 : Int32)) := Arv.set Ar317 q317 S317 N317 H317 G317 rfl W320 4 rfl (Nat.le_of_ble_eq_true rfl)
  refine ownStep st320 ?_
  refine ownStep (fun _ k => XS.aloadN X320.here hx rfl (hb hby own_ctor_d88) rfl rfl k) ?_
  show ownGo p.tables e below (T320.setTop (mkF m 89 #[.val (.ref a), .val (.ref ow), .val (.ref pa), .val (.ref la), .val (.ref ls), .val (.ref ly), .val (.int (1 : Int32)), .val (.int (4 : Int32))] [(.ref a)])) _
  have Q324 : Fld Z h320 a "com/example/adept_layout/adeptlayout/layout/Nesting" "last" "[I" (.ref b58) := (((((Q273.other W278 (Or.inl ne113)).ext E287).keep R293 (ninS ne314 nin0)).keep R307 (ninS ne14 (ninS ne160 nin0))).other W320 (Or.inl ne102))
  obtain ⟨T325, X325, e325, st325⟩ := getF X320 hx hZ hown (host := "") (Or.inl (hw _ (List.mem_of_getElem? (i := 48) rfl))) Via.refl e320 Q324 (g := (mkF m 89 #[.val (.ref a), .val (.ref ow), .val (.ref pa), .val (.ref la), .val (.ref ls), .val (.ref ly), .val (.int (1 : Int32)), .val (.int (4 : Int32))] [(.ref a)])) rfl rfl (hb hby own_ctor_d89)
  refine ownStep st325 ?_
  refine ownStep (fun _ k => XS.iload X325.here hx rfl (hb hby own_ctor_d92) rfl  k) ?_
  refine ownStep (fun _ k => XS.iconst X325.here hx rfl (hb hby own_ctor_d94) k) ?_
  show ownGo p.tables e below (T325.setTop (mkF m 95 #[.val (.ref a), .val (.ref ow), .val (.ref pa), .val (.ref la), .val (.ref ls), .val (.ref ly), .val (.int (1 : Int32)), .val (.int (4 : Int32))] [(.int (-1 : Int32)), (.int (4 : Int32)), (.ref b58)])) _
  have ne327 : b58 ≠ b287 := Nat.ne_of_lt (Nat.lt_of_lt_of_le (Nat.lt_of_lt_of_le V281.lt (Nat.le_refl _)) (Nat.le_of_eq g287.symm))
  have Q328 : Arv Z h320 b58 k58 .int (5 : Int32) [(.int (-1 : Int32)), (.int (-1 : Int32)), (.int (-1 : Int32)), (.int (-1 : Int32)), (.int (0 : Int32))] (.int (0 : Int32)) := ((((V281.ext E287).keep R293 (ninS ne327 nin0)).keep R307 (ninS (Ne.symm ne115) (ninS ne149 nin0))).other W320 (Ne.symm ne116))
  have Vo326 := Q328
  obtain ⟨cl326, Ar326, q326, S326, N326, H326, G326⟩ := Vo326
  have hin326 : ¬ ((4 : Int32) < 0 ∨ cl326.slots.size ≤ ((4 : Int32)).toNatClampNeg) := inb_of S326 ⟨by decide, by decide⟩
  obtain ⟨T329, h329, X329, e329, W329, st329⟩ := stI X325 hx hZ e325 Ar326 (j := (4 : Int32)) hin326 (g := (mkF m 95 #[.val (.ref a), .val (.ref ow), .val (.ref pa), .val (.ref la), .val (.ref ls), .val (.ref ly), .val (.int (1 : Int32)), .val (.int (4 : Int32))] [(.int (-1 : Int32)), (.int (4 : Int32)), (.ref b58)])) rfl rfl (hb hby own_ctor_d95)
  have N330 := Fr.snoc X329 N321 gn_b58
  have KP331 : Keep h0 h329 [a] := KP322.wr W329 (Or.inr gh_b58)
  have V332 : Arv Z h329 b58 k58 .int (5 : Int32) [(.int (-1 : Int32)), (.int (-1 : Int32)), (.int (-1 : Int32)), (.int (-1 : Int32)), (.int (-1 : Int32))] (.int (0 : Int32)) := Arv.set Ar326 q326 S326 N326 H326 G326 rfl W329 4 rfl (Nat.le_of_ble_eq_true rfl)
  refine ownStep st329 ?_
  refine ownStep (fun _ k => XS.iinc X329.here hx rfl (hb hby own_ctor_d96) rfl (l' := #[.val (.ref a), .val (.ref ow), .val (.ref pa), .val (.ref la), .val (.ref ls), .val (.ref ly), .val (.int (1 : Int32)), .val (.int (5 : Int32))]) rfl k) ?_
  refine ownStep (fun _ k => XS.goto X329.here hx rfl (pc0 := 99) (pc' := 55) rfl (hb hby own_ctor_d99) (by decide) (by decide) k) ?_
  refine ownStep (fun _ k => XS.iload X329.here hx rfl (hb hby own_ctor_d55) rfl  k) ?_
  refine ownStep (fun _ k => XS.aloadN X329.here hx rfl (hb hby own_ctor_d57) rfl rfl k) ?_
  show ownGo p.tables e below (T329.setTop (mkF m 58 #[.val (.ref a), .val (.ref ow), .val (.ref pa), .val (.ref la), .val (.ref ls), .val (.ref ly), .val (.int (1 : Int32)), .val (.int (5 : Int32))] [(.ref pa), (.int (5 : Int32))])) _
  have ne334 : pa ≠ b287 := Nat.ne_of_lt (Nat.lt_of_lt_of_le (Nat.lt_of_lt_of_le Q284.lt (Nat.le_refl _)) (Nat.le_of_eq g287.symm))
  have Q335 : Arv Z h329 pa kp .int (5 : Int32) [(.int (-1 : Int32)), (.int (0 : Int32)), (.int a2), (.int a3), (.int a4)] (.int (0 : Int32)) := (((((Q284.ext E287).keep R293 (ninS ne334 nin0)).keep R307 (ninS ne46 (ninS ne181 nin0))).other W320 ne124).other W329 ne125)
  have Vo333 := Q335
  obtain ⟨cl333, Ar333, q333, S333, N333, H333, G333⟩ := Vo333
  refine ownStep (X329.arraylength hx (by rw [e329]; exact Ar333.1) (State.isArrayOf_alike hZ.alike Ar333.2.1) (g := (mkF m 58 #[.val (.ref a), .val (.ref ow), .val (.ref pa), .val (.ref la), .val (.ref ls), .val (.ref ly), .val (.int (1 : Int32)), .val (.int (5 : Int32))] [(.ref pa), (.int (5 : Int32))])) rfl rfl (hb hby own_ctor_d58)) ?_
  rw [len_of S333 N333]
  refine ownStep (fun _ k => XS.icmpYes X329.here hx rfl (pc0 := 59) (pc' := 102) rfl (hb hby own_ctor_d59) rfl (flt (by decide : ¬ (5 : Int32) < (5 : Int32))).2.1 (by decide) (by decide) k) ?_
  show ownGo p.tables e below (T329.setTop (mkF m 102 #[.val (.ref a), .val (.ref ow), .val (.ref pa), .val (.ref la), .val (.ref ls), .val (.ref ly), .val (.int (1 : Int32)), .val (.int (5 : Int32))] [])) _
  have ne336 : b70 ≠ b129 := Nat.ne_of_lt (Nat.lt_of_lt_of_le (Nat.lt_of_lt_of_le Q82.lt (Nat.le_trans (Nat.le_trans (Nat.le_trans (Nat.le_refl _) R89.1) (Keep.of_wr W106).1) (Keep.of_wr W118).1)) (Nat.le_of_eq g129.symm))
  have ne337 : b70 ≠ b185 := Nat.ne_of_lt (Nat.lt_of_lt_of_le (Nat.lt_of_lt_of_le Q82.lt (Nat.le_trans (Nat.le_trans (Nat.le_trans (Nat.le_trans (Nat.le_trans (Nat.le_trans (Nat.le_trans (Nat.le_trans (Nat.le_refl _) R89.1) (Keep.of_wr W106).1) (Keep.of_wr W118).1) E129.1) R135.1) R152.1) (Keep.of_wr W166).1) (Keep.of_wr W175).1)) (Nat.le_of_eq g185.symm))
  have ne338 : b70 ≠ b236 := Nat.ne_of_lt (Nat.lt_of_lt_of_le (Nat.lt_of_lt_of_le Q82.lt (Nat.le_trans (Nat.le_trans (Nat.le_trans (Nat.le_trans (Nat.le_trans (Nat.le_trans (Nat.le_trans (Nat.le_trans (Nat.le_trans (Nat.le_trans (Nat.le_trans (Nat.le_trans (Nat.le_trans (Nat.le_refl _) R89.1) (Keep.of_wr W106).1) (Keep.of_wr W118).1) E129.1) R135.1) R152.1) (Keep.of_wr W166).1) (Keep.of_wr W175).1) E185.1) R191.1) R205.1) (Keep.of_wr W218).1) (Keep.of_wr W227).1)) (Nat.le_of_eq g236.symm))
  have ne339 : b70 ≠ b287 := Nat.ne_of_lt (Nat.lt_of_lt_of_le (Nat.lt_of_lt_of_le Q82.lt (Nat.le_trans (Nat.le_trans (Nat.le_trans (Nat.le_trans (Nat.le_trans (Nat.le_trans (Nat.le_trans (Nat.le_trans (Nat.le_trans (Nat.le_trans (Nat.le_trans (Nat.le_trans (Nat.le_trans (Nat.le_trans (Nat.le_trans (Nat.le_trans (Nat.le_trans (Nat.le_trans (Nat.le_refl _) R89.1) (Keep.of_wr W106).1) (Keep.of_wr W118).1) E129.1) R135.1) R152.1) (Keep.of_wr W166).1) (Keep.of_wr W175).1) E185.1) R191.1) R205.1) (Keep.of_wr W218).1) (Keep.of_wr W227).1) E236.1) R242.1) R256.1) (Keep.of_wr W269).1) (Keep.of_wr W278).1)) (Nat.le_of_eq g287.symm))
  have ne340 : b129 ≠ b185 := Nat.ne_of_lt (Nat.lt_of_lt_of_le (Nat.lt_of_lt_of_le Q141.lt (Nat.le_trans (Nat.le_trans (Nat.le_trans (Nat.le_refl _) R152.1) (Keep.of_wr W166).1) (Keep.of_wr W175).1)) (Nat.le_of_eq g185.symm))
  have ne341 : b129 ≠ b236 := Nat.ne_of_lt (Nat.lt_of_lt_of_le (Nat.lt_of_lt_of_le Q141.lt (Nat.le_trans (Nat.le_trans (Nat.le_trans (Nat.le_trans (Nat.le_trans (Nat.le_trans (Nat.le_trans (Nat.le_trans (Nat.le_refl _) R152.1) (Keep.of_wr W166).1) (Keep.of_wr W175).1) E185.1) R191.1) R205.1) (Keep.of_wr W218).1) (Keep.of_wr W227).1)) (Nat.le_of_eq g236.symm))
  have ne342 : b129 ≠ b287 := Nat.ne_of_lt (Nat.lt_of_lt_of_le (Nat.lt_of_lt_of_le Q141.lt (Nat.le_trans (Nat.le_trans (Nat.le_trans (Nat.le_trans (Nat.le_trans (Nat.le_trans (Nat.le_trans (Nat.le_trans (Nat.le_trans (Nat.le_trans (Nat.le_trans (Nat.le_trans (Nat.le_trans (Nat.le_refl _) R152.1) (Keep.of_wr W166).1) (Keep.of_wr W175).1) E185.1) R191.1) R205.1) (Keep.of_wr W218).1) (Keep.of_wr W227).1) E236.1) R242.1) R256.1) (Keep.of_wr W269).1) (Keep.of_wr W278).1)) (Nat.le_of_eq g287.symm))
  have ne343 : b185 ≠ b236 := Nat.ne_of_lt (Nat.lt_of_lt_of_le (Nat.lt_of_lt_of_le Q197.lt (Nat.le_trans (Nat.le_trans (Nat.le_trans (Nat.le_refl _) R205.1) (Keep.of_wr W218).1) (Keep.of_wr W227).1)) (Nat.le_of_eq g236.symm))
  have ne344 : b185 ≠ b287 := Nat.ne_of_lt (Nat.lt_of_lt_of_le (Nat.lt_of_lt_of_le Q197.lt (Nat.le_trans (Nat.le_trans (Nat.le_trans (Nat.le_trans (Nat.le_trans (Nat.le_trans (Nat.le_trans (Nat.le_trans (Nat.le_refl _) R205.1) (Keep.of_wr W218).1) (Keep.of_wr W227).1) E236.1) R242.1) R256.1) (Keep.of_wr W269).1) (Keep.of_wr W278).1)) (Nat.le_of_eq g287.symm))
  have ne345 : b236 ≠ b287 := Nat.ne_of_lt (Nat.lt_of_lt_of_le (Nat.lt_of_lt_of_le Q248.lt (Nat.le_trans (Nat.le_trans (Nat.le_trans (Nat.le_refl _) R256.1) (Keep.of_wr W269).1) (Keep.of_wr W278).1)) (Nat.le_of_eq g287.symm))
  have ne346 : ow ≠ b70 := Nat.ne_of_lt (Nat.lt_of_lt_of_le (Nat.lt_of_lt_of_le VO.lt (Nat.le_trans (Nat.le_trans (Nat.le_trans (Nat.le_trans (Nat.le_trans (Nat.le_trans (Nat.le_trans (Nat.le_trans (Nat.le_trans (Nat.le_trans (Nat.le_trans (Nat.le_refl _) E2.1) R8.1) (Keep.of_wr W17).1) (Keep.of_wr W23).1) (Keep.of_wr W29).1) (Keep.of_wr W35).1) (Keep.of_wr W41).1) E48.1) (Keep.of_wr W52).1) E58.1) (Keep.of_wr W62).1)) (Nat.le_of_eq g70.symm))
  have ne347 : ow ≠ b129 := Nat.ne_of_lt (Nat.lt_of_lt_of_le (Nat.lt_of_lt_of_le VO.lt (Nat.le_trans (Nat.le_trans (Nat.le_trans (Nat.le_trans (Nat.le_trans (Nat.le_trans (Nat.le_trans (Nat.le_trans (Nat.le_trans (Nat.le_trans (Nat.le_trans (Nat.le_trans (Nat.le_trans (Nat.le_trans (Nat.le_trans (Nat.le_trans (Nat.le_refl _) E2.1) R8.1) (Keep.of_wr W17).1) (Keep.of_wr W23).1) (Keep.of_wr W29).1) (Keep.of_wr W35).1) (Keep.of_wr W41).1) E48.1) (Keep.of_wr W52).1) E58.1) (Keep.of_wr W62).1) E70.1) R76.1) R89.1) (Keep.of_wr W106).1) (Keep.of_wr W118).1)) (Nat.le_of_eq g129.symm))
  have ne348 : ow ≠ b185 := Nat.ne_of_lt (Nat.lt_of_lt_of_le (Nat.lt_of_lt_of_le VO.lt (Nat.le_trans (Nat.le_trans (Nat.le_trans (Nat.le_trans (Nat.le_trans (Nat.le_trans (Nat.le_trans (Nat.le_trans (Nat.le_trans (Nat.le_trans (Nat.le_trans (Nat.le_trans (Nat.le_trans (Nat.le_trans (Nat.le_trans (Nat.le_trans (Nat.le_trans (Nat.le_trans (Nat.le_trans (Nat.le_trans (Nat.le_trans (Nat.le_refl _) E2.1) R8.1) (Keep.of_wr W17).1) (Keep.of_wr W23).1) (Keep.of_wr W29).1) (Keep.of_wr W35).1) (Keep.of_wr W41).1) E48.1) (Keep.of_wr W52).1) E58.1) (Keep.of_wr W62).1) E70.1) R76.1) R89.1) (Keep.of_wr W106).1) (Keep.of_wr W118).1) E129.1) R135.1) R152.1) (Keep.of_wr W166).1) (Keep.of_wr W175).1)) (Nat.le_of_eq g185.symm))
  have ne349 : ow ≠ b236 := Nat.ne_of_lt (Nat.lt_of_lt_of_le (Nat.lt_of_lt_of_le VO.lt (Nat.le_trans (Nat.le_trans (Nat.le_trans (Nat.le_trans (Nat.le_trans (Nat.le_trans (Nat.le_trans (Nat.le_trans (Nat.le_trans (Nat.le_trans (Nat.le_trans (Nat.le_trans (Nat.le_trans (Nat.le_trans (Nat.le_trans (Nat.le_trans (Nat.le_trans (Nat.le_trans (Nat.le_trans (Nat.le_trans (Nat.le_trans (Nat.le_trans (Nat.le_trans (Nat.le_trans (Nat.le_trans (Nat.le_trans (Nat.le_refl _) E2.1) R8.1) (Keep.of_wr W17).1) (Keep.of_wr W23).1) (Keep.of_wr W29).1) (Keep.of_wr W35).1) (Keep.of_wr W41).1) E48.1) (Keep.of_wr W52).1) E58.1) (Keep.of_wr W62).1) E70.1) R76.1) R89.1) (Keep.of_wr W106).1) (Keep.of_wr W118).1) E129.1) R135.1) R152.1) (Keep.of_wr W166).1) (Keep.of_wr W175).1) E185.1) R191.1) R205.1) (Keep.of_wr W218).1) (Keep.of_wr W227).1)) (Nat.le_of_eq g236.symm))
  have ne350 : ow ≠ b287 := Nat.ne_of_lt (Nat.lt_of_lt_of_le (Nat.lt_of_lt_of_le VO.lt (Nat.le_trans (Nat.le_trans (Nat.le_trans (Nat.le_trans (Nat.le_trans (Nat.le_trans (Nat.le_trans (Nat.le_trans (Nat.le_trans (Nat.le_trans (Nat.le_trans (Nat.le_trans (Nat.le_trans (Nat.le_trans (Nat.le_trans (Nat.le_trans (Nat.le_trans (Nat.le_trans (Nat.le_trans (Nat.le_trans (Nat.le_trans (Nat.le_trans (Nat.le_trans (Nat.le_trans (Nat.le_trans (Nat.le_trans (Nat.le_trans (Nat.le_trans (Nat.le_trans (Nat.le_trans (Nat.le_trans (Nat.le_refl _) E2.1) R8.1) (Keep.of_wr W17).1) (Keep.of_wr W23).1) (Keep.of_wr W29).1) (Keep.of_wr W35).1) (Keep.of_wr W41).1) E48.1) (Keep.of_wr W52).1) E58.1) (Keep.of_wr W62).1) E70.1) R76.1) R89.1) (Keep.of_wr W106).1) (Keep.of_wr W118).1) E129.1) R135.1) R152.1) (Keep.of_wr W166).1) (Keep.of_wr W175).1) E185.1) R191.1) R205.1) (Keep.of_wr W218).1) (Keep.of_wr W227).1) E236.1) R242.1) R256.1) (Keep.of_wr W269).1) (Keep.of_wr W278).1)) (Nat.le_of_eq g287.symm))
  have ne351 : la ≠ b70 := Nat.ne_of_lt (Nat.lt_of_lt_of_le (Nat.lt_of_lt_of_le VL.lt (Nat.le_trans (Nat.le_trans (Nat.le_trans (Nat.le_trans (Nat.le_trans (Nat.le_trans (Nat.le_trans (Nat.le_trans (Nat.le_trans (Nat.le_trans (Nat.le_trans (Nat.le_refl _) E2.1) R8.1) (Keep.of_wr W17).1) (Keep.of_wr W23).1) (Keep.of_wr W29).1) (Keep.of_wr W35).1) (Keep.of_wr W41).1) E48.1) (Keep.of_wr W52).1) E58.1) (Keep.of_wr W62).1)) (Nat.le_of_eq g70.symm))
  have ne352 : la ≠ b129 := Nat.ne_of_lt (Nat.lt_of_lt_of_le (Nat.lt_of_lt_of_le VL.lt (Nat.le_trans (Nat.le_trans (Nat.le_trans (Nat.le_trans (Nat.le_trans (Nat.le_trans (Nat.le_trans (Nat.le_trans (Nat.le_trans (Nat.le_trans (Nat.le_trans (Nat.le_trans (Nat.le_trans (Nat.le_trans (Nat.le_trans (Nat.le_trans (Nat.le_refl _) E2.1) R8.1) (Keep.of_wr W17).1) (Keep.of_wr W23).1) (Keep.of_wr W29).1) (Keep.of_wr W35).1) (Keep.of_wr W41).1) E48.1) (Keep.of_wr W52).1) E58.1) (Keep.of_wr W62).1) E70.1) R76.1) R89.1) (Keep.of_wr W106).1) (Keep.of_wr W118).1)) (Nat.le_of_eq g129.symm))
  have ne353 : la ≠ b185 := Nat.ne_of_lt (Nat.lt_of_lt_of_le (Nat.lt_of_lt_of_le VL.lt (Nat.le_trans (Nat.le_trans (Nat.le_trans (Nat.le_trans (Nat.le_trans (Nat.le_trans (Nat.le_trans (Nat.le_trans (Nat.le_trans (Nat.le_trans (Nat.le_trans (Nat.le_trans (Nat.le_trans (Nat.le_trans (Nat.le_trans (Nat.le_trans (Nat.le_trans (Nat.le_trans (Nat.le_trans (Nat.le_trans (Nat.le_trans (Nat.le_refl _) E2.1) R8.1) (Keep.of_wr W17).1) (Keep.of_wr W23).1) (Keep.of_wr W29).1) (Keep.of_wr W35).1) (Keep.of_wr W41).1) E48.1) (Keep.of_wr W52).1) E58.1) (Keep.of_wr W62).1) E70.1) R76.1) R89.1) (Keep.of_wr W106).1) (Keep.of_wr W118).1) E129.1) R135.1) R152.1) (Keep.of_wr W166).1) (Keep.of_wr W175).1)) (Nat.le_of_eq g185.symm))
  have ne354 : la ≠ b236 := Nat.ne_of_lt (Nat.lt_of_lt_of_le (Nat.lt_of_lt_of_le VL.lt (Nat.le_trans (Nat.le_trans (Nat.le_trans (Nat.le_trans (Nat.le_trans (Nat.le_trans (Nat.le_trans (Nat.le_trans (Nat.le_trans (Nat.le_trans (Nat.le_trans (Nat.le_trans (Nat.le_trans (Nat.le_trans (Nat.le_trans (Nat.le_trans (Nat.le_trans (Nat.le_trans (Nat.le_trans (Nat.le_trans (Nat.le_trans (Nat.le_trans (Nat.le_trans (Nat.le_trans (Nat.le_trans (Nat.le_trans (Nat.le_refl _) E2.1) R8.1) (Keep.of_wr W17).1) (Keep.of_wr W23).1) (Keep.of_wr W29).1) (Keep.of_wr W35).1) (Keep.of_wr W41).1) E48.1) (Keep.of_wr W52).1) E58.1) (Keep.of_wr W62).1) E70.1) R76.1) R89.1) (Keep.of_wr W106).1) (Keep.of_wr W118).1) E129.1) R135.1) R152.1) (Keep.of_wr W166).1) (Keep.of_wr W175).1) E185.1) R191.1) R205.1) (Keep.of_wr W218).1) (Keep.of_wr W227).1)) (Nat.le_of_eq g236.symm))
  have ne355 : la ≠ b287 := Nat.ne_of_lt (Nat.lt_of_lt_of_le (Nat.lt_of_lt_of_le VL.lt (Nat.le_trans (Nat.le_trans (Nat.le_trans (Nat.le_trans (Nat.le_trans (Nat.le_trans (Nat.le_trans (Nat.le_trans (Nat.le_trans (Nat.le_trans (Nat.le_trans (Nat.le_trans (Nat.le_trans (Nat.le_trans (Nat.le_trans (Nat.le_trans (Nat.le_trans (Nat.le_trans (Nat.le_trans (Nat.le_trans (Nat.le_trans (Nat.le_trans (Nat.le_trans (Nat.le_trans (Nat.le_trans (Nat.le_trans (Nat.le_trans (Nat.le_trans (Nat.le_trans (Nat.le_trans (Nat.le_trans (Nat.le_refl _) E2.1) R8.1) (Keep.of_wr W17).1) (Keep.of_wr W23).1) (Keep.of_wr W29).1) (Keep.of_wr W35).1) (Keep.of_wr W41).1) E48.1) (Keep.of_wr W52).1) E58.1) (Keep.of_wr W62).1) E70.1) R76.1) R89.1) (Keep.of_wr W106).1) (Keep.of_wr W118).1) E129.1) R135.1) R152.1) (Keep.of_wr W166).1) (Keep.of_wr W175).1) E185.1) R191.1) R205.1) (Keep.of_wr W218).1) (Keep.of_wr W227).1) E236.1) R242.1) R256.1) (Keep.of_wr W269).1) (Keep.of_wr W278).1)) (Nat.le_of_eq g287.symm))
  have ne356 : ly ≠ b70 := Nat.ne_of_lt (Nat.lt_of_lt_of_le (Nat.lt_of_lt_of_le VY.lt (Nat.le_trans (Nat.le_trans (Nat.le_trans (Nat.le_trans (Nat.le_trans (Nat.le_trans (Nat.le_trans (Nat.le_trans (Nat.le_trans (Nat.le_trans (Nat.le_trans (Nat.le_refl _) E2.1) R8.1) (Keep.of_wr W17).1) (Keep.of_wr W23).1) (Keep.of_wr W29).1) (Keep.of_wr W35).1) (Keep.of_wr W41).1) E48.1) (Keep.of_wr W52).1) E58.1) (Keep.of_wr W62).1)) (Nat.le_of_eq g70.symm))
  have ne357 : ly ≠ b129 := Nat.ne_of_lt (Nat.lt_of_lt_of_le (Nat.lt_of_lt_of_le VY.lt (Nat.le_trans (Nat.le_trans (Nat.le_trans (Nat.le_trans (Nat.le_trans (Nat.le_trans (Nat.le_trans (Nat.le_trans (Nat.le_trans (Nat.le_trans (Nat.le_trans (Nat.le_trans (Nat.le_trans (Nat.le_trans (Nat.le_trans (Nat.le_trans (Nat.le_refl _) E2.1) R8.1) (Keep.of_wr W17).1) (Keep.of_wr W23).1) (Keep.of_wr W29).1) (Keep.of_wr W35).1) (Keep.of_wr W41).1) E48.1) (Keep.of_wr W52).1) E58.1) (Keep.of_wr W62).1) E70.1) R76.1) R89.1) (Keep.of_wr W106).1) (Keep.of_wr W118).1)) (Nat.le_of_eq g129.symm))
  have ne358 : ly ≠ b185 := Nat.ne_of_lt (Nat.lt_of_lt_of_le (Nat.lt_of_lt_of_le VY.lt (Nat.le_trans (Nat.le_trans (Nat.le_trans (Nat.le_trans (Nat.le_trans (Nat.le_trans (Nat.le_trans (Nat.le_trans (Nat.le_trans (Nat.le_trans (Nat.le_trans (Nat.le_trans (Nat.le_trans (Nat.le_trans (Nat.le_trans (Nat.le_trans (Nat.le_trans (Nat.le_trans (Nat.le_trans (Nat.le_trans (Nat.le_trans (Nat.le_refl _) E2.1) R8.1) (Keep.of_wr W17).1) (Keep.of_wr W23).1) (Keep.of_wr W29).1) (Keep.of_wr W35).1) (Keep.of_wr W41).1) E48.1) (Keep.of_wr W52).1) E58.1) (Keep.of_wr W62).1) E70.1) R76.1) R89.1) (Keep.of_wr W106).1) (Keep.of_wr W118).1) E129.1) R135.1) R152.1) (Keep.of_wr W166).1) (Keep.of_wr W175).1)) (Nat.le_of_eq g185.symm))
  have ne359 : ly ≠ b236 := Nat.ne_of_lt (Nat.lt_of_lt_of_le (Nat.lt_of_lt_of_le VY.lt (Nat.le_trans (Nat.le_trans (Nat.le_trans (Nat.le_trans (Nat.le_trans (Nat.le_trans (Nat.le_trans (Nat.le_trans (Nat.le_trans (Nat.le_trans (Nat.le_trans (Nat.le_trans (Nat.le_trans (Nat.le_trans (Nat.le_trans (Nat.le_trans (Nat.le_trans (Nat.le_trans (Nat.le_trans (Nat.le_trans (Nat.le_trans (Nat.le_trans (Nat.le_trans (Nat.le_trans (Nat.le_trans (Nat.le_trans (Nat.le_refl _) E2.1) R8.1) (Keep.of_wr W17).1) (Keep.of_wr W23).1) (Keep.of_wr W29).1) (Keep.of_wr W35).1) (Keep.of_wr W41).1) E48.1) (Keep.of_wr W52).1) E58.1) (Keep.of_wr W62).1) E70.1) R76.1) R89.1) (Keep.of_wr W106).1) (Keep.of_wr W118).1) E129.1) R135.1) R152.1) (Keep.of_wr W166).1) (Keep.of_wr W175).1) E185.1) R191.1) R205.1) (Keep.of_wr W218).1) (Keep.of_wr W227).1)) (Nat.le_of_eq g236.symm))
  have ne360 : ly ≠ b287 := Nat.ne_of_lt (Nat.lt_of_lt_of_le (Nat.lt_of_lt_of_le VY.lt (Nat.le_trans (Nat.le_trans (Nat.le_trans (Nat.le_trans (Nat.le_trans (Nat.le_trans (Nat.le_trans (Nat.le_trans (Nat.le_trans (Nat.le_trans (Nat.le_trans (Nat.le_trans (Nat.le_trans (Nat.le_trans (Nat.le_trans (Nat.le_trans (Nat.le_trans (Nat.le_trans (Nat.le_trans (Nat.le_trans (Nat.le_trans (Nat.le_trans (Nat.le_trans (Nat.le_trans (Nat.le_trans (Nat.le_trans (Nat.le_trans (Nat.le_trans (Nat.le_trans (Nat.le_trans (Nat.le_trans (Nat.le_refl _) E2.1) R8.1) (Keep.of_wr W17).1) (Keep.of_wr W23).1) (Keep.of_wr W29).1) (Keep.of_wr W35).1) (Keep.of_wr W41).1) E48.1) (Keep.of_wr W52).1) E58.1) (Keep.of_wr W62).1) E70.1) R76.1) R89.1) (Keep.of_wr W106).1) (Keep.of_wr W118).1) E129.1) R135.1) R152.1) (Keep.of_wr W166).1) (Keep.of_wr W175).1) E185.1) R191.1) R205.1) (Keep.of_wr W218).1) (Keep.of_wr W227).1) E236.1) R242.1) R256.1) (Keep.of_wr W269).1) (Keep.of_wr W278).1)) (Nat.le_of_eq g287.symm))
  have ne361 : b70 ≠ dd_89 := Nat.ne_of_lt (Nat.lt_of_lt_of_le (Nat.lt_of_lt_of_le Q82.lt (Nat.le_refl _)) P96)
  have Q362 : Old Z n0 h329 := ((((Q292.keep R293 (allS gn_b287 all0)).keep R307 (allS gn_b2 (allS gn_dd_89 all0))).wr W320 gn_b48).wr W329 gn_b58)
  have Q363 : Exa Z h329 a "com/example/adept_layout/adeptlayout/layout/Nesting" := ((((((((((((((((((((((((((Q61.wr W62).ext E70).keep R76).keep R89).wr W106).wr W118).ext E129).keep R135).keep R152).wr W166).wr W175).ext E185).keep R191).keep R205).wr W218).wr W227).ext E236).keep R242).keep R256).wr W269).wr W278).ext E287).keep R293).keep R307).wr W320).wr W329)
  have ne364 : ow ≠ b2 := Nat.ne_of_lt (Nat.lt_of_lt_of_le (Nat.lt_of_lt_of_le VO.lt (Nat.le_refl _)) (Nat.le_of_eq g2.symm))
  have ne365 : ow ≠ b48 := Nat.ne_of_lt (Nat.lt_of_lt_of_le (Nat.lt_of_lt_of_le VO.lt (Nat.le_trans (Nat.le_trans (Nat.le_trans (Nat.le_trans (Nat.le_trans (Nat.le_trans (Nat.le_trans (Nat.le_refl _) E2.1) R8.1) (Keep.of_wr W17).1) (Keep.of_wr W23).1) (Keep.of_wr W29).1) (Keep.of_wr W35).1) (Keep.of_wr W41).1)) (Nat.le_of_eq g48.symm))
  have ne366 : ow ≠ b58 := Nat.ne_of_lt (Nat.lt_of_lt_of_le (Nat.lt_of_lt_of_le VO.lt (Nat.le_trans (Nat.le_trans (Nat.le_trans (Nat.le_trans (Nat.le_trans (Nat.le_trans (Nat.le_trans (Nat.le_trans (Nat.le_trans (Nat.le_refl _) E2.1) R8.1) (Keep.of_wr W17).1) (Keep.of_wr W23).1) (Keep.of_wr W29).1) (Keep.of_wr W35).1) (Keep.of_wr W41).1) E48.1) (Keep.of_wr W52).1)) (Nat.le_of_eq g58.symm))
  have ne367 : ow ≠ dd_89 := Nat.ne_of_lt (Nat.lt_of_lt_of_le (Nat.lt_of_lt_of_le VO.lt (Nat.le_trans (Nat.le_trans (Nat.le_trans (Nat.le_trans (Nat.le_trans (Nat.le_trans (Nat.le_trans (Nat.le_trans (Nat.le_trans (Nat.le_trans (Nat.le_trans (Nat.le_trans (Nat.le_trans (Nat.le_refl _) E2.1) R8.1) (Keep.of_wr W17).1) (Keep.of_wr W23).1) (Keep.of_wr W29).1) (Keep.of_wr W35).1) (Keep.of_wr W41).1) E48.1) (Keep.of_wr W52).1) E58.1) (Keep.of_wr W62).1) E70.1) R76.1)) P96)
  have Q368 : Arv Z h329 ow ko .int (2 : Int32) [(.int o0), (.int o1)] (.int (0 : Int32)) := ((((((((((((((((((((((((((((((((((((VO.ext E2).keep R8 (ninS ne364 nin0)).other W17 dn1).other W23 dn1).other W29 dn1).other W35 dn1).other W41 dn1).ext E48).other W52 dn1).ext E58).other W62 dn1).ext E70).keep R76 (ninS ne346 nin0)).keep R89 (ninS ne364 nin0)).other W106 ne365).other W118 ne366).ext E129).keep R135 (ninS ne347 nin0)).keep R152 (ninS ne364 (ninS ne367 nin0))).other W166 ne365).other W175 ne366).ext E185).keep R191 (ninS ne348 nin0)).keep R205 (ninS ne364 (ninS ne367 nin0))).other W218 ne365).other W227 ne366).ext E236).keep R242 (ninS ne349 nin0)).keep R256 (ninS ne364 (ninS ne367 nin0))).other W269 ne365).other W278 ne366).ext E287).keep R293 (ninS ne350 nin0)).keep R307 (ninS ne364 (ninS ne367 nin0))).other W320 ne365).other W329 ne366)
  have ne369 : la ≠ b2 := Nat.ne_of_lt (Nat.lt_of_lt_of_le (Nat.lt_of_lt_of_le VL.lt (Nat.le_refl _)) (Nat.le_of_eq g2.symm))
  have ne370 : la ≠ b48 := Nat.ne_of_lt (Nat.lt_of_lt_of_le (Nat.lt_of_lt_of_le VL.lt (Nat.le_trans (Nat.le_trans (Nat.le_trans (Nat.le_trans (Nat.le_trans (Nat.le_trans (Nat.le_trans (Nat.le_refl _) E2.1) R8.1) (Keep.of_wr W17).1) (Keep.of_wr W23).1) (Keep.of_wr W29).1) (Keep.of_wr W35).1) (Keep.of_wr W41).1)) (Nat.le_of_eq g48.symm))
  have ne371 : la ≠ b58 := Nat.ne_of_lt (Nat.lt_of_lt_of_le (Nat.lt_of_lt_of_le VL.lt (Nat.le_trans (Nat.le_trans (Nat.le_trans (Nat.le_trans (Nat.le_trans (Nat.le_trans (Nat.le_trans (Nat.le_trans (Nat.le_trans (Nat.le_refl _) E2.1) R8.1) (Keep.of_wr W17).1) (Keep.of_wr W23).1) (Keep.of_wr W29).1) (Keep.of_wr W35).1) (Keep.of_wr W41).1) E48.1) (Keep.of_wr W52).1)) (Nat.le_of_eq g58.symm))
  have ne372 : la ≠ dd_89 := Nat.ne_of_lt (Nat.lt_of_lt_of_le (Nat.lt_of_lt_of_le VL.lt (Nat.le_trans (Nat.le_trans (Nat.le_trans (Nat.le_trans (Nat.le_trans (Nat.le_trans (Nat.le_trans (Nat.le_trans (Nat.le_trans (Nat.le_trans (Nat.le_trans (Nat.le_trans (Nat.le_trans (Nat.le_refl _) E2.1) R8.1) (Keep.of_wr W17).1) (Keep.of_wr W23).1) (Keep.of_wr W29).1) (Keep.of_wr W35).1) (Keep.of_wr W41).1) E48.1) (Keep.of_wr W52).1) E58.1) (Keep.of_wr W62).1) E70.1) R76.1)) P96)
  have Q373 : Arv Z h329 la kl .boolean (5 : Int32) [(.int (0 : Int32)), (.int (0 : Int32)), (.int (0 : Int32)), (.int (0 : Int32)), (.int (0 : Int32))] (.int (0 : Int32)) := ((((((((((((((((((((((((((((((((((((VL.ext E2).keep R8 (ninS ne369 nin0)).other W17 dn2).other W23 dn2).other W29 dn2).other W35 dn2).other W41 dn2).ext E48).other W52 dn2).ext E58).other W62 dn2).ext E70).keep R76 (ninS ne351 nin0)).keep R89 (ninS ne369 nin0)).other W106 ne370).other W118 ne371).ext E129).keep R135 (ninS ne352 nin0)).keep R152 (ninS ne369 (ninS ne372 nin0))).other W166 ne370).other W175 ne371).ext E185).keep R191 (ninS ne353 nin0)).keep R205 (ninS ne369 (ninS ne372 nin0))).other W218 ne370).other W227 ne371).ext E236).keep R242 (ninS ne354 nin0)).keep R256 (ninS ne369 (ninS ne372 nin0))).other W269 ne370).other W278 ne371).ext E287).keep R293 (ninS ne355 nin0)).keep R307 (ninS ne369 (ninS ne372 nin0))).other W320 ne370).other W329 ne371)
  have ne374 : ly ≠ b2 := Nat.ne_of_lt (Nat.lt_of_lt_of_le (Nat.lt_of_lt_of_le VY.lt (Nat.le_refl _)) (Nat.le_of_eq g2.symm))
  have ne375 : ly ≠ b48 := Nat.ne_of_lt (Nat.lt_of_lt_of_le (Nat.lt_of_lt_of_le VY.lt (Nat.le_trans (Nat.le_trans (Nat.le_trans (Nat.le_trans (Nat.le_trans (Nat.le_trans (Nat.le_trans (Nat.le_refl _) E2.1) R8.1) (Keep.of_wr W17).1) (Keep.of_wr W23).1) (Keep.of_wr W29).1) (Keep.of_wr W35).1) (Keep.of_wr W41).1)) (Nat.le_of_eq g48.symm))
  have ne376 : ly ≠ b58 := Nat.ne_of_lt (Nat.lt_of_lt_of_le (Nat.lt_of_lt_of_le VY.lt (Nat.le_trans (Nat.le_trans (Nat.le_trans (Nat.le_trans (Nat.le_trans (Nat.le_trans (Nat.le_trans (Nat.le_trans (Nat.le_trans (Nat.le_refl _) E2.1) R8.1) (Keep.of_wr W17).1) (Keep.of_wr W23).1) (Keep.of_wr W29).1) (Keep.of_wr W35).1) (Keep.of_wr W41).1) E48.1) (Keep.of_wr W52).1)) (Nat.le_of_eq g58.symm))
  have ne377 : ly ≠ dd_89 := Nat.ne_of_lt (Nat.lt_of_lt_of_le (Nat.lt_of_lt_of_le VY.lt (Nat.le_trans (Nat.le_trans (Nat.le_trans (Nat.le_trans (Nat.le_trans (Nat.le_trans (Nat.le_trans (Nat.le_trans (Nat.le_trans (Nat.le_trans (Nat.le_trans (Nat.le_trans (Nat.le_trans (Nat.le_refl _) E2.1) R8.1) (Keep.of_wr W17).1) (Keep.of_wr W23).1) (Keep.of_wr W29).1) (Keep.of_wr W35).1) (Keep.of_wr W41).1) E48.1) (Keep.of_wr W52).1) E58.1) (Keep.of_wr W62).1) E70.1) R76.1)) P96)
  have Q378 : Arv Z h329 ly ky .int (2 : Int32) [(.int (0 : Int32)), (.int (0 : Int32))] (.int (0 : Int32)) := ((((((((((((((((((((((((((((((((((((VY.ext E2).keep R8 (ninS ne374 nin0)).other W17 dn3).other W23 dn3).other W29 dn3).other W35 dn3).other W41 dn3).ext E48).other W52 dn3).ext E58).other W62 dn3).ext E70).keep R76 (ninS ne356 nin0)).keep R89 (ninS ne374 nin0)).other W106 ne375).other W118 ne376).ext E129).keep R135 (ninS ne357 nin0)).keep R152 (ninS ne374 (ninS ne377 nin0))).other W166 ne375).other W175 ne376).ext E185).keep R191 (ninS ne358 nin0)).keep R205 (ninS ne374 (ninS ne377 nin0))).other W218 ne375).other W227 ne376).ext E236).keep R242 (ninS ne359 nin0)).keep R256 (ninS ne374 (ninS ne377 nin0))).other W269 ne375).other W278 ne376).ext E287).keep R293 (ninS ne360 nin0)).keep R307 (ninS ne374 (ninS ne377 nin0))).other W320 ne375).other W329 ne376)
  have Q379 : Exa Z h329 b2 "java/util/ArrayList" := (((Q300.keep R307).wr W320).wr W329)
  have Q380 : Fld Z h329 a "com/example/adept_layout/adeptlayout/layout/Nesting" "children" "Ljava/util/List;" (.ref b2) := (((((Q285.ext E287).keep R293 (ninS ne314 nin0)).keep R307 (ninS ne14 (ninS ne160 nin0))).other W320 (Or.inl ne102)).other W329 (Or.inl ne113))
  have Q381 : Fld Z h329 a "com/example/adept_layout/adeptlayout/layout/Nesting" "owner" "[I" (.ref ow) := ((((((((((((((((((((((((((((((((F26.other W29 (Or.inr (slot_ne (Or.inr (hw _ (List.mem_of_getElem? (i := 39) rfl))) (Or.inr (hw _ (List.mem_of_getElem? (i := 41) rfl))) (by decide) (t := (.array .int)) (t' := (.array .int)) (by decide) (by decide)))).other W35 (Or.inr (slot_ne (Or.inr (hw _ (List.mem_of_getElem? (i := 39) rfl))) (Or.inr (hw _ (List.mem_of_getElem? (i := 43) rfl))) (by decide) (t := (.array .int)) (t' := (.array .boolean)) (by decide) (by decide)))).other W41 (Or.inr (slot_ne (Or.inr (hw _ (List.mem_of_getElem? (i := 39) rfl))) (Or.inr (hw _ (List.mem_of_getElem? (i := 45) rfl))) (by decide) (t := (.array .int)) (t' := (.array .int)) (by decide) (by decide)))).ext E48).other W52 (Or.inr (slot_ne (Or.inr (hw _ (List.mem_of_getElem? (i := 39) rfl))) (Or.inr (hw _ (List.mem_of_getElem? (i := 47) rfl))) (by decide) (t := (.array .int)) (t' := (.array .int)) (by decide) (by decide)))).ext E58).other W62 (Or.inr (slot_ne (Or.inr (hw _ (List.mem_of_getElem? (i := 39) rfl))) (Or.inr (hw _ (List.mem_of_getElem? (i := 49) rfl))) (by decide) (t := (.array .int)) (t' := (.array .int)) (by decide) (by decide)))).ext E70).keep R76 (ninS ne98 nin0)).keep R89 (ninS ne14 nin0)).other W106 (Or.inl ne102)).other W118 (Or.inl ne113)).ext E129).keep R135 (ninS ne159 nin0)).keep R152 (ninS ne14 (ninS ne160 nin0))).other W166 (Or.inl ne102)).other W175 (Or.inl ne113)).ext E185).keep R191 (ninS ne212 nin0)).keep R205 (ninS ne14 (ninS ne160 nin0))).other W218 (Or.inl ne102)).other W227 (Or.inl ne113)).ext E236).keep R242 (ninS ne263 nin0)).keep R256 (ninS ne14 (ninS ne160 nin0))).other W269 (Or.inl ne102)).other W278 (Or.inl ne113)).ext E287).keep R293 (ninS ne314 nin0)).keep R307 (ninS ne14 (ninS ne160 nin0))).other W320 (Or.inl ne102)).other W329 (Or.inl ne113))
  have Q382 : Fld Z h329 a "com/example/adept_layout/adeptlayout/layout/Nesting" "parent" "[I" (.ref pa) := (((((((((((((((((((((((((((((((F32.other W35 (Or.inr (slot_ne (Or.inr (hw _ (List.mem_of_getElem? (i := 41) rfl))) (Or.inr (hw _ (List.mem_of_getElem? (i := 43) rfl))) (by decide) (t := (.array .int)) (t' := (.array .boolean)) (by decide) (by decide)))).other W41 (Or.inr (slot_ne (Or.inr (hw _ (List.mem_of_getElem? (i := 41) rfl))) (Or.inr (hw _ (List.mem_of_getElem? (i := 45) rfl))) (by decide) (t := (.array .int)) (t' := (.array .int)) (by decide) (by decide)))).ext E48).other W52 (Or.inr (slot_ne (Or.inr (hw _ (List.mem_of_getElem? (i := 41) rfl))) (Or.inr (hw _ (List.mem_of_getElem? (i := 47) rfl))) (by decide) (t := (.array .int)) (t' := (.array .int)) (by decide) (by decide)))).ext E58).other W62 (Or.inr (slot_ne (Or.inr (hw _ (List.mem_of_getElem? (i := 41) rfl))) (Or.inr (hw _ (List.mem_of_getElem? (i := 49) rfl))) (by decide) (t := (.array .int)) (t' := (.array .int)) (by decide) (by decide)))).ext E70).keep R76 (ninS ne98 nin0)).keep R89 (ninS ne14 nin0)).other W106 (Or.inl ne102)).other W118 (Or.inl ne113)).ext E129).keep R135 (ninS ne159 nin0)).keep R152 (ninS ne14 (ninS ne160 nin0))).other W166 (Or.inl ne102)).other W175 (Or.inl ne113)).ext E185).keep R191 (ninS ne212 nin0)).keep R205 (ninS ne14 (ninS ne160 nin0))).other W218 (Or.inl ne102)).other W227 (Or.inl ne113)).ext E236).keep R242 (ninS ne263 nin0)).keep R256 (ninS ne14 (ninS ne160 nin0))).other W269 (Or.inl ne102)).other W278 (Or.inl ne113)).ext E287).keep R293 (ninS ne314 nin0)).keep R307 (ninS ne14 (ninS ne160 nin0))).other W320 (Or.inl ne102)).other W329 (Or.inl ne113))
  have Q383 : Fld Z h329 a "com/example/adept_layout/adeptlayout/layout/Nesting" "lane" "[Z" (.ref la) := ((((((((((((((((((((((((((((((F38.other W41 (Or.inr (slot_ne (Or.inr (hw _ (List.mem_of_getElem? (i := 43) rfl))) (Or.inr (hw _ (List.mem_of_getElem? (i := 45) rfl))) (by decide) (t := (.array .boolean)) (t' := (.array .int)) (by decide) (by decide)))).ext E48).other W52 (Or.inr (slot_ne (Or.inr (hw _ (List.mem_of_getElem? (i := 43) rfl))) (Or.inr (hw _ (List.mem_of_getElem? (i := 47) rfl))) (by decide) (t := (.array .boolean)) (t' := (.array .int)) (by decide) (by decide)))).ext E58).other W62 (Or.inr (slot_ne (Or.inr (hw _ (List.mem_of_getElem? (i := 43) rfl))) (Or.inr (hw _ (List.mem_of_getElem? (i := 49) rfl))) (by decide) (t := (.array .boolean)) (t' := (.array .int)) (by decide) (by decide)))).ext E70).keep R76 (ninS ne98 nin0)).keep R89 (ninS ne14 nin0)).other W106 (Or.inl ne102)).other W118 (Or.inl ne113)).ext E129).keep R135 (ninS ne159 nin0)).keep R152 (ninS ne14 (ninS ne160 nin0))).other W166 (Or.inl ne102)).other W175 (Or.inl ne113)).ext E185).keep R191 (ninS ne212 nin0)).keep R205 (ninS ne14 (ninS ne160 nin0))).other W218 (Or.inl ne102)).other W227 (Or.inl ne113)).ext E236).keep R242 (ninS ne263 nin0)).keep R256 (ninS ne14 (ninS ne160 nin0))).other W269 (Or.inl ne102)).other W278 (Or.inl ne113)).ext E287).keep R293 (ninS ne314 nin0)).keep R307 (ninS ne14 (ninS ne160 nin0))).other W320 (Or.inl ne102)).other W329 (Or.inl ne113))
  have Q384 : Fld Z h329 a "com/example/adept_layout/adeptlayout/layout/Nesting" "listedSide" "[I" (.ref ls) := (((((((((((((((((((((((((((((F44.ext E48).other W52 (Or.inr (slot_ne (Or.inr (hw _ (List.mem_of_getElem? (i := 45) rfl))) (Or.inr (hw _ (List.mem_of_getElem? (i := 47) rfl))) (by decide) (t := (.array .int)) (t' := (.array .int)) (by decide) (by decide)))).ext E58).other W62 (Or.inr (slot_ne (Or.inr (hw _ (List.mem_of_getElem? (i := 45) rfl))) (Or.inr (hw _ (List.mem_of_getElem? (i := 49) rfl))) (by decide) (t := (.array .int)) (t' := (.array .int)) (by decide) (by decide)))).ext E70).keep R76 (ninS ne98 nin0)).keep R89 (ninS ne14 nin0)).other W106 (Or.inl ne102)).other W118 (Or.inl ne113)).ext E129).keep R135 (ninS ne159 nin0)).keep R152 (ninS ne14 (ninS ne160 nin0))).other W166 (Or.inl ne102)).other W175 (Or.inl ne113)).ext E185).keep R191 (ninS ne212 nin0)).keep R205 (ninS ne14 (ninS ne160 nin0))).other W218 (Or.inl ne102)).other W227 (Or.inl ne113)).ext E236).keep R242 (ninS ne263 nin0)).keep R256 (ninS ne14 (ninS ne160 nin0))).other W269 (Or.inl ne102)).other W278 (Or.inl ne113)).ext E287).keep R293 (ninS ne314 nin0)).keep R307 (ninS ne14 (ninS ne160 nin0))).other W320 (Or.inl ne102)).other W329 (Or.inl ne113))
  have Q385 : Fld Z h329 a "com/example/adept_layout/adeptlayout/layout/Nesting" "first" "[I" (.ref b48) := ((Q315.other W320 (Or.inl ne102)).other W329 (Or.inl ne113))
  have Q386 : Fld Z h329 a "com/example/adept_layout/adeptlayout/layout/Nesting" "last" "[I" (.ref b58) := (Q324.other W329 (Or.inl ne113))
  have Q387 : Exa Z h329 b70 "java/util/ArrayList" := (((((((((((((((((((((((Q82.keep R89).wr W106).wr W118).ext E129).keep R135).keep R152).wr W166).wr W175).ext E185).keep R191).keep R205).wr W218).wr W227).ext E236).keep R242).keep R256).wr W269).wr W278).ext E287).keep R293).keep R307).wr W320).wr W329)
  have Q388 : Fld Z h329 b70 "java/util/ArrayList" "elementData" "[Ljava/lang/Object;" (.ref ed) := (((((((((((((((((((((((P78.keep R89 (ninS (Ne.symm ne85) nin0)).other W106 (Or.inl (Ne.symm ne103))).other W118 (Or.inl (Ne.symm ne114))).ext E129).keep R135 (ninS ne336 nin0)).keep R152 (ninS (Ne.symm ne85) (ninS ne361 nin0))).other W166 (Or.inl (Ne.symm ne103))).other W175 (Or.inl (Ne.symm ne114))).ext E185).keep R191 (ninS ne337 nin0)).keep R205 (ninS (Ne.symm ne85) (ninS ne361 nin0))).other W218 (Or.inl (Ne.symm ne103))).other W227 (Or.inl (Ne.symm ne114))).ext E236).keep R242 (ninS ne338 nin0)).keep R256 (ninS (Ne.symm ne85) (ninS ne361 nin0))).other W269 (Or.inl (Ne.symm ne103))).other W278 (Or.inl (Ne.symm ne114))).ext E287).keep R293 (ninS ne339 nin0)).keep R307 (ninS (Ne.symm ne85) (ninS ne361 nin0))).other W320 (Or.inl (Ne.symm ne103))).other W329 (Or.inl (Ne.symm ne114)))
  have Q389 : Fld Z h329 b70 "java/util/ArrayList" "size" "I" (.int (0 : Int32)) := (((((((((((((((((((((((P79.keep R89 (ninS (Ne.symm ne85) nin0)).other W106 (Or.inl (Ne.symm ne103))).other W118 (Or.inl (Ne.symm ne114))).ext E129).keep R135 (ninS ne336 nin0)).keep R152 (ninS (Ne.symm ne85) (ninS ne361 nin0))).other W166 (Or.inl (Ne.symm ne103))).other W175 (Or.inl (Ne.symm ne114))).ext E185).keep R191 (ninS ne337 nin0)).keep R205 (ninS (Ne.symm ne85) (ninS ne361 nin0))).other W218 (Or.inl (Ne.symm ne103))).other W227 (Or.inl (Ne.symm ne114))).ext E236).keep R242 (ninS ne338 nin0)).keep R256 (ninS (Ne.symm ne85) (ninS ne361 nin0))).other W269 (Or.inl (Ne.symm ne103))).other W278 (Or.inl (Ne.symm ne114))).ext E287).keep R293 (ninS ne339 nin0)).keep R307 (ninS (Ne.symm ne85) (ninS ne361 nin0))).other W320 (Or.inl (Ne.symm ne103))).other W329 (Or.inl (Ne.symm ne114)))
  have Q390 : Fld Z h329 b70 "java/util/AbstractList" "modCount" "I" (.int (0 : Int32)) := (((((((((((((((((((((((P80.keep R89 (ninS (Ne.symm ne85) nin0)).other W106 (Or.inl (Ne.symm ne103))).other W118 (Or.inl (Ne.symm ne114))).ext E129).keep R135 (ninS ne336 nin0)).keep R152 (ninS (Ne.symm ne85) (ninS ne361 nin0))).other W166 (Or.inl (Ne.symm ne103))).other W175 (Or.inl (Ne.symm ne114))).ext E185).keep R191 (ninS ne337 nin0)).keep R205 (ninS (Ne.symm ne85) (ninS ne361 nin0))).other W218 (Or.inl (Ne.symm ne103))).other W227 (Or.inl (Ne.symm ne114))).ext E236).keep R242 (ninS ne338 nin0)).keep R256 (ninS (Ne.symm ne85) (ninS ne361 nin0))).other W269 (Or.inl (Ne.symm ne103))).other W278 (Or.inl (Ne.symm ne114))).ext E287).keep R293 (ninS ne339 nin0)).keep R307 (ninS (Ne.symm ne85) (ninS ne361 nin0))).other W320 (Or.inl (Ne.symm ne103))).other W329 (Or.inl (Ne.symm ne114)))
  have Q391 : Exa Z h329 b129 "java/util/ArrayList" := ((((((((((((((((((Q141.keep R152).wr W166).wr W175).ext E185).keep R191).keep R205).wr W218).wr W227).ext E236).keep R242).keep R256).wr W269).wr W278).ext E287).keep R293).keep R307).wr W320).wr W329)
  have Q392 : Fld Z h329 b129 "java/util/ArrayList" "elementData" "[Ljava/lang/Object;" (.ref ed) := ((((((((((((((((((P137.keep R152 (ninS (Ne.symm ne144) (ninS (Ne.symm ne150) nin0))).other W166 (Or.inl (Ne.symm ne164))).other W175 (Or.inl (Ne.symm ne173))).ext E185).keep R191 (ninS ne340 nin0)).keep R205 (ninS (Ne.symm ne144) (ninS (Ne.symm ne150) nin0))).other W218 (Or.inl (Ne.symm ne164))).other W227 (Or.inl (Ne.symm ne173))).ext E236).keep R242 (ninS ne341 nin0)).keep R256 (ninS (Ne.symm ne144) (ninS (Ne.symm ne150) nin0))).other W269 (Or.inl (Ne.symm ne164))).other W278 (Or.inl (Ne.symm ne173))).ext E287).keep R293 (ninS ne342 nin0)).keep R307 (ninS (Ne.symm ne144) (ninS (Ne.symm ne150) nin0))).other W320 (Or.inl (Ne.symm ne164))).other W329 (Or.inl (Ne.symm ne173)))
  have Q393 : Fld Z h329 b129 "java/util/ArrayList" "size" "I" (.int (0 : Int32)) := ((((((((((((((((((P138.keep R152 (ninS (Ne.symm ne144) (ninS (Ne.symm ne150) nin0))).other W166 (Or.inl (Ne.symm ne164))).other W175 (Or.inl (Ne.symm ne173))).ext E185).keep R191 (ninS ne340 nin0)).keep R205 (ninS (Ne.symm ne144) (ninS (Ne.symm ne150) nin0))).other W218 (Or.inl (Ne.symm ne164))).other W227 (Or.inl (Ne.symm ne173))).ext E236).keep R242 (ninS ne341 nin0)).keep R256 (ninS (Ne.symm ne144) (ninS (Ne.symm ne150) nin0))).other W269 (Or.inl (Ne.symm ne164))).other W278 (Or.inl (Ne.symm ne173))).ext E287).keep R293 (ninS ne342 nin0)).keep R307 (ninS (Ne.symm ne144) (ninS (Ne.symm ne150) nin0))).other W320 (Or.inl (Ne.symm ne164))).other W329 (Or.inl (Ne.symm ne173)))
  have Q394 : Fld Z h329 b129 "java/util/AbstractList" "modCount" "I" (.int (0 : Int32)) := ((((((((((((((((((P139.keep R152 (ninS (Ne.symm ne144) (ninS (Ne.symm ne150) nin0))).other W166 (Or.inl (Ne.symm ne164))).other W175 (Or.inl (Ne.symm ne173))).ext E185).keep R191 (ninS ne340 nin0)).keep R205 (ninS (Ne.symm ne144) (ninS (Ne.symm ne150) nin0))).other W218 (Or.inl (Ne.symm ne164))).other W227 (Or.inl (Ne.symm ne173))).ext E236).keep R242 (ninS ne341 nin0)).keep R256 (ninS (Ne.symm ne144) (ninS (Ne.symm ne150) nin0))).other W269 (Or.inl (Ne.symm ne164))).other W278 (Or.inl (Ne.symm ne173))).ext E287).keep R293 (ninS ne342 nin0)).keep R307 (ninS (Ne.symm ne144) (ninS (Ne.symm ne150) nin0))).other W320 (Or.inl (Ne.symm ne164))).other W329 (Or.inl (Ne.symm ne173)))
  have Q395 : Exa Z h329 b185 "java/util/ArrayList" := (((((((((((((Q197.keep R205).wr W218).wr W227).ext E236).keep R242).keep R256).wr W269).wr W278).ext E287).keep R293).keep R307).wr W320).wr W329)
  have Q396 : Fld Z h329 b185 "java/util/ArrayList" "elementData" "[Ljava/lang/Object;" (.ref ed) := (((((((((((((P193.keep R205 (ninS (Ne.symm ne199) (ninS (Ne.symm ne203) nin0))).other W218 (Or.inl (Ne.symm ne216))).other W227 (Or.inl (Ne.symm ne225))).ext E236).keep R242 (ninS ne343 nin0)).keep R256 (ninS (Ne.symm ne199) (ninS (Ne.symm ne203) nin0))).other W269 (Or.inl (Ne.symm ne216))).other W278 (Or.inl (Ne.symm ne225))).ext E287).keep R293 (ninS ne344 nin0)).keep R307 (ninS (Ne.symm ne199) (ninS (Ne.symm ne203) nin0))).other W320 (Or.inl (Ne.symm ne216))).other W329 (Or.inl (Ne.symm ne225)))
  have Q397 : Fld Z h329 b185 "java/util/ArrayList" "size" "I" (.int (0 : Int32)) := (((((((((((((P194.keep R205 (ninS (Ne.symm ne199) (ninS (Ne.symm ne203) nin0))).other W218 (Or.inl (Ne.symm ne216))).other W227 (Or.inl (Ne.symm ne225))).ext E236).keep R242 (ninS ne343 nin0)).keep R256 (ninS (Ne.symm ne199) (ninS (Ne.symm ne203) nin0))).other W269 (Or.inl (Ne.symm ne216))).other W278 (Or.inl (Ne.symm ne225))).ext E287).keep R293 (ninS ne344 nin0)).keep R307 (ninS (Ne.symm ne199) (ninS (Ne.symm ne203) nin0))).other W320 (Or.inl (Ne.symm ne216))).other W329 (Or.inl (Ne.symm ne225)))
  have Q398 : Fld Z h329 b185 "java/util/AbstractList" "modCount" "I" (.int (0 : Int32)) := (((((((((((((P195.keep R205 (ninS (Ne.symm ne199) (ninS (Ne.symm ne203) nin0))).other W218 (Or.inl (Ne.symm ne216))).other W227 (Or.inl (Ne.symm ne225))).ext E236).keep R242 (ninS ne343 nin0)).keep R256 (ninS (Ne.symm ne199) (ninS (Ne.symm ne203) nin0))).other W269 (Or.inl (Ne.symm ne216))).other W278 (Or.inl (Ne.symm ne225))).ext E287).keep R293 (ninS ne344 nin0)).keep R307 (ninS (Ne.symm ne199) (ninS (Ne.symm ne203) nin0))).other W320 (Or.inl (Ne.symm ne216))).other W329 (Or.inl (Ne.symm ne225)))
  have Q399 : Exa Z h329 b236 "java/util/ArrayList" := ((((((((Q248.keep R256).wr W269).wr W278).ext E287).keep R293).keep R307).wr W320).wr W329)
  have Q400 : Fld Z h329 b236 "java/util/ArrayList" "elementData" "[Ljava/lang/Object;" (.ref ed) := ((((((((P244.keep R256 (ninS (Ne.symm ne250) (ninS (Ne.symm ne254) nin0))).other W269 (Or.inl (Ne.symm ne267))).other W278 (Or.inl (Ne.symm ne276))).ext E287).keep R293 (ninS ne345 nin0)).keep R307 (ninS (Ne.symm ne250) (ninS (Ne.symm ne254) nin0))).other W320 (Or.inl (Ne.symm ne267))).other W329 (Or.inl (Ne.symm ne276)))
  have Q401 : Fld Z h329 b236 "java/util/ArrayList" "size" "I" (.int (0 : Int32)) := ((((((((P245.keep R256 (ninS (Ne.symm ne250) (ninS (Ne.symm ne254) nin0))).other W269 (Or.inl (Ne.symm ne267))).other W278 (Or.inl (Ne.symm ne276))).ext E287).keep R293 (ninS ne345 nin0)).keep R307 (ninS (Ne.symm ne250) (ninS (Ne.symm ne254) nin0))).other W320 (Or.inl (Ne.symm ne267))).other W329 (Or.inl (Ne.symm ne276)))
  have Q402 : Fld Z h329 b236 "java/util/AbstractList" "modCount" "I" (.int (0 : Int32)) := ((((((((P246.keep R256 (ninS (Ne.symm ne250) (ninS (Ne.symm ne254) nin0))).other W269 (Or.inl (Ne.symm ne267))).other W278 (Or.inl (Ne.symm ne276))).ext E287).keep R293 (ninS ne345 nin0)).keep R307 (ninS (Ne.symm ne250) (ninS (Ne.symm ne254) nin0))).other W320 (Or.inl (Ne.symm ne267))).other W329 (Or.inl (Ne.symm ne276)))
  have Q403 : Exa Z h329 b287 "java/util/ArrayList" := (((Q299.keep R307).wr W320).wr W329)
  have Q404 : Fld Z h329 b287 "java/util/ArrayList" "elementData" "[Ljava/lang/Object;" (.ref ed) := (((P295.keep R307 (ninS (Ne.symm ne301) (ninS (Ne.symm ne305) nin0))).other W320 (Or.inl (Ne.symm ne318))).other W329 (Or.inl (Ne.symm ne327)))
  have Q405 : Fld Z h329 b287 "java/util/ArrayList" "size" "I" (.int (0 : Int32)) := (((P296.keep R307 (ninS (Ne.symm ne301) (ninS (Ne.symm ne305) nin0))).other W320 (Or.inl (Ne.symm ne318))).other W329 (Or.inl (Ne.symm ne327)))
  have Q406 : Fld Z h329 b287 "java/util/AbstractList" "modCount" "I" (.int (0 : Int32)) := (((P297.keep R307 (ninS (Ne.symm ne301) (ninS (Ne.symm ne305) nin0))).other W320 (Or.inl (Ne.symm ne318))).other W329 (Or.inl (Ne.symm ne327)))
  have Q407 : Fld Z h329 b2 "java/util/ArrayList" "elementData" "[Ljava/lang/Object;" (.ref dd_89) := ((P309.other W320 (Or.inl ne104)).other W329 (Or.inl ne115))
  have Q408 : Fld Z h329 b2 "java/util/ArrayList" "size" "I" (.int (5 : Int32)) := ((P310.other W320 (Or.inl ne104)).other W329 (Or.inl ne115))
  have Q409 : Fld Z h329 b2 "java/util/AbstractList" "modCount" "I" (.int ((((((0 : Int32) + (1 : Int32)) + (1 : Int32)) + (1 : Int32)) + (1 : Int32)) + (1 : Int32))) := ((P311.other W320 (Or.inl ne104)).other W329 (Or.inl ne115))
  have Q410 : Arv Z h329 dd_89 kk_89 (.object "java/lang/Object") (10 : Int32) [(.ref b70), (.ref b129), (.ref b185), (.ref b236), (.ref b287), .null, .null, .null, .null, .null] .null := ((P312.other W320 (Ne.symm ne148)).other W329 (Ne.symm ne149))
  have Q411 : Arv Z h329 b48 k48 .int (5 : Int32) [(.int (1 : Int32)), (.int (1 : Int32)), (.int (1 : Int32)), (.int (1 : Int32)), (.int (1 : Int32))] (.int (0 : Int32)) := (V323.other W329 ne116)
  have own_hb : ∀ i : Fin 5, own_c5 b70 b129 b185 b236 b287 i < h329.size := own_all5 (P := fun z => z < h329.size) Q387.lt Q391.lt Q395.lt Q399.lt Q403.lt
  have own_cs : ∀ i j : Fin 5, i ≠ j → own_c5 b70 b129 b185 b236 b287 i ≠ own_c5 b70 b129 b185 b236 b287 j := own_pairs5 ne336 ne337 ne338 ne339 ne340 ne341 ne342 ne343 ne344 ne345
  have own_edh : ed < h329.size := (V.ext Q362.2).lt
  have CH0 : own_CH Z h329.size ed (0 : Int32) h329 (own_c5 b70 b129 b185 b236 b287) := ⟨fun _ => ed, own_all5 (P := fun z => own_WL Z h329.size ed (0 : Int32) h329 z ed) ⟨Q387, Q388, ⟨_, Q390⟩, Or.inl ⟨rfl, Q389⟩⟩ ⟨Q391, Q392, ⟨_, Q394⟩, Or.inl ⟨rfl, Q393⟩⟩ ⟨Q395, Q396, ⟨_, Q398⟩, Or.inl ⟨rfl, Q397⟩⟩ ⟨Q399, Q400, ⟨_, Q402⟩, Or.inl ⟨rfl, Q401⟩⟩ ⟨Q403, Q404, ⟨_, Q406⟩, Or.inl ⟨rfl, Q405⟩⟩, fun _ _ _ => Or.inl rfl⟩
  have KQ0 : Keep h329 h329 [b70, b129, b185, b236, b287] := Keep.refl _ _
  have J5 : ∀ (Tj : State) (Lj : List Loc) (Xj : Stand p l e ({ frames := 5, cells := 17, slots := 118, locals := 69 } : Room) s m #[(.ref a), (.ref ow), (.ref pa), (.ref la), (.ref ls), (.ref ly), (.int (1 : Int32))] below meth c Tj Lj 17 118) (hj : Heap) (ej : Tj.heap = hj) (Nj : Fr n0 Lj) (KQ : Keep h329 hj [b70, b129, b185, b236, b287]) (CHj : own_CH Z h329.size ed (4 : Int32) hj (own_c5 b70 b129 b185 b236 b287)), ownGo p.tables e below (Tj.setTop (mkF m 105 #[.val (.ref a), .val (.ref ow), .val (.ref pa), .val (.ref la), .val (.ref ls), .val (.ref ly), .val (.int (1 : Int32)), .val (.int (5 : Int32))] [])) (ownEnd below s (own_ctor_Q Z ed kd ca clc a ow pa la ls ly ko kp kl ky a2 a3 a4 o0 o1 h0 n0) ({ frames := 5, cells := 17, slots := 118, locals := 69 } : Room).cells ({ frames := 5, cells := 17, slots := 118, locals := 69 } : Room).slots) := by
    intro Tj Lj Xj hj ej Nj KQ CHj
    have KP412 : Keep h0 hj [a] := KP331.trans KQ (allS (Or.inr gh_b70) (allS (Or.inr gh_b129) (allS (Or.inr gh_b185) (allS (Or.inr gh_b236) (allS (Or.inr gh_b287) all0)))))
    have Q413 : Arv Z hj b48 k48 .int (5 : Int32) [(.int (1 : Int32)), (.int (1 : Int32)), (.int (1 : Int32)), (.int (1 : Int32)), (.int (1 : Int32))] (.int (0 : Int32)) := (Q411.keep KQ (ninS ne103 (ninS ne164 (ninS ne216 (ninS ne267 (ninS ne318 nin0))))))
    obtain ⟨cs_b48, sc_b48⟩ := own_scrOf Q413
    have Q414 : Arv Z hj b58 k58 .int (5 : Int32) [(.int (-1 : Int32)), (.int (-1 : Int32)), (.int (-1 : Int32)), (.int (-1 : Int32)), (.int (-1 : Int32))] (.int (0 : Int32)) := (V332.keep KQ (ninS ne114 (ninS ne173 (ninS ne225 (ninS ne276 (ninS ne327 nin0))))))
    obtain ⟨cs_b58, sc_b58⟩ := own_scrOf Q414
    refine ownStep (fun _ k => XS.iload Xj.here hx rfl (hb hby own_ctor_d105) rfl  k) ?_
    refine ownStep (fun _ k => XS.aloadN Xj.here hx rfl (hb hby own_ctor_d107) rfl rfl k) ?_
    show ownGo p.tables e below (Tj.setTop (mkF m 108 #[.val (.ref a), .val (.ref ow), .val (.ref pa), .val (.ref la), .val (.ref ls), .val (.ref ly), .val (.int (1 : Int32)), .val (.int (5 : Int32))] [(.ref pa), (.int (5 : Int32))])) _
    have Q416 : Arv Z hj pa kp .int (5 : Int32) [(.int (-1 : Int32)), (.int (0 : Int32)), (.int a2), (.int a3), (.int a4)] (.int (0 : Int32)) := (Q335.keep KQ (ninS ne123 (ninS ne180 (ninS ne232 (ninS ne283 (ninS ne334 nin0))))))
    have Vo415 := Q416
    obtain ⟨cl415, Ar415, q415, S415, N415, H415, G415⟩ := Vo415
    refine ownStep (Xj.arraylength hx (by rw [ej]; exact Ar415.1) (State.isArrayOf_alike hZ.alike Ar415.2.1) (g := (mkF m 108 #[.val (.ref a), .val (.ref ow), .val (.ref pa), .val (.ref la), .val (.ref ls), .val (.ref ly), .val (.int (1 : Int32)), .val (.int (5 : Int32))] [(.ref pa), (.int (5 : Int32))])) rfl rfl (hb hby own_ctor_d108)) ?_
    rw [len_of S415 N415]
    refine ownStep (fun _ k => XS.icmpYes Xj.here hx rfl (pc0 := 109) (pc' := 145) rfl (hb hby own_ctor_d109) rfl (flt (by decide : ¬ (5 : Int32) < (5 : Int32))).2.1 (by decide) (by decide) k) ?_
    refine ownStep (fun _ k => XS.iconst Xj.here hx rfl (hb hby own_ctor_d145) k) ?_
    refine ownStep (fun _ k => XS.istore Xj.here hx rfl (hb hby own_ctor_d146) rfl (l' := #[.val (.ref a), .val (.ref ow), .val (.ref pa), .val (.ref la), .val (.ref ls), .val (.ref ly), .val (.int (1 : Int32)), .val (.int (0 : Int32))]) rfl k) ?_
    refine ownStep (fun _ k => XS.iload Xj.here hx rfl (hb hby own_ctor_d148) rfl  k) ?_
    show ownGo p.tables e below (Tj.setTop (mkF m 150 #[.val (.ref a), .val (.ref ow), .val (.ref pa), .val (.ref la), .val (.ref ls), .val (.ref ly), .val (.int (1 : Int32)), .val (.int (0 : Int32))] [(.int (0 : Int32))])) _
    refine ownStep (fun _ k => XS.aloadN Xj.here hx rfl (hb hby own_ctor_d150) rfl rfl k) ?_
    show ownGo p.tables e below (Tj.setTop (mkF m 151 #[.val (.ref a), .val (.ref ow), .val (.ref pa), .val (.ref la), .val (.ref ls), .val (.ref ly), .val (.int (1 : Int32)), .val (.int (0 : Int32))] [(.ref ow), (.int (0 : Int32))])) _
    have Q418 : Arv Z hj ow ko .int (2 : Int32) [(.int o0), (.int o1)] (.int (0 : Int32)) := (Q368.keep KQ (ninS ne346 (ninS ne347 (ninS ne348 (ninS ne349 (ninS ne350 nin0))))))
    have Vo417 := Q418
    obtain ⟨cl417, Ar417, q417, S417, N417, H417, G417⟩ := Vo417
    refine ownStep (Xj.arraylength hx (by rw [ej]; exact Ar417.1) (State.isArrayOf_alike hZ.alike Ar417.2.1) (g := (mkF m 151 #[.val (.ref a), .val (.ref ow), .val (.ref pa), .val (.ref la), .val (.ref ls), .val (.ref ly), .val (.int (1 : Int32)), .val (.int (0 : Int32))] [(.ref ow), (.int (0 : Int32))])) rfl rfl (hb hby own_ctor_d151)) ?_
    rw [len_of S417 N417]
    refine ownStep (fun _ k => XS.icmpNo Xj.here hx rfl (hb hby own_ctor_d152) rfl (tlt (by decide : (0 : Int32) < (2 : Int32))).2.1 k) ?_
    refine ownStep (fun _ k => XS.aloadN Xj.here hx rfl (hb hby own_ctor_d155) rfl rfl k) ?_
    show ownGo p.tables e below (Tj.setTop (mkF m 156 #[.val (.ref a), .val (.ref ow), .val (.ref pa), .val (.ref la), .val (.ref ls), .val (.ref ly), .val (.int (1 : Int32)), .val (.int (0 : Int32))] [(.ref a)])) _
    have Q419 : Fld Z hj a "com/example/adept_layout/adeptlayout/layout/Nesting" "first" "[I" (.ref b48) := (Q385.keep KQ (ninS ne98 (ninS ne159 (ninS ne212 (ninS ne263 (ninS ne314 nin0))))))
    obtain ⟨T420, X420, e420, st420⟩ := getF Xj hx hZ hown (host := "") (Or.inl (hw _ (List.mem_of_getElem? (i := 46) rfl))) Via.refl ej Q419 (g := (mkF m 156 #[.val (.ref a), .val (.ref ow), .val (.ref pa), .val (.ref la), .val (.ref ls), .val (.ref ly), .val (.int (1 : Int32)), .val (.int (0 : Int32))] [(.ref a)])) rfl rfl (hb hby own_ctor_d156)
    refine ownStep st420 ?_
    refine ownStep (fun _ k => XS.aloadN X420.here hx rfl (hb hby own_ctor_d159) rfl rfl k) ?_
    refine ownStep (fun _ k => XS.iload X420.here hx rfl (hb hby own_ctor_d160) rfl  k) ?_
    show ownGo p.tables e below (T420.setTop (mkF m 162 #[.val (.ref a), .val (.ref ow), .val (.ref pa), .val (.ref la), .val (.ref ls), .val (.ref ly), .val (.int (1 : Int32)), .val (.int (0 : Int32))] [(.int (0 : Int32)), (.ref ow), (.ref b48)])) _
    have Vo421 := Q418
    obtain ⟨cl421, Ar421, q421, S421, N421, H421, G421⟩ := Vo421
    have hin421 : ¬ ((0 : Int32) < 0 ∨ cl421.slots.size ≤ ((0 : Int32)).toNatClampNeg) := inb_of S421 ⟨by decide, by decide⟩
    refine ownStep (X420.iaload hx (j := (0 : Int32)) (v := (.int o0)) (by rw [e420]; exact Ar421.1) (State.isArrayOf_alike hZ.alike Ar421.2.1) Ar421.2.2 hin421 (H421.at hin421 rfl) (g := (mkF m 162 #[.val (.ref a), .val (.ref ow), .val (.ref pa), .val (.ref la), .val (.ref ls), .val (.ref ly), .val (.int (1 : Int32)), .val (.int (0 : Int32))] [(.int (0 : Int32)), (.ref ow), (.ref b48)])) rfl rfl (hb hby own_ctor_d162)) ?_
    refine ownStep (fun _ k => XS.aloadN X420.here hx rfl (hb hby own_ctor_d163) rfl rfl k) ?_
    show ownGo p.tables e below (T420.setTop (mkF m 164 #[.val (.ref a), .val (.ref ow), .val (.ref pa), .val (.ref la), .val (.ref ls), .val (.ref ly), .val (.int (1 : Int32)), .val (.int (0 : Int32))] [(.ref a), (.int o0), (.ref b48)])) _
    obtain ⟨T422, X422, e422, st422⟩ := getF X420 hx hZ hown (host := "") (Or.inl (hw _ (List.mem_of_getElem? (i := 46) rfl))) Via.refl e420 Q419 (g := (mkF m 164 #[.val (.ref a), .val (.ref ow), .val (.ref pa), .val (.ref la), .val (.ref ls), .val (.ref ly), .val (.int (1 : Int32)), .val (.int (0 : Int32))] [(.ref a), (.int o0), (.ref b48)])) rfl rfl (hb hby own_ctor_d164)
    refine ownStep st422 ?_
    refine ownStep (fun _ k => XS.aloadN X422.here hx rfl (hb hby own_ctor_d167) rfl rfl k) ?_
    refine ownStep (fun _ k => XS.iload X422.here hx rfl (hb hby own_ctor_d168) rfl  k) ?_
    show ownGo p.tables e below (T422.setTop (mkF m 170 #[.val (.ref a), .val (.ref ow), .val (.ref pa), .val (.ref la), .val (.ref ls), .val (.ref ly), .val (.int (1 : Int32)), .val (.int (0 : Int32))] [(.int (0 : Int32)), (.ref ow), (.ref b48), (.int o0), (.ref b48)])) _
    have Vo423 := Q418
    obtain ⟨cl423, Ar423, q423, S423, N423, H423, G423⟩ := Vo423
    have hin423 : ¬ ((0 : Int32) < 0 ∨ cl423.slots.size ≤ ((0 : Int32)).toNatClampNeg) := inb_of S423 ⟨by decide, by decide⟩
    refine ownStep (X422.iaload hx (j := (0 : Int32)) (v := (.int o0)) (by rw [e422]; exact Ar423.1) (State.isArrayOf_alike hZ.alike Ar423.2.1) Ar423.2.2 hin423 (H423.at hin423 rfl) (g := (mkF m 170 #[.val (.ref a), .val (.ref ow), .val (.ref pa), .val (.ref la), .val (.ref ls), .val (.ref ly), .val (.int (1 : Int32)), .val (.int (0 : Int32))] [(.int (0 : Int32)), (.ref ow), (.ref b48), (.int o0), (.ref b48)])) rfl rfl (hb hby own_ctor_d170)) ?_
    show ownGo p.tables e below (T422.setTop (mkF m 171 #[.val (.ref a), .val (.ref ow), .val (.ref pa), .val (.ref la), .val (.ref ls), .val (.ref ly), .val (.int (1 : Int32)), .val (.int (0 : Int32))] [(.int o0), (.ref b48), (.int o0), (.ref b48)])) _
    have hin424 : ¬ (o0 < 0 ∨ cs_b48.slots.size ≤ (o0).toNatClampNeg) := inb_of sc_b48.2.1 ⟨c0l, c0h⟩
    refine ownStep (X422.iaload hx (j := o0) (v := (.int (atv cs_b48 o0))) (by rw [e422]; exact sc_b48.1.1) (State.isArrayOf_alike hZ.alike sc_b48.1.2.1) sc_b48.1.2.2 hin424 (sc_b48.2.2.2 _ hin424) (g := (mkF m 171 #[.val (.ref a), .val (.ref ow), .val (.ref pa), .val (.ref la), .val (.ref ls), .val (.ref ly), .val (.int (1 : Int32)), .val (.int (0 : Int32))] [(.int o0), (.ref b48), (.int o0), (.ref b48)])) rfl rfl (hb hby own_ctor_d171)) ?_
    refine ownStep (fun _ k => XS.aload X422.here hx rfl (hb hby own_ctor_d172) rfl rfl k) ?_
    refine ownStep (fun _ k => XS.iload X422.here hx rfl (hb hby own_ctor_d174) rfl  k) ?_
    show ownGo p.tables e below (T422.setTop (mkF m 176 #[.val (.ref a), .val (.ref ow), .val (.ref pa), .val (.ref la), .val (.ref ls), .val (.ref ly), .val (.int (1 : Int32)), .val (.int (0 : Int32))] [(.int (0 : Int32)), (.ref ly), (.int (atv cs_b48 o0)), (.int o0), (.ref b48)])) _
    have Q426 : Arv Z hj ly ky .int (2 : Int32) [(.int (0 : Int32)), (.int (0 : Int32))] (.int (0 : Int32)) := (Q378.keep KQ (ninS ne356 (ninS ne357 (ninS ne358 (ninS ne359 (ninS ne360 nin0))))))
    have Vo425 := Q426
    obtain ⟨cl425, Ar425, q425, S425, N425, H425, G425⟩ := Vo425
    have hin425 : ¬ ((0 : Int32) < 0 ∨ cl425.slots.size ≤ ((0 : Int32)).toNatClampNeg) := inb_of S425 ⟨by decide, by decide⟩
    refine ownStep (X422.iaload hx (j := (0 : Int32)) (v := (.int (0 : Int32))) (by rw [e422]; exact Ar425.1) (State.isArrayOf_alike hZ.alike Ar425.2.1) Ar425.2.2 hin425 (H425.at hin425 rfl) (g := (mkF m 176 #[.val (.ref a), .val (.ref ow), .val (.ref pa), .val (.ref la), .val (.ref ls), .val (.ref ly), .val (.int (1 : Int32)), .val (.int (0 : Int32))] [(.int (0 : Int32)), (.ref ly), (.int (atv cs_b48 o0)), (.int o0), (.ref b48)])) rfl rfl (hb hby own_ctor_d176)) ?_
    show ownGo p.tables e below (T422.setTop (mkF m 177 #[.val (.ref a), .val (.ref ow), .val (.ref pa), .val (.ref la), .val (.ref ls), .val (.ref ly), .val (.int (1 : Int32)), .val (.int (0 : Int32))] [(.int (0 : Int32)), (.int (atv cs_b48 o0)), (.int o0), (.ref b48)])) _
    have Zs428 : n0 ≤ hj.size := Nat.le_trans Z0 KP412.1
    obtain ⟨_, _, ⟨T427, L427, k427, n427⟩, -, X427, ⟨Lc427, hQ427, l427, y427, z427⟩, st427⟩ := Jvm.LawKit.callS X422 hx (y := (⟨"java/lang/Math", "min", "(II)I"⟩ : MethodName)) hown (mvT hZ (hw _ (List.mem_of_getElem? (i := 115) rfl))) (mvT hZ (hw _ (List.mem_of_getElem? (i := 116) rfl))) (mvT hZ (hw _ (List.mem_of_getElem? (i := 80) rfl))) (mvT hZ (hw _ (List.mem_of_getElem? (i := 117) rfl))) (by decide) (backOf (W := 2) (own_mmin l Z a0 hw [] (atv cs_b48 o0) (0 : Int32) hj n0 Zs428 ) hZ (hw _ (List.mem_of_getElem? (i := 117) rfl)) (hw _ (List.mem_of_getElem? (i := 80) rfl)) (by decide) (by decide)) (g := (mkF m 177 #[.val (.ref a), .val (.ref ow), .val (.ref pa), .val (.ref la), .val (.ref ls), .val (.ref ly), .val (.int (1 : Int32)), .val (.int (0 : Int32))] [(.int (0 : Int32)), (.int (atv cs_b48 o0)), (.int o0), (.ref b48)])) rfl (by rw [hml]; rfl) (argsL := [(.int (atv cs_b48 o0)), (.int (0 : Int32))]) (rest := [(.int o0), (.ref b48)]) (lenOf own_ctor_pd2 rfl) rfl (by show 2 * 0 + _ ≤ _; exact Nat.le_of_eq rfl) (hb hby own_ctor_d177) (fun _ _ => ⟨rfl, e422, (by decide : 17 + 0 ≤ _), (by decide : 118 + 0 ≤ _)⟩)
    dsimp only [Pt.U, Pt.locs, Pt.cells, Pt.slots] at X427 l427 y427 z427 st427 hQ427
    obtain rfl : k427 = 17 := y427
    obtain rfl : n427 = 118 := z427
    obtain ⟨r_427, rfl, N427q, R427⟩ := hQ427
    have N427 : Fr n0 L427 := l427 ▸ Fr.app Nj N427q
    refine ownStep (fun _ k => st427 _ k) ?_
    show ownGo p.tables e below (T427.setTop (mkF m 180 #[.val (.ref a), .val (.ref ow), .val (.ref pa), .val (.ref la), .val (.ref ls), .val (.ref ly), .val (.int (1 : Int32)), .val (.int (0 : Int32))] [(.int r_427), (.int o0), (.ref b48)])) _
    have hin429 : ¬ (o0 < 0 ∨ cs_b48.slots.size ≤ (o0).toNatClampNeg) := inb_of sc_b48.2.1 ⟨c0l, c0h⟩
    obtain ⟨T429, h429, X429, e429, W429, st429⟩ := stI X427 hx hZ R427 sc_b48.1 (j := o0) hin429 (g := (mkF m 180 #[.val (.ref a), .val (.ref ow), .val (.ref pa), .val (.ref la), .val (.ref ls), .val (.ref ly), .val (.int (1 : Int32)), .val (.int (0 : Int32))] [(.int r_427), (.int o0), (.ref b48)])) rfl rfl (hb hby own_ctor_d180)
    have N430 := Fr.snoc X429 N427 gn_b48
    have KP431 : Keep h0 h429 [a] := KP412.wr W429 (Or.inr gh_b48)
    obtain ⟨cs429, sc429⟩ := own_scrSet sc_b48 hin429 W429
    refine ownStep st429 ?_
    refine ownStep (fun _ k => XS.aloadN X429.here hx rfl (hb hby own_ctor_d181) rfl rfl k) ?_
    show ownGo p.tables e below (T429.setTop (mkF m 182 #[.val (.ref a), .val (.ref ow), .val (.ref pa), .val (.ref la), .val (.ref ls), .val (.ref ly), .val (.int (1 : Int32)), .val (.int (0 : Int32))] [(.ref a)])) _
    have Q432 : Fld Z h429 a "com/example/adept_layout/adeptlayout/layout/Nesting" "last" "[I" (.ref b58) := ((Q386.keep KQ (ninS ne98 (ninS ne159 (ninS ne212 (ninS ne263 (ninS ne314 nin0)))))).other W429 (Or.inl ne102))
    obtain ⟨T433, X433, e433, st433⟩ := getF X429 hx hZ hown (host := "") (Or.inl (hw _ (List.mem_of_getElem? (i := 48) rfl))) Via.refl e429 Q432 (g := (mkF m 182 #[.val (.ref a), .val (.ref ow), .val (.ref pa), .val (.ref la), .val (.ref ls), .val (.ref ly), .val (.int (1 : Int32)), .val (.int (0 : Int32))] [(.ref a)])) rfl rfl (hb hby own_ctor_d182)
    refine ownStep st433 ?_
    refine ownStep (fun _ k => XS.aloadN X433.here hx rfl (hb hby own_ctor_d185) rfl rfl k) ?_
    refine ownStep (fun _ k => XS.iload X433.here hx rfl (hb hby own_ctor_d186) rfl  k) ?_
    show ownGo p.tables e below (T433.setTop (mkF m 188 #[.val (.ref a), .val (.ref ow), .val (.ref pa), .val (.ref la), .val (.ref ls), .val (.ref ly), .val (.int (1 : Int32)), .val (.int (0 : Int32))] [(.int (0 : Int32)), (.ref ow), (.ref b58)])) _
    have Q435 : Arv Z h429 ow ko .int (2 : Int32) [(.int o0), (.int o1)] (.int (0 : Int32)) := (Q418.other W429 ne365)
    have Vo434 := Q435
    obtain ⟨cl434, Ar434, q434, S434, N434, H434, G434⟩ := Vo434
    have hin434 : ¬ ((0 : Int32) < 0 ∨ cl434.slots.size ≤ ((0 : Int32)).toNatClampNeg) := inb_of S434 ⟨by decide, by decide⟩
    refine ownStep (X433.iaload hx (j := (0 : Int32)) (v := (.int o0)) (by rw [e433]; exact Ar434.1) (State.isArrayOf_alike hZ.alike Ar434.2.1) Ar434.2.2 hin434 (H434.at hin434 rfl) (g := (mkF m 188 #[.val (.ref a), .val (.ref ow), .val (.ref pa), .val (.ref la), .val (.ref ls), .val (.ref ly), .val (.int (1 : Int32)), .val (.int (0 : Int32))] [(.int (0 : Int32)), (.ref ow), (.ref b58)])) rfl rfl (hb hby own_ctor_d188)) ?_
    refine ownStep (fun _ k => XS.aloadN X433.here hx rfl (hb hby own_ctor_d189) rfl rfl k) ?_
    show ownGo p.tables e below (T433.setTop (mkF m 190 #[.val (.ref a), .val (.ref ow), .val (.ref pa), .val (.ref la), .val (.ref ls), .val (.ref ly), .val (.int (1 : Int32)), .val (.int (0 : Int32))] [(.ref a), (.int o0), (.ref b58)])) _
    obtain ⟨T436, X436, e436, st436⟩ := getF X433 hx hZ hown (host := "") (Or.inl (hw _ (List.mem_of_getElem? (i := 48) rfl))) Via.refl e433 Q432 (g := (mkF m 190 #[.val (.ref a), .val (.ref ow), .val (.ref pa), .val (.ref la), .val (.ref ls), .val (.ref ly), .val (.int (1 : Int32)), .val (.int (0 : Int32))] [(.ref a), (.int o0), (.ref b58)])) rfl rfl (hb hby own_ctor_d190)
    refine ownStep st436 ?_
    refine ownStep (fun _ k => XS.aloadN X436.here hx rfl (hb hby own_ctor_d193) rfl rfl k) ?_
    refine ownStep (fun _ k => XS.iload X436.here hx rfl (hb hby own_ctor_d194) rfl  k) ?_
    show ownGo p.tables e below (T436.setTop (mkF m 196 #[.val (.ref a), .val (.ref ow), .val (.ref pa), .val (.ref la), .val (.ref ls), .val (.ref ly), .val (.int (1 : Int32)), .val (.int (0 : Int32))] [(.int (0 : Int32)), (.ref ow), (.ref b58), (.int o0), (.ref b58)])) _
    have Vo437 := Q435
    obtain ⟨cl437, Ar437, q437, S437, N437, H437, G437⟩ := Vo437
    have hin437 : ¬ ((0 : Int32) < 0 ∨ cl437.slots.size ≤ ((0 : Int32)).toNatClampNeg) := inb_of S437 ⟨by decide, by decide⟩
    refine ownStep (X436.iaload hx (j := (0 : Int32)) (v := (.int o0)) (by rw [e436]; exact Ar437.1) (State.isArrayOf_alike hZ.alike Ar437.2.1) Ar437.2.2 hin437 (H437.at hin437 rfl) (g := (mkF m 196 #[.val (.ref a), .val (.ref ow), .val (.ref pa), .val (.ref la), .val (.ref ls), .val (.ref ly), .val (.int (1 : Int32)), .val (.int (0 : Int32))] [(.int (0 : Int32)), (.ref ow), (.ref b58), (.int o0), (.ref b58)])) rfl rfl (hb hby own_ctor_d196)) ?_
    show ownGo p.tables e below (T436.setTop (mkF m 197 #[.val (.ref a), .val (.ref ow), .val (.ref pa), .val (.ref la), .val (.ref ls), .val (.ref ly), .val (.int (1 : Int32)), .val (.int (0 : Int32))] [(.int o0), (.ref b58), (.int o0), (.ref b58)])) _
    have Q438 : Scr Z h429 b58 cs_b58 (5 : Int32) := (sc_b58.other W429 (Ne.symm ne116))
    have hin439 : ¬ (o0 < 0 ∨ cs_b58.slots.size ≤ (o0).toNatClampNeg) := inb_of Q438.2.1 ⟨c0l, c0h⟩
    refine ownStep (X436.iaload hx (j := o0) (v := (.int (atv cs_b58 o0))) (by rw [e436]; exact Q438.1.1) (State.isArrayOf_alike hZ.alike Q438.1.2.1) Q438.1.2.2 hin439 (Q438.2.2.2 _ hin439) (g := (mkF m 197 #[.val (.ref a), .val (.ref ow), .val (.ref pa), .val (.ref la), .val (.ref ls), .val (.ref ly), .val (.int (1 : Int32)), .val (.int (0 : Int32))] [(.int o0), (.ref b58), (.int o0), (.ref b58)])) rfl rfl (hb hby own_ctor_d197)) ?_
    refine ownStep (fun _ k => XS.aload X436.here hx rfl (hb hby own_ctor_d198) rfl rfl k) ?_
    refine ownStep (fun _ k => XS.iload X436.here hx rfl (hb hby own_ctor_d200) rfl  k) ?_
    show ownGo p.tables e below (T436.setTop (mkF m 202 #[.val (.ref a), .val (.ref ow), .val (.ref pa), .val (.ref la), .val (.ref ls), .val (.ref ly), .val (.int (1 : Int32)), .val (.int (0 : Int32))] [(.int (0 : Int32)), (.ref ly), (.int (atv cs_b58 o0)), (.int o0), (.ref b58)])) _
    have Q441 : Arv Z h429 ly ky .int (2 : Int32) [(.int (0 : Int32)), (.int (0 : Int32))] (.int (0 : Int32)) := (Q426.other W429 ne375)
    have Vo440 := Q441
    obtain ⟨cl440, Ar440, q440, S440, N440, H440, G440⟩ := Vo440
    have hin440 : ¬ ((0 : Int32) < 0 ∨ cl440.slots.size ≤ ((0 : Int32)).toNatClampNeg) := inb_of S440 ⟨by decide, by decide⟩
    refine ownStep (X436.iaload hx (j := (0 : Int32)) (v := (.int (0 : Int32))) (by rw [e436]; exact Ar440.1) (State.isArrayOf_alike hZ.alike Ar440.2.1) Ar440.2.2 hin440 (H440.at hin440 rfl) (g := (mkF m 202 #[.val (.ref a), .val (.ref ow), .val (.ref pa), .val (.ref la), .val (.ref ls), .val (.ref ly), .val (.int (1 : Int32)), .val (.int (0 : Int32))] [(.int (0 : Int32)), (.ref ly), (.int (atv cs_b58 o0)), (.int o0), (.ref b58)])) rfl rfl (hb hby own_ctor_d202)) ?_
    show ownGo p.tables e below (T436.setTop (mkF m 203 #[.val (.ref a), .val (.ref ow), .val (.ref pa), .val (.ref la), .val (.ref ls), .val (.ref ly), .val (.int (1 : Int32)), .val (.int (0 : Int32))] [(.int (0 : Int32)), (.int (atv cs_b58 o0)), (.int o0), (.ref b58)])) _
    have Zs443 : n0 ≤ h429.size := Nat.le_trans Z0 KP431.1
    obtain ⟨_, _, ⟨T442, L442, k442, n442⟩, -, X442, ⟨Lc442, hQ442, l442, y442, z442⟩, st442⟩ := Jvm.LawKit.callS X436 hx (y := (⟨"java/lang/Math", "max", "(II)I"⟩ : MethodName)) hown (mvT hZ (hw _ (List.mem_of_getElem? (i := 118) rfl))) (mvT hZ (hw _ (List.mem_of_getElem? (i := 79) rfl))) (mvT hZ (hw _ (List.mem_of_getElem? (i := 80) rfl))) (mvT hZ (hw _ (List.mem_of_getElem? (i := 81) rfl))) (by decide) (backOf (W := 2) (own_mmax l Z a0 hw [] (atv cs_b58 o0) (0 : Int32) h429 n0 Zs443 ) hZ (hw _ (List.mem_of_getElem? (i := 81) rfl)) (hw _ (List.mem_of_getElem? (i := 80) rfl)) (by decide) (by decide)) (g := (mkF m 203 #[.val (.ref a), .val (.ref ow), .val (.ref pa), .val (.ref la), .val (.ref ls), .val (.ref ly), .val (.int (1 : Int32)), .val (.int (0 : Int32))] [(.int (0 : Int32)), (.int (atv cs_b58 o0)), (.int o0), (.ref b58)])) rfl (by rw [hml]; rfl) (argsL := [(.int (atv cs_b58 o0)), (.int (0 : Int32))]) (rest := [(.int o0), (.ref b58)]) (lenOf own_ctor_pd2 rfl) rfl (by show 2 * 0 + _ ≤ _; exact Nat.le_of_eq rfl) (hb hby own_ctor_d203) (fun _ _ => ⟨rfl, e436, (by decide : 17 + 0 ≤ _), (by decide : 118 + 0 ≤ _)⟩)
    dsimp only [Pt.U, Pt.locs, Pt.cells, Pt.slots] at X442 l442 y442 z442 st442 hQ442
    obtain rfl : k442 = 17 := y442
    obtain rfl : n442 = 118 := z442
    obtain ⟨r_442, rfl, N442q, R442⟩ := hQ442
    have N442 : Fr n0 L442 := l442 ▸ Fr.app N430 N442q
    refine ownStep (fun _ k => st442 _ k) ?_
    show ownGo p.tables e below (T442.setTop (mkF m 206 #[.val (.ref a), .val (.ref ow), .val (.ref pa), .val (.ref la), .val (.ref ls), .val (.ref ly), .val (.int (1 : Int32)), .val (.int (0 : Int32))] [(.int r_442), (.int o0), (.ref b58)])) _
    have hin444 : ¬ (o0 < 0 ∨ cs_b58.slots.size ≤ (o0).toNatClampNeg) := inb_of Q438.2.1 ⟨c0l, c0h⟩
    obtain ⟨T444, h444, X444, e444, W444, st444⟩ := stI X442 hx hZ R442 Q438.1 (j := o0) hin444 (g := (mkF m 206 #[.val (.ref a), .val (.ref ow), .val (.ref pa), .val (.ref la), .val (.ref ls), .val (.ref ly), .val (.int (1 : Int32)), .val (.int (0 : Int32))] [(.int r_442), (.int o0), (.ref b58)])) rfl rfl (hb hby own_ctor_d206)
    have N445 := Fr.snoc X444 N442 gn_b58
    have KP446 : Keep h0 h444 [a] := KP431.wr W444 (Or.inr gh_b58)
    obtain ⟨cs444, sc444⟩ := own_scrSet Q438 hin444 W444
    refine ownStep st444 ?_
    refine ownStep (fun _ k => XS.iinc X444.here hx rfl (hb hby own_ctor_d207) rfl (l' := #[.val (.ref a), .val (.ref ow), .val (.ref pa), .val (.ref la), .val (.ref ls), .val (.ref ly), .val (.int (1 : Int32)), .val (.int (1 : Int32))]) rfl k) ?_
    refine ownStep (fun _ k => XS.goto X444.here hx rfl (pc0 := 210) (pc' := 148) rfl (hb hby own_ctor_d210) (by decide) (by decide) k) ?_
    refine ownStep (fun _ k => XS.iload X444.here hx rfl (hb hby own_ctor_d148) rfl  k) ?_
    refine ownStep (fun _ k => XS.aloadN X444.here hx rfl (hb hby own_ctor_d150) rfl rfl k) ?_
    show ownGo p.tables e below (T444.setTop (mkF m 151 #[.val (.ref a), .val (.ref ow), .val (.ref pa), .val (.ref la), .val (.ref ls), .val (.ref ly), .val (.int (1 : Int32)), .val (.int (1 : Int32))] [(.ref ow), (.int (1 : Int32))])) _
    have Q448 : Arv Z h444 ow ko .int (2 : Int32) [(.int o0), (.int o1)] (.int (0 : Int32)) := (Q435.other W444 ne366)
    have Vo447 := Q448
    obtain ⟨cl447, Ar447, q447, S447, N447, H447, G447⟩ := Vo447
    refine ownStep (X444.arraylength hx (by rw [e444]; exact Ar447.1) (State.isArrayOf_alike hZ.alike Ar447.2.1) (g := (mkF m 151 #[.val (.ref a), .val (.ref ow), .val (.ref pa), .val (.ref la), .val (.ref ls), .val (.ref ly), .val (.int (1 : Int32)), .val (.int (1 : Int32))] [(.ref ow), (.int (1 : Int32))])) rfl rfl (hb hby own_ctor_d151)) ?_
    rw [len_of S447 N447]
    refine ownStep (fun _ k => XS.icmpNo X444.here hx rfl (hb hby own_ctor_d152) rfl (tlt (by decide : (1 : Int32) < (2 : Int32))).2.1 k) ?_
    refine ownStep (fun _ k => XS.aloadN X444.here hx rfl (hb hby own_ctor_d155) rfl rfl k) ?_
    show ownGo p.tables e below (T444.setTop (mkF m 156 #[.val (.ref a), .val (.ref ow), .val (.ref pa), .val (.ref la), .val (.ref ls), .val (.ref ly), .val (.int (1 : Int32)), .val (.int (1 : Int32))] [(.ref a)])) _
    have Q449 : Fld Z h444 a "com/example/adept_layout/adeptlayout/layout/Nesting" "first" "[I" (.ref b48) := ((Q419.other W429 (Or.inl ne102)).other W444 (Or.inl ne113))
    obtain ⟨T450, X450, e450, st450⟩ := getF X444 hx hZ hown (host := "") (Or.inl (hw _ (List.mem_of_getElem? (i := 46) rfl))) Via.refl e444 Q449 (g := (mkF m 156 #[.val (.ref a), .val (.ref ow), .val (.ref pa), .val (.ref la), .val (.ref ls), .val (.ref ly), .val (.int (1 : Int32)), .val (.int (1 : Int32))] [(.ref a)])) rfl rfl (hb hby own_ctor_d156)
    refine ownStep st450 ?_
    refine ownStep (fun _ k => XS.aloadN X450.here hx rfl (hb hby own_ctor_d159) rfl rfl k) ?_
    refine ownStep (fun _ k => XS.iload X450.here hx rfl (hb hby own_ctor_d160) rfl  k) ?_
    show ownGo p.tables e below (T450.setTop (mkF m 162 #[.val (.ref a), .val (.ref ow), .val (.ref pa), .val (.ref la), .val (.ref ls), .val (.ref ly), .val (.int (1 : Int32)), .val (.int (1 : Int32))] [(.int (1 : Int32)), (.ref ow), (.ref b48)])) _
    have Vo451 := Q448
    obtain ⟨cl451, Ar451, q451, S451, N451, H451, G451⟩ := Vo451
    have hin451 : ¬ ((1 : Int32) < 0 ∨ cl451.slots.size ≤ ((1 : Int32)).toNatClampNeg) := inb_of S451 ⟨by decide, by decide⟩
    refine ownStep (X450.iaload hx (j := (1 : Int32)) (v := (.int o1)) (by rw [e450]; exact Ar451.1) (State.isArrayOf_alike hZ.alike Ar451.2.1) Ar451.2.2 hin451 (H451.at hin451 rfl) (g := (mkF m 162 #[.val (.ref a), .val (.ref ow), .val (.ref pa), .val (.ref la), .val (.ref ls), .val (.ref ly), .val (.int (1 : Int32)), .val (.int (1 : Int32))] [(.int (1 : Int32)), (.ref ow), (.ref b48)])) rfl rfl (hb hby own_ctor_d162)) ?_
    refine ownStep (fun _ k => XS.aloadN X450.here hx rfl (hb hby own_ctor_d163) rfl rfl k) ?_
    show ownGo p.tables e below (T450.setTop (mkF m 164 #[.val (.ref a), .val (.ref ow), .val (.ref pa), .val (.ref la), .val (.ref ls), .val (.ref ly), .val (.int (1 : Int32)), .val (.int (1 : Int32))] [(.ref a), (.int o1), (.ref b48)])) _
    obtain ⟨T452, X452, e452, st452⟩ := getF X450 hx hZ hown (host := "") (Or.inl (hw _ (List.mem_of_getElem? (i := 46) rfl))) Via.refl e450 Q449 (g := (mkF m 164 #[.val (.ref a), .val (.ref ow), .val (.ref pa), .val (.ref la), .val (.ref ls), .val (.ref ly), .val (.int (1 : Int32)), .val (.int (1 : Int32))] [(.ref a), (.int o1), (.ref b48)])) rfl rfl (hb hby own_ctor_d164)
    refine ownStep st452 ?_
    refine ownStep (fun _ k => XS.aloadN X452.here hx rfl (hb hby own_ctor_d167) rfl rfl k) ?_
    refine ownStep (fun _ k => XS.iload X452.here hx rfl (hb hby own_ctor_d168) rfl  k) ?_
    show ownGo p.tables e below (T452.setTop (mkF m 170 #[.val (.ref a), .val (.ref ow), .val (.ref pa), .val (.ref la), .val (.ref ls), .val (.ref ly), .val (.int (1 : Int32)), .val (.int (1 : Int32))] [(.int (1 : Int32)), (.ref ow), (.ref b48), (.int o1), (.ref b48)])) _
    have Vo453 := Q448
    obtain ⟨cl453, Ar453, q453, S453, N453, H453, G453⟩ := Vo453
    have hin453 : ¬ ((1 : Int32) < 0 ∨ cl453.slots.size ≤ ((1 : Int32)).toNatClampNeg) := inb_of S453 ⟨by decide, by decide⟩
    refine ownStep (X452.iaload hx (j := (1 : Int32)) (v := (.int o1)) (by rw [e452]; exact Ar453.1) (State.isArrayOf_alike hZ.alike Ar453.2.1) Ar453.2.2 hin453 (H453.at hin453 rfl) (g := (mkF m 170 #[.val (.ref a), .val (.ref ow), .val (.ref pa), .val (.ref la), .val (.ref ls), .val (.ref ly), .val (.int (1 : Int32)), .val (.int (1 : Int32))] [(.int (1 : Int32)), (.ref ow), (.ref b48), (.int o1), (.ref b48)])) rfl rfl (hb hby own_ctor_d170)) ?_
    show ownGo p.tables e below (T452.setTop (mkF m 171 #[.val (.ref a), .val (.ref ow), .val (.ref pa), .val (.ref la), .val (.ref ls), .val (.ref ly), .val (.int (1 : Int32)), .val (.int (1 : Int32))] [(.int o1), (.ref b48), (.int o1), (.ref b48)])) _
    have Q454 : Scr Z h444 b48 cs429 (5 : Int32) := (sc429.other W444 ne116)
    have hin455 : ¬ (o1 < 0 ∨ cs429.slots.size ≤ (o1).toNatClampNeg) := inb_of Q454.2.1 ⟨c1l, c1h⟩
    refine ownStep (X452.iaload hx (j := o1) (v := (.int (atv cs429 o1))) (by rw [e452]; exact Q454.1.1) (State.isArrayOf_alike hZ.alike Q454.1.2.1) Q454.1.2.2 hin455 (Q454.2.2.2 _ hin455) (g := (mkF m 171 #[.val (.ref a), .val (.ref ow), .val (.ref pa), .val (.ref la), .val (.ref ls), .val (.ref ly), .val (.int (1 : Int32)), .val (.int (1 : Int32))] [(.int o1), (.ref b48), (.int o1), (.ref b48)])) rfl rfl (hb hby own_ctor_d171)) ?_
    refine ownStep (fun _ k => XS.aload X452.here hx rfl (hb hby own_ctor_d172) rfl rfl k) ?_
    refine ownStep (fun _ k => XS.iload X452.here hx rfl (hb hby own_ctor_d174) rfl  k) ?_
    show ownGo p.tables e below (T452.setTop (mkF m 176 #[.val (.ref a), .val (.ref ow), .val (.ref pa), .val (.ref la), .val (.ref ls), .val (.ref ly), .val (.int (1 : Int32)), .val (.int (1 : Int32))] [(.int (1 : Int32)), (.ref ly), (.int (atv cs429 o1)), (.int o1), (.ref b48)])) _
    have Q457 : Arv Z h444 ly ky .int (2 : Int32) [(.int (0 : Int32)), (.int (0 : Int32))] (.int (0 : Int32)) := (Q441.other W444 ne376)
    have Vo456 := Q457
    obtain ⟨cl456, Ar456, q456, S456, N456, H456, G456⟩ := Vo456
    have hin456 : ¬ ((1 : Int32) < 0 ∨ cl456.slots.size ≤ ((1 : Int32)).toNatClampNeg) := inb_of S456 ⟨by decide, by decide⟩
    refine ownStep (X452.iaload hx (j := (1 : Int32)) (v := (.int (0 : Int32))) (by rw [e452]; exact Ar456.1) (State.isArrayOf_alike hZ.alike Ar456.2.1) Ar456.2.2 hin456 (H456.at hin456 rfl) (g := (mkF m 176 #[.val (.ref a), .val (.ref ow), .val (.ref pa), .val (.ref la), .val (.ref ls), .val (.ref ly), .val (.int (1 : Int32)), .val (.int (1 : Int32))] [(.int (1 : Int32)), (.ref ly), (.int (atv cs429 o1)), (.int o1), (.ref b48)])) rfl rfl (hb hby own_ctor_d176)) ?_
    show ownGo p.tables e below (T452.setTop (mkF m 177 #[.val (.ref a), .val (.ref ow), .val (.ref pa), .val (.ref la), .val (.ref ls), .val (.ref ly), .val (.int (1 : Int32)), .val (.int (1 : Int32))] [(.int (0 : Int32)), (.int (atv cs429 o1)), (.int o1), (.ref b48)])) _
    have Zs459 : n0 ≤ h444.size := Nat.le_trans Z0 KP446.1
    obtain ⟨_, _, ⟨T458, L458, k458, n458⟩, -, X458, ⟨Lc458, hQ458, l458, y458, z458⟩, st458⟩ := Jvm.LawKit.callS X452 hx (y := (⟨"java/lang/Math", "min", "(II)I"⟩ : MethodName)) hown (mvT hZ (hw _ (List.mem_of_getElem? (i := 115) rfl))) (mvT hZ (hw _ (List.mem_of_getElem? (i := 116) rfl))) (mvT hZ (hw _ (List.mem_of_getElem? (i := 80) rfl))) (mvT hZ (hw _ (List.mem_of_getElem? (i := 117) rfl))) (by decide) (backOf (W := 2) (own_mmin l Z a0 hw [] (atv cs429 o1) (0 : Int32) h444 n0 Zs459 ) hZ (hw _ (List.mem_of_getElem? (i := 117) rfl)) (hw _ (List.mem_of_getElem? (i := 80) rfl)) (by decide) (by decide)) (g := (mkF m 177 #[.val (.ref a), .val (.ref ow), .val (.ref pa), .val (.ref la), .val (.ref ls), .val (.ref ly), .val (.int (1 : Int32)), .val (.int (1 : Int32))] [(.int (0 : Int32)), (.int (atv cs429 o1)), (.int o1), (.ref b48)])) rfl (by rw [hml]; rfl) (argsL := [(.int (atv cs429 o1)), (.int (0 : Int32))]) (rest := [(.int o1), (.ref b48)]) (lenOf own_ctor_pd2 rfl) rfl (by show 2 * 0 + _ ≤ _; exact Nat.le_of_eq rfl) (hb hby own_ctor_d177) (fun _ _ => ⟨rfl, e452, (by decide : 17 + 0 ≤ _), (by decide : 118 + 0 ≤ _)⟩)
    dsimp only [Pt.U, Pt.locs, Pt.cells, Pt.slots] at X458 l458 y458 z458 st458 hQ458
    obtain rfl : k458 = 17 := y458
    obtain rfl : n458 = 118 := z458
    obtain ⟨r_458, rfl, N458q, R458⟩ := hQ458
    have N458 : Fr n0 L458 := l458 ▸ Fr.app N445 N458q
    refine ownStep (fun _ k => st458 _ k) ?_
    show ownGo p.tables e below (T458.setTop (mkF m 180 #[.val (.ref a), .val (.ref ow), .val (.ref pa), .val (.ref la), .val (.ref ls), .val (.ref ly), .val (.int (1 : Int32)), .val (.int (1 : Int32))] [(.int r_458), (.int o1), (.ref b48)])) _
    have hin460 : ¬ (o1 < 0 ∨ cs429.slots.size ≤ (o1).toNatClampNeg) := inb_of Q454.2.1 ⟨c1l, c1h⟩
    obtain ⟨T460, h460, X460, e460, W460, st460⟩ := stI X458 hx hZ R458 Q454.1 (j := o1) hin460 (g := (mkF m 180 #[.val (.ref a), .val (.ref ow), .val (.ref pa), .val (.ref la), .val (.ref ls), .val (.ref ly), .val (.int (1 : Int32)), .val (.int (1 : Int32))] [(.int r_458), (.int o1), (.ref b48)])) rfl rfl (hb hby own_ctor_d180)
    have N461 := Fr.snoc X460 N458 gn_b48
    have KP462 : Keep h0 h460 [a] := KP446.wr W460 (Or.inr gh_b48)
    obtain ⟨cs460, sc460⟩ := own_scrSet Q454 hin460 W460
    refine ownStep st460 ?_
    refine ownStep (fun _ k => XS.aloadN X460.here hx rfl (hb hby own_ctor_d181) rfl rfl k) ?_
    show ownGo p.tables e below (T460.setTop (mkF m 182 #[.val (.ref a), .val (.ref ow), .val (.ref pa), .val (.ref la), .val (.ref ls), .val (.ref ly), .val (.int (1 : Int32)), .val (.int (1 : Int32))] [(.ref a)])) _
    have Q463 : Fld Z h460 a "com/example/adept_layout/adeptlayout/layout/Nesting" "last" "[I" (.ref b58) := ((Q432.other W444 (Or.inl ne113)).other W460 (Or.inl ne102))
    obtain ⟨T464, X464, e464, st464⟩ := getF X460 hx hZ hown (host := "") (Or.inl (hw _ (List.mem_of_getElem? (i := 48) rfl))) Via.refl e460 Q463 (g := (mkF m 182 #[.val (.ref a), .val (.ref ow), .val (.ref pa), .val (.ref la), .val (.ref ls), .val (.ref ly), .val (.int (1 : Int32)), .val (.int (1 : Int32))] [(.ref a)])) rfl rfl (hb hby own_ctor_d182)
    refine ownStep st464 ?_
    refine ownStep (fun _ k => XS.aloadN X464.here hx rfl (hb hby own_ctor_d185) rfl rfl k) ?_
    refine ownStep (fun _ k => XS.iload X464.here hx rfl (hb hby own_ctor_d186) rfl  k) ?_
    show ownGo p.tables e below (T464.setTop (mkF m 188 #[.val (.ref a), .val (.ref ow), .val (.ref pa), .val (.ref la), .val (.ref ls), .val (.ref ly), .val (.int (1 : Int32)), .val (.int (1 : Int32))] [(.int (1 : Int32)), (.ref ow), (.ref b58)])) _
    have Q466 : Arv Z h460 ow ko .int (2 : Int32) [(.int o0), (.int o1)] (.int (0 : Int32)) := (Q448.other W460 ne365)
    have Vo465 := Q466
    obtain ⟨cl465, Ar465, q465, S465, N465, H465, G465⟩ := Vo465
    have hin465 : ¬ ((1 : Int32) < 0 ∨ cl465.slots.size ≤ ((1 : Int32)).toNatClampNeg) := inb_of S465 ⟨by decide, by decide⟩
    refine ownStep (X464.iaload hx (j := (1 : Int32)) (v := (.int o1)) (by rw [e464]; exact Ar465.1) (State.isArrayOf_alike hZ.alike Ar465.2.1) Ar465.2.2 hin465 (H465.at hin465 rfl) (g := (mkF m 188 #[.val (.ref a), .val (.ref ow), .val (.ref pa), .val (.ref la), .val (.ref ls), .val (.ref ly), .val (.int (1 : Int32)), .val (.int (1 : Int32))] [(.int (1 : Int32)), (.ref ow), (.ref b58)])) rfl rfl (hb hby own_ctor_d188)) ?_
    refine ownStep (fun _ k => XS.aloadN X464.here hx rfl (hb hby own_ctor_d189) rfl rfl k) ?_
    show ownGo p.tables e below (T464.setTop (mkF m 190 #[.val (.ref a), .val (.ref ow), .val (.ref pa), .val (.ref la), .val (.ref ls), .val (.ref ly), .val (.int (1 : Int32)), .val (.int (1 : Int32))] [(.ref a), (.int o1), (.ref b58)])) _
    obtain ⟨T467, X467, e467, st467⟩ := getF X464 hx hZ hown (host := "") (Or.inl (hw _ (List.mem_of_getElem? (i := 48) rfl))) Via.refl e464 Q463 (g := (mkF m 190 #[.val (.ref a), .val (.ref ow), .val (.ref pa), .val (.ref la), .val (.ref ls), .val (.ref ly), .val (.int (1 : Int32)), .val (.int (1 : Int32))] [(.ref a), (.int o1), (.ref b58)])) rfl rfl (hb hby own_ctor_d190)
    refine ownStep st467 ?_
    refine ownStep (fun _ k => XS.aloadN X467.here hx rfl (hb hby own_ctor_d193) rfl rfl k) ?_
    refine ownStep (fun _ k => XS.iload X467.here hx rfl (hb hby own_ctor_d194) rfl  k) ?_
    show ownGo p.tables e below (T467.setTop (mkF m 196 #[.val (.ref a), .val (.ref ow), .val (.ref pa), .val (.ref la), .val (.ref ls), .val (.ref ly), .val (.int (1 : Int32)), .val (.int (1 : Int32))] [(.int (1 : Int32)), (.ref ow), (.ref b58), (.int o1), (.ref b58)])) _
    have Vo468 := Q466
    obtain ⟨cl468, Ar468, q468, S468, N468, H468, G468⟩ := Vo468
    have hin468 : ¬ ((1 : Int32) < 0 ∨ cl468.slots.size ≤ ((1 : Int32)).toNatClampNeg) := inb_of S468 ⟨by decide, by decide⟩
    refine ownStep (X467.iaload hx (j := (1 : Int32)) (v := (.int o1)) (by rw [e467]; exact Ar468.1) (State.isArrayOf_alike hZ.alike Ar468.2.1) Ar468.2.2 hin468 (H468.at hin468 rfl) (g := (mkF m 196 #[.val (.ref a), .val (.ref ow), .val (.ref pa), .val (.ref la), .val (.ref ls), .val (.ref ly), .val (.int (1 : Int32)), .val (.int (1 : Int32))] [(.int (1 : Int32)), (.ref ow), (.ref b58), (.int o1), (.ref b58)])) rfl rfl (hb hby own_ctor_d196)) ?_
    show ownGo p.tables e below (T467.setTop (mkF m 197 #[.val (.ref a), .val (.ref ow), .val (.ref pa), .val (.ref la), .val (.ref ls), .val (.ref ly), .val (.int (1 : Int32)), .val (.int (1 : Int32))] [(.int o1), (.ref b58), (.int o1), (.ref b58)])) _
    have Q469 : Scr Z h460 b58 cs444 (5 : Int32) := (sc444.other W460 (Ne.symm ne116))
    have hin470 : ¬ (o1 < 0 ∨ cs444.slots.size ≤ (o1).toNatClampNeg) := inb_of Q469.2.1 ⟨c1l, c1h⟩
    refine ownStep (X467.iaload hx (j := o1) (v := (.int (atv cs444 o1))) (by rw [e467]; exact Q469.1.1) (State.isArrayOf_alike hZ.alike Q469.1.2.1) Q469.1.2.2 hin470 (Q469.2.2.2 _ hin470) (g := (mkF m 197 #[.val (.ref a), .val (.ref ow), .val (.ref pa), .val (.ref la), .val (.ref ls), .val (.ref ly), .val (.int (1 : Int32)), .val (.int (1 : Int32))] [(.int o1), (.ref b58), (.int o1), (.ref b58)])) rfl rfl (hb hby own_ctor_d197)) ?_
    refine ownStep (fun _ k => XS.aload X467.here hx rfl (hb hby own_ctor_d198) rfl rfl k) ?_
    refine ownStep (fun _ k => XS.iload X467.here hx rfl (hb hby own_ctor_d200) rfl  k) ?_
    show ownGo p.tables e below (T467.setTop (mkF m 202 #[.val (.ref a), .val (.ref ow), .val (.ref pa), .val (.ref la), .val (.ref ls), .val (.ref ly), .val (.int (1 : Int32)), .val (.int (1 : Int32))] [(.int (1 : Int32)), (.ref ly), (.int (atv cs444 o1)), (.int o1), (.ref b58)])) _
    have Q472 : Arv Z h460 ly ky .int (2 : Int32) [(.int (0 : Int32)), (.int (0 : Int32))] (.int (0 : Int32)) := (Q457.other W460 ne375)
    have Vo471 := Q472
    obtain ⟨cl471, Ar471, q471, S471, N471, H471, G471⟩ := Vo471
    have hin471 : ¬ ((1 : Int32) < 0 ∨ cl471.slots.size ≤ ((1 : Int32)).toNatClampNeg) := inb_of S471 ⟨by decide, by decide⟩
    refine ownStep (X467.iaload hx (j := (1 : Int32)) (v := (.int (0 : Int32))) (by rw [e467]; exact Ar471.1) (State.isArrayOf_alike hZ.alike Ar471.2.1) Ar471.2.2 hin471 (H471.at hin471 rfl) (g := (mkF m 202 #[.val (.ref a), .val (.ref ow), .val (.ref pa), .val (.ref la), .val (.ref ls), .val (.ref ly), .val (.int (1 : Int32)), .val (.int (1 : Int32))] [(.int (1 : Int32)), (.ref ly), (.int (atv cs444 o1)), (.int o1), (.ref b58)])) rfl rfl (hb hby own_ctor_d202)) ?_
    show ownGo p.tables e below (T467.setTop (mkF m 203 #[.val (.ref a), .val (.ref ow), .val (.ref pa), .val (.ref la), .val (.ref ls), .val (.ref ly), .val (.int (1 : Int32)), .val (.int (1 : Int32))] [(.int (0 : Int32)), (.int (atv cs444 o1)), (.int o1), (.ref b58)])) _
    have Zs474 : n0 ≤ h460.size := Nat.le_trans Z0 KP462.1
    obtain ⟨_, _, ⟨T473, L473, k473, n473⟩, -, X473, ⟨Lc473, hQ473, l473, y473, z473⟩, st473⟩ := Jvm.LawKit.callS X467 hx (y := (⟨"java/lang/Math", "max", "(II)I"⟩ : MethodName)) hown (mvT hZ (hw _ (List.mem_of_getElem? (i := 118) rfl))) (mvT hZ (hw _ (List.mem_of_getElem? (i := 79) rfl))) (mvT hZ (hw _ (List.mem_of_getElem? (i := 80) rfl))) (mvT hZ (hw _ (List.mem_of_getElem? (i := 81) rfl))) (by decide) (backOf (W := 2) (own_mmax l Z a0 hw [] (atv cs444 o1) (0 : Int32) h460 n0 Zs474 ) hZ (hw _ (List.mem_of_getElem? (i := 81) rfl)) (hw _ (List.mem_of_getElem? (i := 80) rfl)) (by decide) (by decide)) (g := (mkF m 203 #[.val (.ref a), .val (.ref ow), .val (.ref pa), .val (.ref la), .val (.ref ls), .val (.ref ly), .val (.int (1 : Int32)), .val (.int (1 : Int32))] [(.int (0 : Int32)), (.int (atv cs444 o1)), (.int o1), (.ref b58)])) rfl (by rw [hml]; rfl) (argsL := [(.int (atv cs444 o1)), (.int (0 : Int32))]) (rest := [(.int o1), (.ref b58)]) (lenOf own_ctor_pd2 rfl) rfl (by show 2 * 0 + _ ≤ _; exact Nat.le_of_eq rfl) (hb hby own_ctor_d203) (fun _ _ => ⟨rfl, e467, (by decide : 17 + 0 ≤ _), (by decide : 118 + 0 ≤ _)⟩)
    dsimp only [Pt.U, Pt.locs, Pt.cells, Pt.slots] at X473 l473 y473 z473 st473 hQ473
    obtain rfl : k473 = 17 := y473
    obtain rfl : n473 = 118 := z473
    obtain ⟨r_473, rfl, N473q, R473⟩ := hQ473
    have N473 : Fr n0 L473 := l473 ▸ Fr.app N461 N473q
    refine ownStep (fun _ k => st473 _ k) ?_
    show ownGo p.tables e below (T473.setTop (mkF m 206 #[.val (.ref a), .val (.ref ow), .val (.ref pa), .val (.ref la), .val (.ref ls), .val (.ref ly), .val (.int (1 : Int32)), .val (.int (1 : Int32))] [(.int r_473), (.int o1), (.ref b58)])) _
    have hin475 : ¬ (o1 < 0 ∨ cs444.slots.size ≤ (o1).toNatClampNeg) := inb_of Q469.2.1 ⟨c1l, c1h⟩
    obtain ⟨T475, h475, X475, e475, W475, st475⟩ := stI X473 hx hZ R473 Q469.1 (j := o1) hin475 (g := (mkF m 206 #[.val (.ref a), .val (.ref ow), .val (.ref pa), .val (.ref la), .val (.ref ls), .val (.ref ly), .val (.int (1 : Int32)), .val (.int (1 : Int32))] [(.int r_473), (.int o1), (.ref b58)])) rfl rfl (hb hby own_ctor_d206)
    have N476 := Fr.snoc X475 N473 gn_b58
    have KP477 : Keep h0 h475 [a] := KP462.wr W475 (Or.inr gh_b58)
    obtain ⟨cs475, sc475⟩ := own_scrSet Q469 hin475 W475
    refine ownStep st475 ?_
    refine ownStep (fun _ k => XS.iinc X475.here hx rfl (hb hby own_ctor_d207) rfl (l' := #[.val (.ref a), .val (.ref ow), .val (.ref pa), .val (.ref la), .val (.ref ls), .val (.ref ly), .val (.int (1 : Int32)), .val (.int (2 : Int32))]) rfl k) ?_
    refine ownStep (fun _ k => XS.goto X475.here hx rfl (pc0 := 210) (pc' := 148) rfl (hb hby own_ctor_d210) (by decide) (by decide) k) ?_
    refine ownStep (fun _ k => XS.iload X475.here hx rfl (hb hby own_ctor_d148) rfl  k) ?_
    refine ownStep (fun _ k => XS.aloadN X475.here hx rfl (hb hby own_ctor_d150) rfl rfl k) ?_
    show ownGo p.tables e below (T475.setTop (mkF m 151 #[.val (.ref a), .val (.ref ow), .val (.ref pa), .val (.ref la), .val (.ref ls), .val (.ref ly), .val (.int (1 : Int32)), .val (.int (2 : Int32))] [(.ref ow), (.int (2 : Int32))])) _
    have Q479 : Arv Z h475 ow ko .int (2 : Int32) [(.int o0), (.int o1)] (.int (0 : Int32)) := (Q466.other W475 ne366)
    have Vo478 := Q479
    obtain ⟨cl478, Ar478, q478, S478, N478, H478, G478⟩ := Vo478
    refine ownStep (X475.arraylength hx (by rw [e475]; exact Ar478.1) (State.isArrayOf_alike hZ.alike Ar478.2.1) (g := (mkF m 151 #[.val (.ref a), .val (.ref ow), .val (.ref pa), .val (.ref la), .val (.ref ls), .val (.ref ly), .val (.int (1 : Int32)), .val (.int (2 : Int32))] [(.ref ow), (.int (2 : Int32))])) rfl rfl (hb hby own_ctor_d151)) ?_
    rw [len_of S478 N478]
    refine ownStep (fun _ k => XS.icmpYes X475.here hx rfl (pc0 := 152) (pc' := 213) rfl (hb hby own_ctor_d152) rfl (flt (by decide : ¬ (2 : Int32) < (2 : Int32))).2.1 (by decide) (by decide) k) ?_
    refine ownStep (fun _ k => XS.aloadN X475.here hx rfl (hb hby own_ctor_d213) rfl rfl k) ?_
    show ownGo p.tables e below (T475.setTop (mkF m 214 #[.val (.ref a), .val (.ref ow), .val (.ref pa), .val (.ref la), .val (.ref ls), .val (.ref ly), .val (.int (1 : Int32)), .val (.int (2 : Int32))] [(.ref pa)])) _
    have Q481 : Arv Z h475 pa kp .int (5 : Int32) [(.int (-1 : Int32)), (.int (0 : Int32)), (.int a2), (.int a3), (.int a4)] (.int (0 : Int32)) := ((((Q416.other W429 ne124).other W444 ne125).other W460 ne124).other W475 ne125)
    have Vo480 := Q481
    obtain ⟨cl480, Ar480, q480, S480, N480, H480, G480⟩ := Vo480
    refine ownStep (X475.arraylength hx (by rw [e475]; exact Ar480.1) (State.isArrayOf_alike hZ.alike Ar480.2.1) (g := (mkF m 214 #[.val (.ref a), .val (.ref ow), .val (.ref pa), .val (.ref la), .val (.ref ls), .val (.ref ly), .val (.int (1 : Int32)), .val (.int (2 : Int32))] [(.ref pa)])) rfl rfl (hb hby own_ctor_d214)) ?_
    rw [len_of S480 N480]
    refine ownStep (fun _ k => XS.iconst X475.here hx rfl (hb hby own_ctor_d215) k) ?_
    refine ownStep (fun _ k => XS.isub X475.here hx rfl (hb hby own_ctor_d216) rfl k) ?_
    refine ownStep (fun _ k => XS.istore X475.here hx rfl (hb hby own_ctor_d217) rfl (l' := #[.val (.ref a), .val (.ref ow), .val (.ref pa), .val (.ref la), .val (.ref ls), .val (.ref ly), .val (.int (1 : Int32)), .val (.int (4 : Int32))]) rfl k) ?_
    refine ownStep (fun _ k => XS.iload X475.here hx rfl (hb hby own_ctor_d219) rfl  k) ?_
    show ownGo p.tables e below (T475.setTop (mkF m 221 #[.val (.ref a), .val (.ref ow), .val (.ref pa), .val (.ref la), .val (.ref ls), .val (.ref ly), .val (.int (1 : Int32)), .val (.int (4 : Int32))] [(.int (4 : Int32))])) _
    refine ownStep (fun _ k => XS.ifNo X475.here hx rfl (hb hby own_ctor_d221) rfl ((if0 _ _).trans (tlt (by decide : (0 : Int32) < (4 : Int32))).2.2.2) k) ?_
    refine ownStep (fun _ k => XS.aloadN X475.here hx rfl (hb hby own_ctor_d224) rfl rfl k) ?_
    show ownGo p.tables e below (T475.setTop (mkF m 225 #[.val (.ref a), .val (.ref ow), .val (.ref pa), .val (.ref la), .val (.ref ls), .val (.ref ly), .val (.int (1 : Int32)), .val (.int (4 : Int32))] [(.ref a)])) _
    have Q482 : Fld Z h475 a "com/example/adept_layout/adeptlayout/layout/Nesting" "first" "[I" (.ref b48) := ((Q449.other W460 (Or.inl ne102)).other W475 (Or.inl ne113))
    obtain ⟨T483, X483, e483, st483⟩ := getF X475 hx hZ hown (host := "") (Or.inl (hw _ (List.mem_of_getElem? (i := 46) rfl))) Via.refl e475 Q482 (g := (mkF m 225 #[.val (.ref a), .val (.ref ow), .val (.ref pa), .val (.ref la), .val (.ref ls), .val (.ref ly), .val (.int (1 : Int32)), .val (.int (4 : Int32))] [(.ref a)])) rfl rfl (hb hby own_ctor_d225)
    refine ownStep st483 ?_
    refine ownStep (fun _ k => XS.aloadN X483.here hx rfl (hb hby own_ctor_d228) rfl rfl k) ?_
    refine ownStep (fun _ k => XS.iload X483.here hx rfl (hb hby own_ctor_d229) rfl  k) ?_
    show ownGo p.tables e below (T483.setTop (mkF m 231 #[.val (.ref a), .val (.ref ow), .val (.ref pa), .val (.ref la), .val (.ref ls), .val (.ref ly), .val (.int (1 : Int32)), .val (.int (4 : Int32))] [(.int (4 : Int32)), (.ref pa), (.ref b48)])) _
    have Vo484 := Q481
    obtain ⟨cl484, Ar484, q484, S484, N484, H484, G484⟩ := Vo484
    have hin484 : ¬ ((4 : Int32) < 0 ∨ cl484.slots.size ≤ ((4 : Int32)).toNatClampNeg) := inb_of S484 ⟨by decide, by decide⟩
    refine ownStep (X483.iaload hx (j := (4 : Int32)) (v := (.int a4)) (by rw [e483]; exact Ar484.1) (State.isArrayOf_alike hZ.alike Ar484.2.1) Ar484.2.2 hin484 (H484.at hin484 rfl) (g := (mkF m 231 #[.val (.ref a), .val (.ref ow), .val (.ref pa), .val (.ref la), .val (.ref ls), .val (.ref ly), .val (.int (1 : Int32)), .val (.int (4 : Int32))] [(.int (4 : Int32)), (.ref pa), (.ref b48)])) rfl rfl (hb hby own_ctor_d231)) ?_
    refine ownStep (fun _ k => XS.aloadN X483.here hx rfl (hb hby own_ctor_d232) rfl rfl k) ?_
    show ownGo p.tables e below (T483.setTop (mkF m 233 #[.val (.ref a), .val (.ref ow), .val (.ref pa), .val (.ref la), .val (.ref ls), .val (.ref ly), .val (.int (1 : Int32)), .val (.int (4 : Int32))] [(.ref a), (.int a4), (.ref b48)])) _
    obtain ⟨T485, X485, e485, st485⟩ := getF X483 hx hZ hown (host := "") (Or.inl (hw _ (List.mem_of_getElem? (i := 46) rfl))) Via.refl e483 Q482 (g := (mkF m 233 #[.val (.ref a), .val (.ref ow), .val (.ref pa), .val (.ref la), .val (.ref ls), .val (.ref ly), .val (.int (1 : Int32)), .val (.int (4 : Int32))] [(.ref a), (.int a4), (.ref b48)])) rfl rfl (hb hby own_ctor_d233)
    refine ownStep st485 ?_
    refine ownStep (fun _ k => XS.aloadN X485.here hx rfl (hb hby own_ctor_d236) rfl rfl k) ?_
    refine ownStep (fun _ k => XS.iload X485.here hx rfl (hb hby own_ctor_d237) rfl  k) ?_
    show ownGo p.tables e below (T485.setTop (mkF m 239 #[.val (.ref a), .val (.ref ow), .val (.ref pa), .val (.ref la), .val (.ref ls), .val (.ref ly), .val (.int (1 : Int32)), .val (.int (4 : Int32))] [(.int (4 : Int32)), (.ref pa), (.ref b48), (.int a4), (.ref b48)])) _
    have Vo486 := Q481
    obtain ⟨cl486, Ar486, q486, S486, N486, H486, G486⟩ := Vo486
    have hin486 : ¬ ((4 : Int32) < 0 ∨ cl486.slots.size ≤ ((4 : Int32)).toNatClampNeg) := inb_of S486 ⟨by decide, by decide⟩
    refine ownStep (X485.iaload hx (j := (4 : Int32)) (v := (.int a4)) (by rw [e485]; exact Ar486.1) (State.isArrayOf_alike hZ.alike Ar486.2.1) Ar486.2.2 hin486 (H486.at hin486 rfl) (g := (mkF m 239 #[.val (.ref a), .val (.ref ow), .val (.ref pa), .val (.ref la), .val (.ref ls), .val (.ref ly), .val (.int (1 : Int32)), .val (.int (4 : Int32))] [(.int (4 : Int32)), (.ref pa), (.ref b48), (.int a4), (.ref b48)])) rfl rfl (hb hby own_ctor_d239)) ?_
    show ownGo p.tables e below (T485.setTop (mkF m 240 #[.val (.ref a), .val (.ref ow), .val (.ref pa), .val (.ref la), .val (.ref ls), .val (.ref ly), .val (.int (1 : Int32)), .val (.int (4 : Int32))] [(.int a4), (.ref b48), (.int a4), (.ref b48)])) _
    have Q487 : Scr Z h475 b48 cs460 (5 : Int32) := (sc460.other W475 ne116)
    have hin488 : ¬ (a4 < 0 ∨ cs460.slots.size ≤ (a4).toNatClampNeg) := inb_of Q487.2.1 ⟨(own_b4 ra4).1, (own_b4 ra4).2⟩
    refine ownStep (X485.iaload hx (j := a4) (v := (.int (atv cs460 a4))) (by rw [e485]; exact Q487.1.1) (State.isArrayOf_alike hZ.alike Q487.1.2.1) Q487.1.2.2 hin488 (Q487.2.2.2 _ hin488) (g := (mkF m 240 #[.val (.ref a), .val (.ref ow), .val (.ref pa), .val (.ref la), .val (.ref ls), .val (.ref ly), .val (.int (1 : Int32)), .val (.int (4 : Int32))] [(.int a4), (.ref b48), (.int a4), (.ref b48)])) rfl rfl (hb hby own_ctor_d240)) ?_
    refine ownStep (fun _ k => XS.aloadN X485.here hx rfl (hb hby own_ctor_d241) rfl rfl k) ?_
    show ownGo p.tables e below (T485.setTop (mkF m 242 #[.val (.ref a), .val (.ref ow), .val (.ref pa), .val (.ref la), .val (.ref ls), .val (.ref ly), .val (.int (1 : Int32)), .val (.int (4 : Int32))] [(.ref a), (.int (atv cs460 a4)), (.int a4), (.ref b48)])) _
    obtain ⟨T489, X489, e489, st489⟩ := getF X485 hx hZ hown (host := "") (Or.inl (hw _ (List.mem_of_getElem? (i := 46) rfl))) Via.refl e485 Q482 (g := (mkF m 242 #[.val (.ref a), .val (.ref ow), .val (.ref pa), .val (.ref la), .val (.ref ls), .val (.ref ly), .val (.int (1 : Int32)), .val (.int (4 : Int32))] [(.ref a), (.int (atv cs460 a4)), (.int a4), (.ref b48)])) rfl rfl (hb hby own_ctor_d242)
    refine ownStep st489 ?_
    refine ownStep (fun _ k => XS.iload X489.here hx rfl (hb hby own_ctor_d245) rfl  k) ?_
    show ownGo p.tables e below (T489.setTop (mkF m 247 #[.val (.ref a), .val (.ref ow), .val (.ref pa), .val (.ref la), .val (.ref ls), .val (.ref ly), .val (.int (1 : Int32)), .val (.int (4 : Int32))] [(.int (4 : Int32)), (.ref b48), (.int (atv cs460 a4)), (.int a4), (.ref b48)])) _
    have hin490 : ¬ ((4 : Int32) < 0 ∨ cs460.slots.size ≤ ((4 : Int32)).toNatClampNeg) := inb_of Q487.2.1 ⟨(by decide), (by decide)⟩
    refine ownStep (X489.iaload hx (j := (4 : Int32)) (v := (.int (atv cs460 (4 : Int32)))) (by rw [e489]; exact Q487.1.1) (State.isArrayOf_alike hZ.alike Q487.1.2.1) Q487.1.2.2 hin490 (Q487.2.2.2 _ hin490) (g := (mkF m 247 #[.val (.ref a), .val (.ref ow), .val (.ref pa), .val (.ref la), .val (.ref ls), .val (.ref ly), .val (.int (1 : Int32)), .val (.int (4 : Int32))] [(.int (4 : Int32)), (.ref b48), (.int (atv cs460 a4)), (.int a4), (.ref b48)])) rfl rfl (hb hby own_ctor_d247)) ?_
    show ownGo p.tables e below (T489.setTop (mkF m 248 #[.val (.ref a), .val (.ref ow), .val (.ref pa), .val (.ref la), .val (.ref ls), .val (.ref ly), .val (.int (1 : Int32)), .val (.int (4 : Int32))] [(.int (atv cs460 (4 : Int32))), (.int (atv cs460 a4)), (.int a4), (.ref b48)])) _
    have Zs492 : n0 ≤ h475.size := Nat.le_trans Z0 KP477.1
    obtain ⟨_, _, ⟨T491, L491, k491, n491⟩, -, X491, ⟨Lc491, hQ491, l491, y491, z491⟩, st491⟩ := Jvm.LawKit.callS X489 hx (y := (⟨"java/lang/Math", "min", "(II)I"⟩ : MethodName)) hown (mvT hZ (hw _ (List.mem_of_getElem? (i := 115) rfl))) (mvT hZ (hw _ (List.mem_of_getElem? (i := 116) rfl))) (mvT hZ (hw _ (List.mem_of_getElem? (i := 80) rfl))) (mvT hZ (hw _ (List.mem_of_getElem? (i := 117) rfl))) (by decide) (backOf (W := 2) (own_mmin l Z a0 hw [] (atv cs460 a4) (atv cs460 (4 : Int32)) h475 n0 Zs492 ) hZ (hw _ (List.mem_of_getElem? (i := 117) rfl)) (hw _ (List.mem_of_getElem? (i := 80) rfl)) (by decide) (by decide)) (g := (mkF m 248 #[.val (.ref a), .val (.ref ow), .val (.ref pa), .val (.ref la), .val (.ref ls), .val (.ref ly), .val (.int (1 : Int32)), .val (.int (4 : Int32))] [(.int (atv cs460 (4 : Int32))), (.int (atv cs460 a4)), (.int a4), (.ref b48)])) rfl (by rw [hml]; rfl) (argsL := [(.int (atv cs460 a4)), (.int (atv cs460 (4 : Int32)))]) (rest := [(.int a4), (.ref b48)]) (lenOf own_ctor_pd2 rfl) rfl (by show 2 * 0 + _ ≤ _; exact Nat.le_of_eq rfl) (hb hby own_ctor_d248) (fun _ _ => ⟨rfl, e489, (by decide : 17 + 0 ≤ _), (by decide : 118 + 0 ≤ _)⟩)
    dsimp only [Pt.U, Pt.locs, Pt.cells, Pt.slots] at X491 l491 y491 z491 st491 hQ491
    obtain rfl : k491 = 17 := y491
    obtain rfl : n491 = 118 := z491
    obtain ⟨r_491, rfl, N491q, R491⟩ := hQ491
    have N491 : Fr n0 L491 := l491 ▸ Fr.app N476 N491q
    refine ownStep (fun _ k => st491 _ k) ?_
    show ownGo p.tables e below (T491.setTop (mkF m 251 #[.val (.ref a), .val (.ref ow), .val (.ref pa), .val (.ref la), .val (.ref ls), .val (.ref ly), .val (.int (1 : Int32)), .val (.int (4 : Int32))] [(.int r_491), (.int a4), (.ref b48)])) _
    have hin493 : ¬ (a4 < 0 ∨ cs460.slots.size ≤ (a4).toNatClampNeg) := inb_of Q487.2.1 ⟨(own_b4 ra4).1, (own_b4 ra4).2⟩
    obtain ⟨T493, h493, X493, e493, W493, st493⟩ := stI X491 hx hZ R491 Q487.1 (j := a4) hin493 (g := (mkF m 251 #[.val (.ref a), .val (.ref ow), .val (.ref pa), .val (.ref la), .val (.ref ls), .val (.ref ly), .val (.int (1 : Int32)), .val (.int (4 : Int32))] [(.int r_491), (.int a4), (.ref b48)])) rfl rfl (hb hby own_ctor_d251)
    have N494 := Fr.snoc X493 N491 gn_b48
    have KP495 : Keep h0 h493 [a] := KP477.wr W493 (Or.inr gh_b48)
    obtain ⟨cs493, sc493⟩ := own_scrSet Q487 hin493 W493
    refine ownStep st493 ?_
    refine ownStep (fun _ k => XS.aloadN X493.here hx rfl (hb hby own_ctor_d252) rfl rfl k) ?_
    show ownGo p.tables e below (T493.setTop (mkF m 253 #[.val (.ref a), .val (.ref ow), .val (.ref pa), .val (.ref la), .val (.ref ls), .val (.ref ly), .val (.int (1 : Int32)), .val (.int (4 : Int32))] [(.ref a)])) _
    have Q496 : Fld Z h493 a "com/example/adept_layout/adeptlayout/layout/Nesting" "last" "[I" (.ref b58) := ((Q463.other W475 (Or.inl ne113)).other W493 (Or.inl ne102))
    obtain ⟨T497, X497, e497, st497⟩ := getF X493 hx hZ hown (host := "") (Or.inl (hw _ (List.mem_of_getElem? (i := 48) rfl))) Via.refl e493 Q496 (g := (mkF m 253 #[.val (.ref a), .val (.ref ow), .val (.ref pa), .val (.ref la), .val (.ref ls), .val (.ref ly), .val (.int (1 : Int32)), .val (.int (4 : Int32))] [(.ref a)])) rfl rfl (hb hby own_ctor_d253)
    refine ownStep st497 ?_
    refine ownStep (fun _ k => XS.aloadN X497.here hx rfl (hb hby own_ctor_d256) rfl rfl k) ?_
    refine ownStep (fun _ k => XS.iload X497.here hx rfl (hb hby own_ctor_d257) rfl  k) ?_
    show ownGo p.tables e below (T497.setTop (mkF m 259 #[.val (.ref a), .val (.ref ow), .val (.ref pa), .val (.ref la), .val (.ref ls), .val (.ref ly), .val (.int (1 : Int32)), .val (.int (4 : Int32))] [(.int (4 : Int32)), (.ref pa), (.ref b58)])) _
    have Q499 : Arv Z h493 pa kp .int (5 : Int32) [(.int (-1 : Int32)), (.int (0 : Int32)), (.int a2), (.int a3), (.int a4)] (.int (0 : Int32)) := (Q481.other W493 ne124)
    have Vo498 := Q499
    obtain ⟨cl498, Ar498, q498, S498, N498, H498, G498⟩ := Vo498
    have hin498 : ¬ ((4 : Int32) < 0 ∨ cl498.slots.size ≤ ((4 : Int32)).toNatClampNeg) := inb_of S498 ⟨by decide, by decide⟩
    refine ownStep (X497.iaload hx (j := (4 : Int32)) (v := (.int a4)) (by rw [e497]; exact Ar498.1) (State.isArrayOf_alike hZ.alike Ar498.2.1) Ar498.2.2 hin498 (H498.at hin498 rfl) (g := (mkF m 259 #[.val (.ref a), .val (.ref ow), .val (.ref pa), .val (.ref la), .val (.ref ls), .val (.ref ly), .val (.int (1 : Int32)), .val (.int (4 : Int32))] [(.int (4 : Int32)), (.ref pa), (.ref b58)])) rfl rfl (hb hby own_ctor_d259)) ?_
    refine ownStep (fun _ k => XS.aloadN X497.here hx rfl (hb hby own_ctor_d260) rfl rfl k) ?_
    show ownGo p.tables e below (T497.setTop (mkF m 261 #[.val (.ref a), .val (.ref ow), .val (.ref pa), .val (.ref la), .val (.ref ls), .val (.ref ly), .val (.int (1 : Int32)), .val (.int (4 : Int32))] [(.ref a), (.int a4), (.ref b58)])) _
    obtain ⟨T500, X500, e500, st500⟩ := getF X497 hx hZ hown (host := "") (Or.inl (hw _ (List.mem_of_getElem? (i := 48) rfl))) Via.refl e497 Q496 (g := (mkF m 261 #[.val (.ref a), .val (.ref ow), .val (.ref pa), .val (.ref la), .val (.ref ls), .val (.ref ly), .val (.int (1 : Int32)), .val (.int (4 : Int32))] [(.ref a), (.int a4), (.ref b58)])) rfl rfl (hb hby own_ctor_d261)
    refine ownStep st500 ?_
    refine ownStep (fun _ k => XS.aloadN X500.here hx rfl (hb hby own_ctor_d264) rfl rfl k) ?_
    refine ownStep (fun _ k => XS.iload X500.here hx rfl (hb hby own_ctor_d265) rfl  k) ?_
    show ownGo p.tables e below (T500.setTop (mkF m 267 #[.val (.ref a), .val (.ref ow), .val (.ref pa), .val (.ref la), .val (.ref ls), .val (.ref ly), .val (.int (1 : Int32)), .val (.int (4 : Int32))] [(.int (4 : Int32)), (.ref pa), (.ref b58), (.int a4), (.ref b58)])) _
    have Vo501 := Q499
    obtain ⟨cl501, Ar501, q501, S501, N501, H501, G501⟩ := Vo501
    have hin501 : ¬ ((4 : Int32) < 0 ∨ cl501.slots.size ≤ ((4 : Int32)).toNatClampNeg) := inb_of S501 ⟨by decide, by decide⟩
    refine ownStep (X500.iaload hx (j := (4 : Int32)) (v := (.int a4)) (by rw [e500]; exact Ar501.1) (State.isArrayOf_alike hZ.alike Ar501.2.1) Ar501.2.2 hin501 (H501.at hin501 rfl) (g := (mkF m 267 #[.val (.ref a), .val (.ref ow), .val (.ref pa), .val (.ref la), .val (.ref ls), .val (.ref ly), .val (.int (1 : Int32)), .val (.int (4 : Int32))] [(.int (4 : Int32)), (.ref pa), (.ref b58), (.int a4), (.ref b58)])) rfl rfl (hb hby own_ctor_d267)) ?_
    show ownGo p.tables e below (T500.setTop (mkF m 268 #[.val (.ref a), .val (.ref ow), .val (.ref pa), .val (.ref la), .val (.ref ls), .val (.ref ly), .val (.int (1 : Int32)), .val (.int (4 : Int32))] [(.int a4), (.ref b58), (.int a4), (.ref b58)])) _
    have Q502 : Scr Z h493 b58 cs475 (5 : Int32) := (sc475.other W493 (Ne.symm ne116))
    have hin503 : ¬ (a4 < 0 ∨ cs475.slots.size ≤ (a4).toNatClampNeg) := inb_of Q502.2.1 ⟨(own_b4 ra4).1, (own_b4 ra4).2⟩
    refine ownStep (X500.iaload hx (j := a4) (v := (.int (atv cs475 a4))) (by rw [e500]; exact Q502.1.1) (State.isArrayOf_alike hZ.alike Q502.1.2.1) Q502.1.2.2 hin503 (Q502.2.2.2 _ hin503) (g := (mkF m 268 #[.val (.ref a), .val (.ref ow), .val (.ref pa), .val (.ref la), .val (.ref ls), .val (.ref ly), .val (.int (1 : Int32)), .val (.int (4 : Int32))] [(.int a4), (.ref b58), (.int a4), (.ref b58)])) rfl rfl (hb hby own_ctor_d268)) ?_
    refine ownStep (fun _ k => XS.aloadN X500.here hx rfl (hb hby own_ctor_d269) rfl rfl k) ?_
    show ownGo p.tables e below (T500.setTop (mkF m 270 #[.val (.ref a), .val (.ref ow), .val (.ref pa), .val (.ref la), .val (.ref ls), .val (.ref ly), .val (.int (1 : Int32)), .val (.int (4 : Int32))] [(.ref a), (.int (atv cs475 a4)), (.int a4), (.ref b58)])) _
    obtain ⟨T504, X504, e504, st504⟩ := getF X500 hx hZ hown (host := "") (Or.inl (hw _ (List.mem_of_getElem? (i := 48) rfl))) Via.refl e500 Q496 (g := (mkF m 270 #[.val (.ref a), .val (.ref ow), .val (.ref pa), .val (.ref la), .val (.ref ls), .val (.ref ly), .val (.int (1 : Int32)), .val (.int (4 : Int32))] [(.ref a), (.int (atv cs475 a4)), (.int a4), (.ref b58)])) rfl rfl (hb hby own_ctor_d270)
    refine ownStep st504 ?_
    refine ownStep (fun _ k => XS.iload X504.here hx rfl (hb hby own_ctor_d273) rfl  k) ?_
    show ownGo p.tables e below (T504.setTop (mkF m 275 #[.val (.ref a), .val (.ref ow), .val (.ref pa), .val (.ref la), .val (.ref ls), .val (.ref ly), .val (.int (1 : Int32)), .val (.int (4 : Int32))] [(.int (4 : Int32)), (.ref b58), (.int (atv cs475 a4)), (.int a4), (.ref b58)])) _
    have hin505 : ¬ ((4 : Int32) < 0 ∨ cs475.slots.size ≤ ((4 : Int32)).toNatClampNeg) := inb_of Q502.2.1 ⟨(by decide), (by decide)⟩
    refine ownStep (X504.iaload hx (j := (4 : Int32)) (v := (.int (atv cs475 (4 : Int32)))) (by rw [e504]; exact Q502.1.1) (State.isArrayOf_alike hZ.alike Q502.1.2.1) Q502.1.2.2 hin505 (Q502.2.2.2 _ hin505) (g := (mkF m 275 #[.val (.ref a), .val (.ref ow), .val (.ref pa), .val (.ref la), .val (.ref ls), .val (.ref ly), .val (.int (1 : Int32)), .val (.int (4 : Int32))] [(.int (4 : Int32)), (.ref b58), (.int (atv cs475 a4)), (.int a4), (.ref b58)])) rfl rfl (hb hby own_ctor_d275)) ?_
    show ownGo p.tables e below (T504.setTop (mkF m 276 #[.val (.ref a), .val (.ref ow), .val (.ref pa), .val (.ref la), .val (.ref ls), .val (.ref ly), .val (.int (1 : Int32)), .val (.int (4 : Int32))] [(.int (atv cs475 (4 : Int32))), (.int (atv cs475 a4)), (.int a4), (.ref b58)])) _
    have Zs507 : n0 ≤ h493.size := Nat.le_trans Z0 KP495.1
    obtain ⟨_, _, ⟨T506, L506, k506, n506⟩, -, X506, ⟨Lc506, hQ506, l506, y506, z506⟩, st506⟩ := Jvm.LawKit.callS X504 hx (y := (⟨"java/lang/Math", "max", "(II)I"⟩ : MethodName)) hown (mvT hZ (hw _ (List.mem_of_getElem? (i := 118) rfl))) (mvT hZ (hw _ (List.mem_of_getElem? (i := 79) rfl))) (mvT hZ (hw _ (List.mem_of_getElem? (i := 80) rfl))) (mvT hZ (hw _ (List.mem_of_getElem? (i := 81) rfl))) (by decide) (backOf (W := 2) (own_mmax l Z a0 hw [] (atv cs475 a4) (atv cs475 (4 : Int32)) h493 n0 Zs507 ) hZ (hw _ (List.mem_of_getElem? (i := 81) rfl)) (hw _ (List.mem_of_getElem? (i := 80) rfl)) (by decide) (by decide)) (g := (mkF m 276 #[.val (.ref a), .val (.ref ow), .val (.ref pa), .val (.ref la), .val (.ref ls), .val (.ref ly), .val (.int (1 : Int32)), .val (.int (4 : Int32))] [(.int (atv cs475 (4 : Int32))), (.int (atv cs475 a4)), (.int a4), (.ref b58)])) rfl (by rw [hml]; rfl) (argsL := [(.int (atv cs475 a4)), (.int (atv cs475 (4 : Int32)))]) (rest := [(.int a4), (.ref b58)]) (lenOf own_ctor_pd2 rfl) rfl (by show 2 * 0 + _ ≤ _; exact Nat.le_of_eq rfl) (hb hby own_ctor_d276) (fun _ _ => ⟨rfl, e504, (by decide : 17 + 0 ≤ _), (by decide : 118 + 0 ≤ _)⟩)
    dsimp only [Pt.U, Pt.locs, Pt.cells, Pt.slots] at X506 l506 y506 z506 st506 hQ506
    obtain rfl : k506 = 17 := y506
    obtain rfl : n506 = 118 := z506
    obtain ⟨r_506, rfl, N506q, R506⟩ := hQ506
    have N506 : Fr n0 L506 := l506 ▸ Fr.app N494 N506q
    refine ownStep (fun _ k => st506 _ k) ?_
    show ownGo p.tables e below (T506.setTop (mkF m 279 #[.val (.ref a), .val (.ref ow), .val (.ref pa), .val (.ref la), .val (.ref ls), .val (.ref ly), .val (.int (1 : Int32)), .val (.int (4 : Int32))] [(.int r_506), (.int a4), (.ref b58)])) _
    have hin508 : ¬ (a4 < 0 ∨ cs475.slots.size ≤ (a4).toNatClampNeg) := inb_of Q502.2.1 ⟨(own_b4 ra4).1, (own_b4 ra4).2⟩
    obtain ⟨T508, h508, X508, e508, W508, st508⟩ := stI X506 hx hZ R506 Q502.1 (j := a4) hin508 (g := (mkF m 279 #[.val (.ref a), .val (.ref ow), .val (.ref pa), .val (.ref la), .val (.ref ls), .val (.ref ly), .val (.int (1 : Int32)), .val (.int (4 : Int32))] [(.int r_506), (.int a4), (.ref b58)])) rfl rfl (hb hby own_ctor_d279)
    have N509 := Fr.snoc X508 N506 gn_b58
    have KP510 : Keep h0 h508 [a] := KP495.wr W508 (Or.inr gh_b58)
    obtain ⟨cs508, sc508⟩ := own_scrSet Q502 hin508 W508
    refine ownStep st508 ?_
    refine ownStep (fun _ k => XS.iinc X508.here hx rfl (hb hby own_ctor_d280) rfl (l' := #[.val (.ref a), .val (.ref ow), .val (.ref pa), .val (.ref la), .val (.ref ls), .val (.ref ly), .val (.int (1 : Int32)), .val (.int (3 : Int32))]) rfl k) ?_
    refine ownStep (fun _ k => XS.goto X508.here hx rfl (pc0 := 283) (pc' := 219) rfl (hb hby own_ctor_d283) (by decide) (by decide) k) ?_
    refine ownStep (fun _ k => XS.iload X508.here hx rfl (hb hby own_ctor_d219) rfl  k) ?_
    refine ownStep (fun _ k => XS.ifNo X508.here hx rfl (hb hby own_ctor_d221) rfl ((if0 _ _).trans (tlt (by decide : (0 : Int32) < (3 : Int32))).2.2.2) k) ?_
    show ownGo p.tables e below (T508.setTop (mkF m 224 #[.val (.ref a), .val (.ref ow), .val (.ref pa), .val (.ref la), .val (.ref ls), .val (.ref ly), .val (.int (1 : Int32)), .val (.int (3 : Int32))] [])) _
    refine ownStep (fun _ k => XS.aloadN X508.here hx rfl (hb hby own_ctor_d224) rfl rfl k) ?_
    show ownGo p.tables e below (T508.setTop (mkF m 225 #[.val (.ref a), .val (.ref ow), .val (.ref pa), .val (.ref la), .val (.ref ls), .val (.ref ly), .val (.int (1 : Int32)), .val (.int (3 : Int32))] [(.ref a)])) _
    have Q511 : Fld Z h508 a "com/example/adept_layout/adeptlayout/layout/Nesting" "first" "[I" (.ref b48) := ((Q482.other W493 (Or.inl ne102)).other W508 (Or.inl ne113))
    obtain ⟨T512, X512, e512, st512⟩ := getF X508 hx hZ hown (host := "") (Or.inl (hw _ (List.mem_of_getElem? (i := 46) rfl))) Via.refl e508 Q511 (g := (mkF m 225 #[.val (.ref a), .val (.ref ow), .val (.ref pa), .val (.ref la), .val (.ref ls), .val (.ref ly), .val (.int (1 : Int32)), .val (.int (3 : Int32))] [(.ref a)])) rfl rfl (hb hby own_ctor_d225)
    refine ownStep st512 ?_
    refine ownStep (fun _ k => XS.aloadN X512.here hx rfl (hb hby own_ctor_d228) rfl rfl k) ?_
    refine ownStep (fun _ k => XS.iload X512.here hx rfl (hb hby own_ctor_d229) rfl  k) ?_
    show ownGo p.tables e below (T512.setTop (mkF m 231 #[.val (.ref a), .val (.ref ow), .val (.ref pa), .val (.ref la), .val (.ref ls), .val (.ref ly), .val (.int (1 : Int32)), .val (.int (3 : Int32))] [(.int (3 : Int32)), (.ref pa), (.ref b48)])) _
    have Q514 : Arv Z h508 pa kp .int (5 : Int32) [(.int (-1 : Int32)), (.int (0 : Int32)), (.int a2), (.int a3), (.int a4)] (.int (0 : Int32)) := (Q499.other W508 ne125)
    have Vo513 := Q514
    obtain ⟨cl513, Ar513, q513, S513, N513, H513, G513⟩ := Vo513
    have hin513 : ¬ ((3 : Int32) < 0 ∨ cl513.slots.size ≤ ((3 : Int32)).toNatClampNeg) := inb_of S513 ⟨by decide, by decide⟩
    refine ownStep (X512.iaload hx (j := (3 : Int32)) (v := (.int a3)) (by rw [e512]; exact Ar513.1) (State.isArrayOf_alike hZ.alike Ar513.2.1) Ar513.2.2 hin513 (H513.at hin513 rfl) (g := (mkF m 231 #[.val (.ref a), .val (.ref ow), .val (.ref pa), .val (.ref la), .val (.ref ls), .val (.ref ly), .val (.int (1 : Int32)), .val (.int (3 : Int32))] [(.int (3 : Int32)), (.ref pa), (.ref b48)])) rfl rfl (hb hby own_ctor_d231)) ?_
    refine ownStep (fun _ k => XS.aloadN X512.here hx rfl (hb hby own_ctor_d232) rfl rfl k) ?_
    show ownGo p.tables e below (T512.setTop (mkF m 233 #[.val (.ref a), .val (.ref ow), .val (.ref pa), .val (.ref la), .val (.ref ls), .val (.ref ly), .val (.int (1 : Int32)), .val (.int (3 : Int32))] [(.ref a), (.int a3), (.ref b48)])) _
    obtain ⟨T515, X515, e515, st515⟩ := getF X512 hx hZ hown (host := "") (Or.inl (hw _ (List.mem_of_getElem? (i := 46) rfl))) Via.refl e512 Q511 (g := (mkF m 233 #[.val (.ref a), .val (.ref ow), .val (.ref pa), .val (.ref la), .val (.ref ls), .val (.ref ly), .val (.int (1 : Int32)), .val (.int (3 : Int32))] [(.ref a), (.int a3), (.ref b48)])) rfl rfl (hb hby own_ctor_d233)
    refine ownStep st515 ?_
    refine ownStep (fun _ k => XS.aloadN X515.here hx rfl (hb hby own_ctor_d236) rfl rfl k) ?_
    refine ownStep (fun _ k => XS.iload X515.here hx rfl (hb hby own_ctor_d237) rfl  k) ?_
    show ownGo p.tables e below (T515.setTop (mkF m 239 #[.val (.ref a), .val (.ref ow), .val (.ref pa), .val (.ref la), .val (.ref ls), .val (.ref ly), .val (.int (1 : Int32)), .val (.int (3 : Int32))] [(.int (3 : Int32)), (.ref pa), (.ref b48), (.int a3), (.ref b48)])) _
    have Vo516 := Q514
    obtain ⟨cl516, Ar516, q516, S516, N516, H516, G516⟩ := Vo516
    have hin516 : ¬ ((3 : Int32) < 0 ∨ cl516.slots.size ≤ ((3 : Int32)).toNatClampNeg) := inb_of S516 ⟨by decide, by decide⟩
    refine ownStep (X515.iaload hx (j := (3 : Int32)) (v := (.int a3)) (by rw [e515]; exact Ar516.1) (State.isArrayOf_alike hZ.alike Ar516.2.1) Ar516.2.2 hin516 (H516.at hin516 rfl) (g := (mkF m 239 #[.val (.ref a), .val (.ref ow), .val (.ref pa), .val (.ref la), .val (.ref ls), .val (.ref ly), .val (.int (1 : Int32)), .val (.int (3 : Int32))] [(.int (3 : Int32)), (.ref pa), (.ref b48), (.int a3), (.ref b48)])) rfl rfl (hb hby own_ctor_d239)) ?_
    show ownGo p.tables e below (T515.setTop (mkF m 240 #[.val (.ref a), .val (.ref ow), .val (.ref pa), .val (.ref la), .val (.ref ls), .val (.ref ly), .val (.int (1 : Int32)), .val (.int (3 : Int32))] [(.int a3), (.ref b48), (.int a3), (.ref b48)])) _
    have Q517 : Scr Z h508 b48 cs493 (5 : Int32) := (sc493.other W508 ne116)
    have hin518 : ¬ (a3 < 0 ∨ cs493.slots.size ≤ (a3).toNatClampNeg) := inb_of Q517.2.1 ⟨(own_b3 ra3).1, (own_b3 ra3).2⟩
    refine ownStep (X515.iaload hx (j := a3) (v := (.int (atv cs493 a3))) (by rw [e515]; exact Q517.1.1) (State.isArrayOf_alike hZ.alike Q517.1.2.1) Q517.1.2.2 hin518 (Q517.2.2.2 _ hin518) (g := (mkF m 240 #[.val (.ref a), .val (.ref ow), .val (.ref pa), .val (.ref la), .val (.ref ls), .val (.ref ly), .val (.int (1 : Int32)), .val (.int (3 : Int32))] [(.int a3), (.ref b48), (.int a3), (.ref b48)])) rfl rfl (hb hby own_ctor_d240)) ?_
    refine ownStep (fun _ k => XS.aloadN X515.here hx rfl (hb hby own_ctor_d241) rfl rfl k) ?_
    show ownGo p.tables e below (T515.setTop (mkF m 242 #[.val (.ref a), .val (.ref ow), .val (.ref pa), .val (.ref la), .val (.ref ls), .val (.ref ly), .val (.int (1 : Int32)), .val (.int (3 : Int32))] [(.ref a), (.int (atv cs493 a3)), (.int a3), (.ref b48)])) _
    obtain ⟨T519, X519, e519, st519⟩ := getF X515 hx hZ hown (host := "") (Or.inl (hw _ (List.mem_of_getElem? (i := 46) rfl))) Via.refl e515 Q511 (g := (mkF m 242 #[.val (.ref a), .val (.ref ow), .val (.ref pa), .val (.ref la), .val (.ref ls), .val (.ref ly), .val (.int (1 : Int32)), .val (.int (3 : Int32))] [(.ref a), (.int (atv cs493 a3)), (.int a3), (.ref b48)])) rfl rfl (hb hby own_ctor_d242)
    refine ownStep st519 ?_
    refine ownStep (fun _ k => XS.iload X519.here hx rfl (hb hby own_ctor_d245) rfl  k) ?_
    show ownGo p.tables e below (T519.setTop (mkF m 247 #[.val (.ref a), .val (.ref ow), .val (.ref pa), .val (.ref la), .val (.ref ls), .val (.ref ly), .val (.int (1 : Int32)), .val (.int (3 : Int32))] [(.int (3 : Int32)), (.ref b48), (.int (atv cs493 a3)), (.int a3), (.ref b48)])) _
    have hin520 : ¬ ((3 : Int32) < 0 ∨ cs493.slots.size ≤ ((3 : Int32)).toNatClampNeg) := inb_of Q517.2.1 ⟨(by decide), (by decide)⟩
    refine ownStep (X519.iaload hx (j := (3 : Int32)) (v := (.int (atv cs493 (3 : Int32)))) (by rw [e519]; exact Q517.1.1) (State.isArrayOf_alike hZ.alike Q517.1.2.1) Q517.1.2.2 hin520 (Q517.2.2.2 _ hin520) (g := (mkF m 247 #[.val (.ref a), .val (.ref ow), .val (.ref pa), .val (.ref la), .val (.ref ls), .val (.ref ly), .val (.int (1 : Int32)), .val (.int (3 : Int32))] [(.int (3 : Int32)), (.ref b48), (.int (atv cs493 a3)), (.int a3), (.ref b48)])) rfl rfl (hb hby own_ctor_d247)) ?_
    show ownGo p.tables e below (T519.setTop (mkF m 248 #[.val (.ref a), .val (.ref ow), .val (.ref pa), .val (.ref la), .val (.ref ls), .val (.ref ly), .val (.int (1 : Int32)), .val (.int (3 : Int32))] [(.int (atv cs493 (3 : Int32))), (.int (atv cs493 a3)), (.int a3), (.ref b48)])) _
    have Zs522 : n0 ≤ h508.size := Nat.le_trans Z0 KP510.1
    obtain ⟨_, _, ⟨T521, L521, k521, n521⟩, -, X521, ⟨Lc521, hQ521, l521, y521, z521⟩, st521⟩ := Jvm.LawKit.callS X519 hx (y := (⟨"java/lang/Math", "min", "(II)I"⟩ : MethodName)) hown (mvT hZ (hw _ (List.mem_of_getElem? (i := 115) rfl))) (mvT hZ (hw _ (List.mem_of_getElem? (i := 116) rfl))) (mvT hZ (hw _ (List.mem_of_getElem? (i := 80) rfl))) (mvT hZ (hw _ (List.mem_of_getElem? (i := 117) rfl))) (by decide) (backOf (W := 2) (own_mmin l Z a0 hw [] (atv cs493 a3) (atv cs493 (3 : Int32)) h508 n0 Zs522 ) hZ (hw _ (List.mem_of_getElem? (i := 117) rfl)) (hw _ (List.mem_of_getElem? (i := 80) rfl)) (by decide) (by decide)) (g := (mkF m 248 #[.val (.ref a), .val (.ref ow), .val (.ref pa), .val (.ref la), .val (.ref ls), .val (.ref ly), .val (.int (1 : Int32)), .val (.int (3 : Int32))] [(.int (atv cs493 (3 : Int32))), (.int (atv cs493 a3)), (.int a3), (.ref b48)])) rfl (by rw [hml]; rfl) (argsL := [(.int (atv cs493 a3)), (.int (atv cs493 (3 : Int32)))]) (rest := [(.int a3), (.ref b48)]) (lenOf own_ctor_pd2 rfl) rfl (by show 2 * 0 + _ ≤ _; exact Nat.le_of_eq rfl) (hb hby own_ctor_d248) (fun _ _ => ⟨rfl, e519, (by decide : 17 + 0 ≤ _), (by decide : 118 + 0 ≤ _)⟩)
    dsimp only [Pt.U, Pt.locs, Pt.cells, Pt.slots] at X521 l521 y521 z521 st521 hQ521
    obtain rfl : k521 = 17 := y521
    obtain rfl : n521 = 118 := z521
    obtain ⟨r_521, rfl, N521q, R521⟩ := hQ521
    have N521 : Fr n0 L521 := l521 ▸ Fr.app N509 N521q
    refine ownStep (fun _ k => st521 _ k) ?_
    show ownGo p.tables e below (T521.setTop (mkF m 251 #[.val (.ref a), .val (.ref ow), .val (.ref pa), .val (.ref la), .val (.ref ls), .val (.ref ly), .val (.int (1 : Int32)), .val (.int (3 : Int32))] [(.int r_521), (.int a3), (.ref b48)])) _
    have hin523 : ¬ (a3 < 0 ∨ cs493.slots.size ≤ (a3).toNatClampNeg) := inb_of Q517.2.1 ⟨(own_b3 ra3).1, (own_b3 ra3).2⟩
    obtain ⟨T523, h523, X523, e523, W523, st523⟩ := stI X521 hx hZ R521 Q517.1 (j := a3) hin523 (g := (mkF m 251 #[.val (.ref a), .val (.ref ow), .val (.ref pa), .val (.ref la), .val (.ref ls), .val (.ref ly), .val (.int (1 : Int32)), .val (.int (3 : Int32))] [(.int r_521), (.int a3), (.ref b48)])) rfl rfl (hb hby own_ctor_d251)
    have N524 := Fr.snoc X523 N521 gn_b48
    have KP525 : Keep h0 h523 [a] := KP510.wr W523 (Or.inr gh_b48)
    obtain ⟨cs523, sc523⟩ := own_scrSet Q517 hin523 W523
    refine ownStep st523 ?_
    refine ownStep (fun _ k => XS.aloadN X523.here hx rfl (hb hby own_ctor_d252) rfl rfl k) ?_
    show ownGo p.tables e below (T523.setTop (mkF m 253 #[.val (.ref a), .val (.ref ow), .val (.ref pa), .val (.ref la), .val (.ref ls), .val (.ref ly), .val (.int (1 : Int32)), .val (.int (3 : Int32))] [(.ref a)])) _
    have Q526 : Fld Z h523 a "com/example/adept_layout/adeptlayout/layout/Nesting" "last" "[I" (.ref b58) := ((Q496.other W508 (Or.inl ne113)).other W523 (Or.inl ne102))
    obtain ⟨T527, X527, e527, st527⟩ := getF X523 hx hZ hown (host := "") (Or.inl (hw _ (List.mem_of_getElem? (i := 48) rfl))) Via.refl e523 Q526 (g := (mkF m 253 #[.val (.ref a), .val (.ref ow), .val (.ref pa), .val (.ref la), .val (.ref ls), .val (.ref ly), .val (.int (1 : Int32)), .val (.int (3 : Int32))] [(.ref a)])) rfl rfl (hb hby own_ctor_d253)
    refine ownStep st527 ?_
    refine ownStep (fun _ k => XS.aloadN X527.here hx rfl (hb hby own_ctor_d256) rfl rfl k) ?_
    refine ownStep (fun _ k => XS.iload X527.here hx rfl (hb hby own_ctor_d257) rfl  k) ?_
    show ownGo p.tables e below (T527.setTop (mkF m 259 #[.val (.ref a), .val (.ref ow), .val (.ref pa), .val (.ref la), .val (.ref ls), .val (.ref ly), .val (.int (1 : Int32)), .val (.int (3 : Int32))] [(.int (3 : Int32)), (.ref pa), (.ref b58)])) _
    have Q529 : Arv Z h523 pa kp .int (5 : Int32) [(.int (-1 : Int32)), (.int (0 : Int32)), (.int a2), (.int a3), (.int a4)] (.int (0 : Int32)) := (Q514.other W523 ne124)
    have Vo528 := Q529
    obtain ⟨cl528, Ar528, q528, S528, N528, H528, G528⟩ := Vo528
    have hin528 : ¬ ((3 : Int32) < 0 ∨ cl528.slots.size ≤ ((3 : Int32)).toNatClampNeg) := inb_of S528 ⟨by decide, by decide⟩
    refine ownStep (X527.iaload hx (j := (3 : Int32)) (v := (.int a3)) (by rw [e527]; exact Ar528.1) (State.isArrayOf_alike hZ.alike Ar528.2.1) Ar528.2.2 hin528 (H528.at hin528 rfl) (g := (mkF m 259 #[.val (.ref a), .val (.ref ow), .val (.ref pa), .val (.ref la), .val (.ref ls), .val (.ref ly), .val (.int (1 : Int32)), .val (.int (3 : Int32))] [(.int (3 : Int32)), (.ref pa), (.ref b58)])) rfl rfl (hb hby own_ctor_d259)) ?_
    refine ownStep (fun _ k => XS.aloadN X527.here hx rfl (hb hby own_ctor_d260) rfl rfl k) ?_
    show ownGo p.tables e below (T527.setTop (mkF m 261 #[.val (.ref a), .val (.ref ow), .val (.ref pa), .val (.ref la), .val (.ref ls), .val (.ref ly), .val (.int (1 : Int32)), .val (.int (3 : Int32))] [(.ref a), (.int a3), (.ref b58)])) _
    obtain ⟨T530, X530, e530, st530⟩ := getF X527 hx hZ hown (host := "") (Or.inl (hw _ (List.mem_of_getElem? (i := 48) rfl))) Via.refl e527 Q526 (g := (mkF m 261 #[.val (.ref a), .val (.ref ow), .val (.ref pa), .val (.ref la), .val (.ref ls), .val (.ref ly), .val (.int (1 : Int32)), .val (.int (3 : Int32))] [(.ref a), (.int a3), (.ref b58)])) rfl rfl (hb hby own_ctor_d261)
    refine ownStep st530 ?_
    refine ownStep (fun _ k => XS.aloadN X530.here hx rfl (hb hby own_ctor_d264) rfl rfl k) ?_
    refine ownStep (fun _ k => XS.iload X530.here hx rfl (hb hby own_ctor_d265) rfl  k) ?_
    show ownGo p.tables e below (T530.setTop (mkF m 267 #[.val (.ref a), .val (.ref ow), .val (.ref pa), .val (.ref la), .val (.ref ls), .val (.ref ly), .val (.int (1 : Int32)), .val (.int (3 : Int32))] [(.int (3 : Int32)), (.ref pa), (.ref b58), (.int a3), (.ref b58)])) _
    have Vo531 := Q529
    obtain ⟨cl531, Ar531, q531, S531, N531, H531, G531⟩ := Vo531
    have hin531 : ¬ ((3 : Int32) < 0 ∨ cl531.slots.size ≤ ((3 : Int32)).toNatClampNeg) := inb_of S531 ⟨by decide, by decide⟩
    refine ownStep (X530.iaload hx (j := (3 : Int32)) (v := (.int a3)) (by rw [e530]; exact Ar531.1) (State.isArrayOf_alike hZ.alike Ar531.2.1) Ar531.2.2 hin531 (H531.at hin531 rfl) (g := (mkF m 267 #[.val (.ref a), .val (.ref ow), .val (.ref pa), .val (.ref la), .val (.ref ls), .val (.ref ly), .val (.int (1 : Int32)), .val (.int (3 : Int32))] [(.int (3 : Int32)), (.ref pa), (.ref b58), (.int a3), (.ref b58)])) rfl rfl (hb hby own_ctor_d267)) ?_
    show ownGo p.tables e below (T530.setTop (mkF m 268 #[.val (.ref a), .val (.ref ow), .val (.ref pa), .val (.ref la), .val (.ref ls), .val (.ref ly), .val (.int (1 : Int32)), .val (.int (3 : Int32))] [(.int a3), (.ref b58), (.int a3), (.ref b58)])) _
    have Q532 : Scr Z h523 b58 cs508 (5 : Int32) := (sc508.other W523 (Ne.symm ne116))
    have hin533 : ¬ (a3 < 0 ∨ cs508.slots.size ≤ (a3).toNatClampNeg) := inb_of Q532.2.1 ⟨(own_b3 ra3).1, (own_b3 ra3).2⟩
    refine ownStep (X530.iaload hx (j := a3) (v := (.int (atv cs508 a3))) (by rw [e530]; exact Q532.1.1) (State.isArrayOf_alike hZ.alike Q532.1.2.1) Q532.1.2.2 hin533 (Q532.2.2.2 _ hin533) (g := (mkF m 268 #[.val (.ref a), .val (.ref ow), .val (.ref pa), .val (.ref la), .val (.ref ls), .val (.ref ly), .val (.int (1 : Int32)), .val (.int (3 : Int32))] [(.int a3), (.ref b58), (.int a3), (.ref b58)])) rfl rfl (hb hby own_ctor_d268)) ?_
    refine ownStep (fun _ k => XS.aloadN X530.here hx rfl (hb hby own_ctor_d269) rfl rfl k) ?_
    show ownGo p.tables e below (T530.setTop (mkF m 270 #[.val (.ref a), .val (.ref ow), .val (.ref pa), .val (.ref la), .val (.ref ls), .val (.ref ly), .val (.int (1 : Int32)), .val (.int (3 : Int32))] [(.ref a), (.int (atv cs508 a3)), (.int a3), (.ref b58)])) _
    obtain ⟨T534, X534, e534, st534⟩ := getF X530 hx hZ hown (host := "") (Or.inl (hw _ (List.mem_of_getElem? (i := 48) rfl))) Via.refl e530 Q526 (g := (mkF m 270 #[.val (.ref a), .val (.ref ow), .val (.ref pa), .val (.ref la), .val (.ref ls), .val (.ref ly), .val (.int (1 : Int32)), .val (.int (3 : Int32))] [(.ref a), (.int (atv cs508 a3)), (.int a3), (.ref b58)])) rfl rfl (hb hby own_ctor_d270)
    refine ownStep st534 ?_
    refine ownStep (fun _ k => XS.iload X534.here hx rfl (hb hby own_ctor_d273) rfl  k) ?_
    show ownGo p.tables e below (T534.setTop (mkF m 275 #[.val (.ref a), .val (.ref ow), .val (.ref pa), .val (.ref la), .val (.ref ls), .val (.ref ly), .val (.int (1 : Int32)), .val (.int (3 : Int32))] [(.int (3 : Int32)), (.ref b58), (.int (atv cs508 a3)), (.int a3), (.ref b58)])) _
    have hin535 : ¬ ((3 : Int32) < 0 ∨ cs508.slots.size ≤ ((3 : Int32)).toNatClampNeg) := inb_of Q532.2.1 ⟨(by decide), (by decide)⟩
    refine ownStep (X534.iaload hx (j := (3 : Int32)) (v := (.int (atv cs508 (3 : Int32)))) (by rw [e534]; exact Q532.1.1) (State.isArrayOf_alike hZ.alike Q532.1.2.1) Q532.1.2.2 hin535 (Q532.2.2.2 _ hin535) (g := (mkF m 275 #[.val (.ref a), .val (.ref ow), .val (.ref pa), .val (.ref la), .val (.ref ls), .val (.ref ly), .val (.int (1 : Int32)), .val (.int (3 : Int32))] [(.int (3 : Int32)), (.ref b58), (.int (atv cs508 a3)), (.int a3), (.ref b58)])) rfl rfl (hb hby own_ctor_d275)) ?_
    show ownGo p.tables e below (T534.setTop (mkF m 276 #[.val (.ref a), .val (.ref ow), .val (.ref pa), .val (.ref la), .val (.ref ls), .val (.ref ly), .val (.int (1 : Int32)), .val (.int (3 : Int32))] [(.int (atv cs508 (3 : Int32))), (.int (atv cs508 a3)), (.int a3), (.ref b58)])) _
    have Zs537 : n0 ≤ h523.size := Nat.le_trans Z0 KP525.1
    obtain ⟨_, _, ⟨T536, L536, k536, n536⟩, -, X536, ⟨Lc536, hQ536, l536, y536, z536⟩, st536⟩ := Jvm.LawKit.callS X534 hx (y := (⟨"java/lang/Math", "max", "(II)I"⟩ : MethodName)) hown (mvT hZ (hw _ (List.mem_of_getElem? (i := 118) rfl))) (mvT hZ (hw _ (List.mem_of_getElem? (i := 79) rfl))) (mvT hZ (hw _ (List.mem_of_getElem? (i := 80) rfl))) (mvT hZ (hw _ (List.mem_of_getElem? (i := 81) rfl))) (by decide) (backOf (W := 2) (own_mmax l Z a0 hw [] (atv cs508 a3) (atv cs508 (3 : Int32)) h523 n0 Zs537 ) hZ (hw _ (List.mem_of_getElem? (i := 81) rfl)) (hw _ (List.mem_of_getElem? (i := 80) rfl)) (by decide) (by decide)) (g := (mkF m 276 #[.val (.ref a), .val (.ref ow), .val (.ref pa), .val (.ref la), .val (.ref ls), .val (.ref ly), .val (.int (1 : Int32)), .val (.int (3 : Int32))] [(.int (atv cs508 (3 : Int32))), (.int (atv cs508 a3)), (.int a3), (.ref b58)])) rfl (by rw [hml]; rfl) (argsL := [(.int (atv cs508 a3)), (.int (atv cs508 (3 : Int32)))]) (rest := [(.int a3), (.ref b58)]) (lenOf own_ctor_pd2 rfl) rfl (by show 2 * 0 + _ ≤ _; exact Nat.le_of_eq rfl) (hb hby own_ctor_d276) (fun _ _ => ⟨rfl, e534, (by decide : 17 + 0 ≤ _), (by decide : 118 + 0 ≤ _)⟩)
    dsimp only [Pt.U, Pt.locs, Pt.cells, Pt.slots] at X536 l536 y536 z536 st536 hQ536
    obtain rfl : k536 = 17 := y536
    obtain rfl : n536 = 118 := z536
    obtain ⟨r_536, rfl, N536q, R536⟩ := hQ536
    have N536 : Fr n0 L536 := l536 ▸ Fr.app N524 N536q
    refine ownStep (fun _ k => st536 _ k) ?_
    show ownGo p.tables e below (T536.setTop (mkF m 279 #[.val (.ref a), .val (.ref ow), .val (.ref pa), .val (.ref la), .val (.ref ls), .val (.ref ly), .val (.int (1 : Int32)), .val (.int (3 : Int32))] [(.int r_536), (.int a3), (.ref b58)])) _
    have hin538 : ¬ (a3 < 0 ∨ cs508.slots.size ≤ (a3).toNatClampNeg) := inb_of Q532.2.1 ⟨(own_b3 ra3).1, (own_b3 ra3).2⟩
    obtain ⟨T538, h538, X538, e538, W538, st538⟩ := stI X536 hx hZ R536 Q532.1 (j := a3) hin538 (g := (mkF m 279 #[.val (.ref a), .val (.ref ow), .val (.ref pa), .val (.ref la), .val (.ref ls), .val (.ref ly), .val (.int (1 : Int32)), .val (.int (3 : Int32))] [(.int r_536), (.int a3), (.ref b58)])) rfl rfl (hb hby own_ctor_d279)
    have N539 := Fr.snoc X538 N536 gn_b58
    have KP540 : Keep h0 h538 [a] := KP525.wr W538 (Or.inr gh_b58)
    obtain ⟨cs538, sc538⟩ := own_scrSet Q532 hin538 W538
    refine ownStep st538 ?_
    refine ownStep (fun _ k => XS.iinc X538.here hx rfl (hb hby own_ctor_d280) rfl (l' := #[.val (.ref a), .val (.ref ow), .val (.ref pa), .val (.ref la), .val (.ref ls), .val (.ref ly), .val (.int (1 : Int32)), .val (.int (2 : Int32))]) rfl k) ?_
    refine ownStep (fun _ k => XS.goto X538.here hx rfl (pc0 := 283) (pc' := 219) rfl (hb hby own_ctor_d283) (by decide) (by decide) k) ?_
    refine ownStep (fun _ k => XS.iload X538.here hx rfl (hb hby own_ctor_d219) rfl  k) ?_
    refine ownStep (fun _ k => XS.ifNo X538.here hx rfl (hb hby own_ctor_d221) rfl ((if0 _ _).trans (tlt (by decide : (0 : Int32) < (2 : Int32))).2.2.2) k) ?_
    show ownGo p.tables e below (T538.setTop (mkF m 224 #[.val (.ref a), .val (.ref ow), .val (.ref pa), .val (.ref la), .val (.ref ls), .val (.ref ly), .val (.int (1 : Int32)), .val (.int (2 : Int32))] [])) _
    refine ownStep (fun _ k => XS.aloadN X538.here hx rfl (hb hby own_ctor_d224) rfl rfl k) ?_
    show ownGo p.tables e below (T538.setTop (mkF m 225 #[.val (.ref a), .val (.ref ow), .val (.ref pa), .val (.ref la), .val (.ref ls), .val (.ref ly), .val (.int (1 : Int32)), .val (.int (2 : Int32))] [(.ref a)])) _
    have Q541 : Fld Z h538 a "com/example/adept_layout/adeptlayout/layout/Nesting" "first" "[I" (.ref b48) := ((Q511.other W523 (Or.inl ne102)).other W538 (Or.inl ne113))
    obtain ⟨T542, X542, e542, st542⟩ := getF X538 hx hZ hown (host := "") (Or.inl (hw _ (List.mem_of_getElem? (i := 46) rfl))) Via.refl e538 Q541 (g := (mkF m 225 #[.val (.ref a), .val (.ref ow), .val (.ref pa), .val (.ref la), .val (.ref ls), .val (.ref ly), .val (.int (1 : Int32)), .val (.int (2 : Int32))] [(.ref a)])) rfl rfl (hb hby own_ctor_d225)
    refine ownStep st542 ?_
    refine ownStep (fun _ k => XS.aloadN X542.here hx rfl (hb hby own_ctor_d228) rfl rfl k) ?_
    refine ownStep (fun _ k => XS.iload X542.here hx rfl (hb hby own_ctor_d229) rfl  k) ?_
    show ownGo p.tables e below (T542.setTop (mkF m 231 #[.val (.ref a), .val (.ref ow), .val (.ref pa), .val (.ref la), .val (.ref ls), .val (.ref ly), .val (.int (1 : Int32)), .val (.int (2 : Int32))] [(.int (2 : Int32)), (.ref pa), (.ref b48)])) _
    have Q544 : Arv Z h538 pa kp .int (5 : Int32) [(.int (-1 : Int32)), (.int (0 : Int32)), (.int a2), (.int a3), (.int a4)] (.int (0 : Int32)) := (Q529.other W538 ne125)
    have Vo543 := Q544
    obtain ⟨cl543, Ar543, q543, S543, N543, H543, G543⟩ := Vo543
    have hin543 : ¬ ((2 : Int32) < 0 ∨ cl543.slots.size ≤ ((2 : Int32)).toNatClampNeg) := inb_of S543 ⟨by decide, by decide⟩
    refine ownStep (X542.iaload hx (j := (2 : Int32)) (v := (.int a2)) (by rw [e542]; exact Ar543.1) (State.isArrayOf_alike hZ.alike Ar543.2.1) Ar543.2.2 hin543 (H543.at hin543 rfl) (g := (mkF m 231 #[.val (.ref a), .val (.ref ow), .val (.ref pa), .val (.ref la), .val (.ref ls), .val (.ref ly), .val (.int (1 : Int32)), .val (.int (2 : Int32))] [(.int (2 : Int32)), (.ref pa), (.ref b48)])) rfl rfl (hb hby own_ctor_d231)) ?_
    refine ownStep (fun _ k => XS.aloadN X542.here hx rfl (hb hby own_ctor_d232) rfl rfl k) ?_
    show ownGo p.tables e below (T542.setTop (mkF m 233 #[.val (.ref a), .val (.ref ow), .val (.ref pa), .val (.ref la), .val (.ref ls), .val (.ref ly), .val (.int (1 : Int32)), .val (.int (2 : Int32))] [(.ref a), (.int a2), (.ref b48)])) _
    obtain ⟨T545, X545, e545, st545⟩ := getF X542 hx hZ hown (host := "") (Or.inl (hw _ (List.mem_of_getElem? (i := 46) rfl))) Via.refl e542 Q541 (g := (mkF m 233 #[.val (.ref a), .val (.ref ow), .val (.ref pa), .val (.ref la), .val (.ref ls), .val (.ref ly), .val (.int (1 : Int32)), .val (.int (2 : Int32))] [(.ref a), (.int a2), (.ref b48)])) rfl rfl (hb hby own_ctor_d233)
    refine ownStep st545 ?_
    refine ownStep (fun _ k => XS.aloadN X545.here hx rfl (hb hby own_ctor_d236) rfl rfl k) ?_
    refine ownStep (fun _ k => XS.iload X545.here hx rfl (hb hby own_ctor_d237) rfl  k) ?_
    show ownGo p.tables e below (T545.setTop (mkF m 239 #[.val (.ref a), .val (.ref ow), .val (.ref pa), .val (.ref la), .val (.ref ls), .val (.ref ly), .val (.int (1 : Int32)), .val (.int (2 : Int32))] [(.int (2 : Int32)), (.ref pa), (.ref b48), (.int a2), (.ref b48)])) _
    have Vo546 := Q544
    obtain ⟨cl546, Ar546, q546, S546, N546, H546, G546⟩ := Vo546
    have hin546 : ¬ ((2 : Int32) < 0 ∨ cl546.slots.size ≤ ((2 : Int32)).toNatClampNeg) := inb_of S546 ⟨by decide, by decide⟩
    refine ownStep (X545.iaload hx (j := (2 : Int32)) (v := (.int a2)) (by rw [e545]; exact Ar546.1) (State.isArrayOf_alike hZ.alike Ar546.2.1) Ar546.2.2 hin546 (H546.at hin546 rfl) (g := (mkF m 239 #[.val (.ref a), .val (.ref ow), .val (.ref pa), .val (.ref la), .val (.ref ls), .val (.ref ly), .val (.int (1 : Int32)), .val (.int (2 : Int32))] [(.int (2 : Int32)), (.ref pa), (.ref b48), (.int a2), (.ref b48)])) rfl rfl (hb hby own_ctor_d239)) ?_
    show ownGo p.tables e below (T545.setTop (mkF m 240 #[.val (.ref a), .val (.ref ow), .val (.ref pa), .val (.ref la), .val (.ref ls), .val (.ref ly), .val (.int (1 : Int32)), .val (.int (2 : Int32))] [(.int a2), (.ref b48), (.int a2), (.ref b48)])) _
    have Q547 : Scr Z h538 b48 cs523 (5 : Int32) := (sc523.other W538 ne116)
    have hin548 : ¬ (a2 < 0 ∨ cs523.slots.size ≤ (a2).toNatClampNeg) := inb_of Q547.2.1 ⟨(own_b2 ra2).1, (own_b2 ra2).2⟩
    refine ownStep (X545.iaload hx (j := a2) (v := (.int (atv cs523 a2))) (by rw [e545]; exact Q547.1.1) (State.isArrayOf_alike hZ.alike Q547.1.2.1) Q547.1.2.2 hin548 (Q547.2.2.2 _ hin548) (g := (mkF m 240 #[.val (.ref a), .val (.ref ow), .val (.ref pa), .val (.ref la), .val (.ref ls), .val (.ref ly), .val (.int (1 : Int32)), .val (.int (2 : Int32))] [(.int a2), (.ref b48), (.int a2), (.ref b48)])) rfl rfl (hb hby own_ctor_d240)) ?_
    refine ownStep (fun _ k => XS.aloadN X545.here hx rfl (hb hby own_ctor_d241) rfl rfl k) ?_
    show ownGo p.tables e below (T545.setTop (mkF m 242 #[.val (.ref a), .val (.ref ow), .val (.ref pa), .val (.ref la), .val (.ref ls), .val (.ref ly), .val (.int (1 : Int32)), .val (.int (2 : Int32))] [(.ref a), (.int (atv cs523 a2)), (.int a2), (.ref b48)])) _
    obtain ⟨T549, X549, e549, st549⟩ := getF X545 hx hZ hown (host := "") (Or.inl (hw _ (List.mem_of_getElem? (i := 46) rfl))) Via.refl e545 Q541 (g := (mkF m 242 #[.val (.ref a), .val (.ref ow), .val (.ref pa), .val (.ref la), .val (.ref ls), .val (.ref ly), .val (.int (1 : Int32)), .val (.int (2 : Int32))] [(.ref a), (.int (atv cs523 a2)), (.int a2), (.ref b48)])) rfl rfl (hb hby own_ctor_d242)
    refine ownStep st549 ?_
    refine ownStep (fun _ k => XS.iload X549.here hx rfl (hb hby own_ctor_d245) rfl  k) ?_
    show ownGo p.tables e below (T549.setTop (mkF m 247 #[.val (.ref a), .val (.ref ow), .val (.ref pa), .val (.ref la), .val (.ref ls), .val (.ref ly), .val (.int (1 : Int32)), .val (.int (2 : Int32))] [(.int (2 : Int32)), (.ref b48), (.int (atv cs523 a2)), (.int a2), (.ref b48)])) _
    have hin550 : ¬ ((2 : Int32) < 0 ∨ cs523.slots.size ≤ ((2 : Int32)).toNatClampNeg) := inb_of Q547.2.1 ⟨(by decide), (by decide)⟩
    refine ownStep (X549.iaload hx (j := (2 : Int32)) (v := (.int (atv cs523 (2 : Int32)))) (by rw [e549]; exact Q547.1.1) (State.isArrayOf_alike hZ.alike Q547.1.2.1) Q547.1.2.2 hin550 (Q547.2.2.2 _ hin550) (g := (mkF m 247 #[.val (.ref a), .val (.ref ow), .val (.ref pa), .val (.ref la), .val (.ref ls), .val (.ref ly), .val (.int (1 : Int32)), .val (.int (2 : Int32))] [(.int (2 : Int32)), (.ref b48), (.int (atv cs523 a2)), (.int a2), (.ref b48)])) rfl rfl (hb hby own_ctor_d247)) ?_
    show ownGo p.tables e below (T549.setTop (mkF m 248 #[.val (.ref a), .val (.ref ow), .val (.ref pa), .val (.ref la), .val (.ref ls), .val (.ref ly), .val (.int (1 : Int32)), .val (.int (2 : Int32))] [(.int (atv cs523 (2 : Int32))), (.int (atv cs523 a2)), (.int a2), (.ref b48)])) _
    have Zs552 : n0 ≤ h538.size := Nat.le_trans Z0 KP540.1
    obtain ⟨_, _, ⟨T551, L551, k551, n551⟩, -, X551, ⟨Lc551, hQ551, l551, y551, z551⟩, st551⟩ := Jvm.LawKit.callS X549 hx (y := (⟨"java/lang/Math", "min", "(II)I"⟩ : MethodName)) hown (mvT hZ (hw _ (List.mem_of_getElem? (i := 115) rfl))) (mvT hZ (hw _ (List.mem_of_getElem? (i := 116) rfl))) (mvT hZ (hw _ (List.mem_of_getElem? (i := 80) rfl))) (mvT hZ (hw _ (List.mem_of_getElem? (i := 117) rfl))) (by decide) (backOf (W := 2) (own_mmin l Z a0 hw [] (atv cs523 a2) (atv cs523 (2 : Int32)) h538 n0 Zs552 ) hZ (hw _ (List.mem_of_getElem? (i := 117) rfl)) (hw _ (List.mem_of_getElem? (i := 80) rfl)) (by decide) (by decide)) (g := (mkF m 248 #[.val (.ref a), .val (.ref ow), .val (.ref pa), .val (.ref la), .val (.ref ls), .val (.ref ly), .val (.int (1 : Int32)), .val (.int (2 : Int32))] [(.int (atv cs523 (2 : Int32))), (.int (atv cs523 a2)), (.int a2), (.ref b48)])) rfl (by rw [hml]; rfl) (argsL := [(.int (atv cs523 a2)), (.int (atv cs523 (2 : Int32)))]) (rest := [(.int a2), (.ref b48)]) (lenOf own_ctor_pd2 rfl) rfl (by show 2 * 0 + _ ≤ _; exact Nat.le_of_eq rfl) (hb hby own_ctor_d248) (fun _ _ => ⟨rfl, e549, (by decide : 17 + 0 ≤ _), (by decide : 118 + 0 ≤ _)⟩)
    dsimp only [Pt.U, Pt.locs, Pt.cells, Pt.slots] at X551 l551 y551 z551 st551 hQ551
    obtain rfl : k551 = 17 := y551
    obtain rfl : n551 = 118 := z551
    obtain ⟨r_551, rfl, N551q, R551⟩ := hQ551
    have N551 : Fr n0 L551 := l551 ▸ Fr.app N539 N551q
    refine ownStep (fun _ k => st551 _ k) ?_
    show ownGo p.tables e below (T551.setTop (mkF m 251 #[.val (.ref a), .val (.ref ow), .val (.ref pa), .val (.ref la), .val (.ref ls), .val (.ref ly), .val (.int (1 : Int32)), .val (.int (2 : Int32))] [(.int r_551), (.int a2), (.ref b48)])) _
    have hin553 : ¬ (a2 < 0 ∨ cs523.slots.size ≤ (a2).toNatClampNeg) := inb_of Q547.2.1 ⟨(own_b2 ra2).1, (own_b2 ra2).2⟩
    obtain ⟨T553, h553, X553, e553, W553, st553⟩ := stI X551 hx hZ R551 Q547.1 (j := a2) hin553 (g := (mkF m 251 #[.val (.ref a), .val (.ref ow), .val (.ref pa), .val (.ref la), .val (.ref ls), .val (.ref ly), .val (.int (1 : Int32)), .val (.int (2 : Int32))] [(.int r_551), (.int a2), (.ref b48)])) rfl rfl (hb hby own_ctor_d251)
    have N554 := Fr.snoc X553 N551 gn_b48
    have KP555 : Keep h0 h553 [a] := KP540.wr W553 (Or.inr gh_b48)
    obtain ⟨cs553, sc553⟩ := own_scrSet Q547 hin553 W553
    refine ownStep st553 ?_
    refine ownStep (fun _ k => XS.aloadN X553.here hx rfl (hb hby own_ctor_d252) rfl rfl k) ?_
    show ownGo p.tables e below (T553.setTop (mkF m 253 #[.val (.ref a), .val (.ref ow), .val (.ref pa), .val (.ref la), .val (.ref ls), .val (.ref ly), .val (.int (1 : Int32)), .val (.int (2 : Int32))] [(.ref a)])) _
    have Q556 : Fld Z h553 a "com/example/adept_layout/adeptlayout/layout/Nesting" "last" "[I" (.ref b58) := ((Q526.other W538 (Or.inl ne113)).other W553 (Or.inl ne102))
    obtain ⟨T557, X557, e557, st557⟩ := getF X553 hx hZ hown (host := "") (Or.inl (hw _ (List.mem_of_getElem? (i := 48) rfl))) Via.refl e553 Q556 (g := (mkF m 253 #[.val (.ref a), .val (.ref ow), .val (.ref pa), .val (.ref la), .val (.ref ls), .val (.ref ly), .val (.int (1 : Int32)), .val (.int (2 : Int32))] [(.ref a)])) rfl rfl (hb hby own_ctor_d253)
    refine ownStep st557 ?_
    refine ownStep (fun _ k => XS.aloadN X557.here hx rfl (hb hby own_ctor_d256) rfl rfl k) ?_
    refine ownStep (fun _ k => XS.iload X557.here hx rfl (hb hby own_ctor_d257) rfl  k) ?_
    show ownGo p.tables e below (T557.setTop (mkF m 259 #[.val (.ref a), .val (.ref ow), .val (.ref pa), .val (.ref la), .val (.ref ls), .val (.ref ly), .val (.int (1 : Int32)), .val (.int (2 : Int32))] [(.int (2 : Int32)), (.ref pa), (.ref b58)])) _
    have Q559 : Arv Z h553 pa kp .int (5 : Int32) [(.int (-1 : Int32)), (.int (0 : Int32)), (.int a2), (.int a3), (.int a4)] (.int (0 : Int32)) := (Q544.other W553 ne124)
    have Vo558 := Q559
    obtain ⟨cl558, Ar558, q558, S558, N558, H558, G558⟩ := Vo558
    have hin558 : ¬ ((2 : Int32) < 0 ∨ cl558.slots.size ≤ ((2 : Int32)).toNatClampNeg) := inb_of S558 ⟨by decide, by decide⟩
    refine ownStep (X557.iaload hx (j := (2 : Int32)) (v := (.int a2)) (by rw [e557]; exact Ar558.1) (State.isArrayOf_alike hZ.alike Ar558.2.1) Ar558.2.2 hin558 (H558.at hin558 rfl) (g := (mkF m 259 #[.val (.ref a), .val (.ref ow), .val (.ref pa), .val (.ref la), .val (.ref ls), .val (.ref ly), .val (.int (1 : Int32)), .val (.int (2 : Int32))] [(.int (2 : Int32)), (.ref pa), (.ref b58)])) rfl rfl (hb hby own_ctor_d259)) ?_
    refine ownStep (fun _ k => XS.aloadN X557.here hx rfl (hb hby own_ctor_d260) rfl rfl k) ?_
    show ownGo p.tables e below (T557.setTop (mkF m 261 #[.val (.ref a), .val (.ref ow), .val (.ref pa), .val (.ref la), .val (.ref ls), .val (.ref ly), .val (.int (1 : Int32)), .val (.int (2 : Int32))] [(.ref a), (.int a2), (.ref b58)])) _
    obtain ⟨T560, X560, e560, st560⟩ := getF X557 hx hZ hown (host := "") (Or.inl (hw _ (List.mem_of_getElem? (i := 48) rfl))) Via.refl e557 Q556 (g := (mkF m 261 #[.val (.ref a), .val (.ref ow), .val (.ref pa), .val (.ref la), .val (.ref ls), .val (.ref ly), .val (.int (1 : Int32)), .val (.int (2 : Int32))] [(.ref a), (.int a2), (.ref b58)])) rfl rfl (hb hby own_ctor_d261)
    refine ownStep st560 ?_
    refine ownStep (fun _ k => XS.aloadN X560.here hx rfl (hb hby own_ctor_d264) rfl rfl k) ?_
    refine ownStep (fun _ k => XS.iload X560.here hx rfl (hb hby own_ctor_d265) rfl  k) ?_
    show ownGo p.tables e below (T560.setTop (mkF m 267 #[.val (.ref a), .val (.ref ow), .val (.ref pa), .val (.ref la), .val (.ref ls), .val (.ref ly), .val (.int (1 : Int32)), .val (.int (2 : Int32))] [(.int (2 : Int32)), (.ref pa), (.ref b58), (.int a2), (.ref b58)])) _
    have Vo561 := Q559
    obtain ⟨cl561, Ar561, q561, S561, N561, H561, G561⟩ := Vo561
    have hin561 : ¬ ((2 : Int32) < 0 ∨ cl561.slots.size ≤ ((2 : Int32)).toNatClampNeg) := inb_of S561 ⟨by decide, by decide⟩
    refine ownStep (X560.iaload hx (j := (2 : Int32)) (v := (.int a2)) (by rw [e560]; exact Ar561.1) (State.isArrayOf_alike hZ.alike Ar561.2.1) Ar561.2.2 hin561 (H561.at hin561 rfl) (g := (mkF m 267 #[.val (.ref a), .val (.ref ow), .val (.ref pa), .val (.ref la), .val (.ref ls), .val (.ref ly), .val (.int (1 : Int32)), .val (.int (2 : Int32))] [(.int (2 : Int32)), (.ref pa), (.ref b58), (.int a2), (.ref b58)])) rfl rfl (hb hby own_ctor_d267)) ?_
    show ownGo p.tables e below (T560.setTop (mkF m 268 #[.val (.ref a), .val (.ref ow), .val (.ref pa), .val (.ref la), .val (.ref ls), .val (.ref ly), .val (.int (1 : Int32)), .val (.int (2 : Int32))] [(.int a2), (.ref b58), (.int a2), (.ref b58)])) _
    have Q562 : Scr Z h553 b58 cs538 (5 : Int32) := (sc538.other W553 (Ne.symm ne116))
    have hin563 : ¬ (a2 < 0 ∨ cs538.slots.size ≤ (a2).toNatClampNeg) := inb_of Q562.2.1 ⟨(own_b2 ra2).1, (own_b2 ra2).2⟩
    refine ownStep (X560.iaload hx (j := a2) (v := (.int (atv cs538 a2))) (by rw [e560]; exact Q562.1.1) (State.isArrayOf_alike hZ.alike Q562.1.2.1) Q562.1.2.2 hin563 (Q562.2.2.2 _ hin563) (g := (mkF m 268 #[.val (.ref a), .val (.ref ow), .val (.ref pa), .val (.ref la), .val (.ref ls), .val (.ref ly), .val (.int (1 : Int32)), .val (.int (2 : Int32))] [(.int a2), (.ref b58), (.int a2), (.ref b58)])) rfl rfl (hb hby own_ctor_d268)) ?_
    refine ownStep (fun _ k => XS.aloadN X560.here hx rfl (hb hby own_ctor_d269) rfl rfl k) ?_
    show ownGo p.tables e below (T560.setTop (mkF m 270 #[.val (.ref a), .val (.ref ow), .val (.ref pa), .val (.ref la), .val (.ref ls), .val (.ref ly), .val (.int (1 : Int32)), .val (.int (2 : Int32))] [(.ref a), (.int (atv cs538 a2)), (.int a2), (.ref b58)])) _
    obtain ⟨T564, X564, e564, st564⟩ := getF X560 hx hZ hown (host := "") (Or.inl (hw _ (List.mem_of_getElem? (i := 48) rfl))) Via.refl e560 Q556 (g := (mkF m 270 #[.val (.ref a), .val (.ref ow), .val (.ref pa), .val (.ref la), .val (.ref ls), .val (.ref ly), .val (.int (1 : Int32)), .val (.int (2 : Int32))] [(.ref a), (.int (atv cs538 a2)), (.int a2), (.ref b58)])) rfl rfl (hb hby own_ctor_d270)
    refine ownStep st564 ?_
    refine ownStep (fun _ k => XS.iload X564.here hx rfl (hb hby own_ctor_d273) rfl  k) ?_
    show ownGo p.tables e below (T564.setTop (mkF m 275 #[.val (.ref a), .val (.ref ow), .val (.ref pa), .val (.ref la), .val (.ref ls), .val (.ref ly), .val (.int (1 : Int32)), .val (.int (2 : Int32))] [(.int (2 : Int32)), (.ref b58), (.int (atv cs538 a2)), (.int a2), (.ref b58)])) _
    have hin565 : ¬ ((2 : Int32) < 0 ∨ cs538.slots.size ≤ ((2 : Int32)).toNatClampNeg) := inb_of Q562.2.1 ⟨(by decide), (by decide)⟩
    refine ownStep (X564.iaload hx (j := (2 : Int32)) (v := (.int (atv cs538 (2 : Int32)))) (by rw [e564]; exact Q562.1.1) (State.isArrayOf_alike hZ.alike Q562.1.2.1) Q562.1.2.2 hin565 (Q562.2.2.2 _ hin565) (g := (mkF m 275 #[.val (.ref a), .val (.ref ow), .val (.ref pa), .val (.ref la), .val (.ref ls), .val (.ref ly), .val (.int (1 : Int32)), .val (.int (2 : Int32))] [(.int (2 : Int32)), (.ref b58), (.int (atv cs538 a2)), (.int a2), (.ref b58)])) rfl rfl (hb hby own_ctor_d275)) ?_
    show ownGo p.tables e below (T564.setTop (mkF m 276 #[.val (.ref a), .val (.ref ow), .val (.ref pa), .val (.ref la), .val (.ref ls), .val (.ref ly), .val (.int (1 : Int32)), .val (.int (2 : Int32))] [(.int (atv cs538 (2 : Int32))), (.int (atv cs538 a2)), (.int a2), (.ref b58)])) _
    have Zs567 : n0 ≤ h553.size := Nat.le_trans Z0 KP555.1
    obtain ⟨_, _, ⟨T566, L566, k566, n566⟩, -, X566, ⟨Lc566, hQ566, l566, y566, z566⟩, st566⟩ := Jvm.LawKit.callS X564 hx (y := (⟨"java/lang/Math", "max", "(II)I"⟩ : MethodName)) hown (mvT hZ (hw _ (List.mem_of_getElem? (i := 118) rfl))) (mvT hZ (hw _ (List.mem_of_getElem? (i := 79) rfl))) (mvT hZ (hw _ (List.mem_of_getElem? (i := 80) rfl))) (mvT hZ (hw _ (List.mem_of_getElem? (i := 81) rfl))) (by decide) (backOf (W := 2) (own_mmax l Z a0 hw [] (atv cs538 a2) (atv cs538 (2 : Int32)) h553 n0 Zs567 ) hZ (hw _ (List.mem_of_getElem? (i := 81) rfl)) (hw _ (List.mem_of_getElem? (i := 80) rfl)) (by decide) (by decide)) (g := (mkF m 276 #[.val (.ref a), .val (.ref ow), .val (.ref pa), .val (.ref la), .val (.ref ls), .val (.ref ly), .val (.int (1 : Int32)), .val (.int (2 : Int32))] [(.int (atv cs538 (2 : Int32))), (.int (atv cs538 a2)), (.int a2), (.ref b58)])) rfl (by rw [hml]; rfl) (argsL := [(.int (atv cs538 a2)), (.int (atv cs538 (2 : Int32)))]) (rest := [(.int a2), (.ref b58)]) (lenOf own_ctor_pd2 rfl) rfl (by show 2 * 0 + _ ≤ _; exact Nat.le_of_eq rfl) (hb hby own_ctor_d276) (fun _ _ => ⟨rfl, e564, (by decide : 17 + 0 ≤ _), (by decide : 118 + 0 ≤ _)⟩)
    dsimp only [Pt.U, Pt.locs, Pt.cells, Pt.slots] at X566 l566 y566 z566 st566 hQ566
    obtain rfl : k566 = 17 := y566
    obtain rfl : n566 = 118 := z566
    obtain ⟨r_566, rfl, N566q, R566⟩ := hQ566
    have N566 : Fr n0 L566 := l566 ▸ Fr.app N554 N566q
    refine ownStep (fun _ k => st566 _ k) ?_
    show ownGo p.tables e below (T566.setTop (mkF m 279 #[.val (.ref a), .val (.ref ow), .val (.ref pa), .val (.ref la), .val (.ref ls), .val (.ref ly), .val (.int (1 : Int32)), .val (.int (2 : Int32))] [(.int r_566), (.int a2), (.ref b58)])) _
    have hin568 : ¬ (a2 < 0 ∨ cs538.slots.size ≤ (a2).toNatClampNeg) := inb_of Q562.2.1 ⟨(own_b2 ra2).1, (own_b2 ra2).2⟩
    obtain ⟨T568, h568, X568, e568, W568, st568⟩ := stI X566 hx hZ R566 Q562.1 (j := a2) hin568 (g := (mkF m 279 #[.val (.ref a), .val (.ref ow), .val (.ref pa), .val (.ref la), .val (.ref ls), .val (.ref ly), .val (.int (1 : Int32)), .val (.int (2 : Int32))] [(.int r_566), (.int a2), (.ref b58)])) rfl rfl (hb hby own_ctor_d279)
    have N569 := Fr.snoc X568 N566 gn_b58
    have KP570 : Keep h0 h568 [a] := KP555.wr W568 (Or.inr gh_b58)
    obtain ⟨cs568, sc568⟩ := own_scrSet Q562 hin568 W568
    refine ownStep st568 ?_
    refine ownStep (fun _ k => XS.iinc X568.here hx rfl (hb hby own_ctor_d280) rfl (l' := #[.val (.ref a), .val (.ref ow), .val (.ref pa), .val (.ref la), .val (.ref ls), .val (.ref ly), .val (.int (1 : Int32)), .val (.int (1 : Int32))]) rfl k) ?_
    refine ownStep (fun _ k => XS.goto X568.here hx rfl (pc0 := 283) (pc' := 219) rfl (hb hby own_ctor_d283) (by decide) (by decide) k) ?_
    refine ownStep (fun _ k => XS.iload X568.here hx rfl (hb hby own_ctor_d219) rfl  k) ?_
    refine ownStep (fun _ k => XS.ifNo X568.here hx rfl (hb hby own_ctor_d221) rfl ((if0 _ _).trans (tlt (by decide : (0 : Int32) < (1 : Int32))).2.2.2) k) ?_
    show ownGo p.tables e below (T568.setTop (mkF m 224 #[.val (.ref a), .val (.ref ow), .val (.ref pa), .val (.ref la), .val (.ref ls), .val (.ref ly), .val (.int (1 : Int32)), .val (.int (1 : Int32))] [])) _
    refine ownStep (fun _ k => XS.aloadN X568.here hx rfl (hb hby own_ctor_d224) rfl rfl k) ?_
    show ownGo p.tables e below (T568.setTop (mkF m 225 #[.val (.ref a), .val (.ref ow), .val (.ref pa), .val (.ref la), .val (.ref ls), .val (.ref ly), .val (.int (1 : Int32)), .val (.int (1 : Int32))] [(.ref a)])) _
    have Q571 : Fld Z h568 a "com/example/adept_layout/adeptlayout/layout/Nesting" "first" "[I" (.ref b48) := ((Q541.other W553 (Or.inl ne102)).other W568 (Or.inl ne113))
    obtain ⟨T572, X572, e572, st572⟩ := getF X568 hx hZ hown (host := "") (Or.inl (hw _ (List.mem_of_getElem? (i := 46) rfl))) Via.refl e568 Q571 (g := (mkF m 225 #[.val (.ref a), .val (.ref ow), .val (.ref pa), .val (.ref la), .val (.ref ls), .val (.ref ly), .val (.int (1 : Int32)), .val (.int (1 : Int32))] [(.ref a)])) rfl rfl (hb hby own_ctor_d225)
    refine ownStep st572 ?_
    refine ownStep (fun _ k => XS.aloadN X572.here hx rfl (hb hby own_ctor_d228) rfl rfl k) ?_
    refine ownStep (fun _ k => XS.iload X572.here hx rfl (hb hby own_ctor_d229) rfl  k) ?_
    show ownGo p.tables e below (T572.setTop (mkF m 231 #[.val (.ref a), .val (.ref ow), .val (.ref pa), .val (.ref la), .val (.ref ls), .val (.ref ly), .val (.int (1 : Int32)), .val (.int (1 : Int32))] [(.int (1 : Int32)), (.ref pa), (.ref b48)])) _
    have Q574 : Arv Z h568 pa kp .int (5 : Int32) [(.int (-1 : Int32)), (.int (0 : Int32)), (.int a2), (.int a3), (.int a4)] (.int (0 : Int32)) := (Q559.other W568 ne125)
    have Vo573 := Q574
    obtain ⟨cl573, Ar573, q573, S573, N573, H573, G573⟩ := Vo573
    have hin573 : ¬ ((1 : Int32) < 0 ∨ cl573.slots.size ≤ ((1 : Int32)).toNatClampNeg) := inb_of S573 ⟨by decide, by decide⟩
    refine ownStep (X572.iaload hx (j := (1 : Int32)) (v := (.int (0 : Int32))) (by rw [e572]; exact Ar573.1) (State.isArrayOf_alike hZ.alike Ar573.2.1) Ar573.2.2 hin573 (H573.at hin573 rfl) (g := (mkF m 231 #[.val (.ref a), .val (.ref ow), .val (.ref pa), .val (.ref la), .val (.ref ls), .val (.ref ly), .val (.int (1 : Int32)), .val (.int (1 : Int32))] [(.int (1 : Int32)), (.ref pa), (.ref b48)])) rfl rfl (hb hby own_ctor_d231)) ?_
    refine ownStep (fun _ k => XS.aloadN X572.here hx rfl (hb hby own_ctor_d232) rfl rfl k) ?_
    show ownGo p.tables e below (T572.setTop (mkF m 233 #[.val (.ref a), .val (.ref ow), .val (.ref pa), .val (.ref la), .val (.ref ls), .val (.ref ly), .val (.int (1 : Int32)), .val (.int (1 : Int32))] [(.ref a), (.int (0 : Int32)), (.ref b48)])) _
    obtain ⟨T575, X575, e575, st575⟩ := getF X572 hx hZ hown (host := "") (Or.inl (hw _ (List.mem_of_getElem? (i := 46) rfl))) Via.refl e572 Q571 (g := (mkF m 233 #[.val (.ref a), .val (.ref ow), .val (.ref pa), .val (.ref la), .val (.ref ls), .val (.ref ly), .val (.int (1 : Int32)), .val (.int (1 : Int32))] [(.ref a), (.int (0 : Int32)), (.ref b48)])) rfl rfl (hb hby own_ctor_d233)
    refine ownStep st575 ?_
    refine ownStep (fun _ k => XS.aloadN X575.here hx rfl (hb hby own_ctor_d236) rfl rfl k) ?_
    refine ownStep (fun _ k => XS.iload X575.here hx rfl (hb hby own_ctor_d237) rfl  k) ?_
    show ownGo p.tables e below (T575.setTop (mkF m 239 #[.val (.ref a), .val (.ref ow), .val (.ref pa), .val (.ref la), .val (.ref ls), .val (.ref ly), .val (.int (1 : Int32)), .val (.int (1 : Int32))] [(.int (1 : Int32)), (.ref pa), (.ref b48), (.int (0 : Int32)), (.ref b48)])) _
    have Vo576 := Q574
    obtain ⟨cl576, Ar576, q576, S576, N576, H576, G576⟩ := Vo576
    have hin576 : ¬ ((1 : Int32) < 0 ∨ cl576.slots.size ≤ ((1 : Int32)).toNatClampNeg) := inb_of S576 ⟨by decide, by decide⟩
    refine ownStep (X575.iaload hx (j := (1 : Int32)) (v := (.int (0 : Int32))) (by rw [e575]; exact Ar576.1) (State.isArrayOf_alike hZ.alike Ar576.2.1) Ar576.2.2 hin576 (H576.at hin576 rfl) (g := (mkF m 239 #[.val (.ref a), .val (.ref ow), .val (.ref pa), .val (.ref la), .val (.ref ls), .val (.ref ly), .val (.int (1 : Int32)), .val (.int (1 : Int32))] [(.int (1 : Int32)), (.ref pa), (.ref b48), (.int (0 : Int32)), (.ref b48)])) rfl rfl (hb hby own_ctor_d239)) ?_
    show ownGo p.tables e below (T575.setTop (mkF m 240 #[.val (.ref a), .val (.ref ow), .val (.ref pa), .val (.ref la), .val (.ref ls), .val (.ref ly), .val (.int (1 : Int32)), .val (.int (1 : Int32))] [(.int (0 : Int32)), (.ref b48), (.int (0 : Int32)), (.ref b48)])) _
    have Q577 : Scr Z h568 b48 cs553 (5 : Int32) := (sc553.other W568 ne116)
    have hin578 : ¬ ((0 : Int32) < 0 ∨ cs553.slots.size ≤ ((0 : Int32)).toNatClampNeg) := inb_of Q577.2.1 ⟨(by decide), (by decide)⟩
    refine ownStep (X575.iaload hx (j := (0 : Int32)) (v := (.int (atv cs553 (0 : Int32)))) (by rw [e575]; exact Q577.1.1) (State.isArrayOf_alike hZ.alike Q577.1.2.1) Q577.1.2.2 hin578 (Q577.2.2.2 _ hin578) (g := (mkF m 240 #[.val (.ref a), .val (.ref ow), .val (.ref pa), .val (.ref la), .val (.ref ls), .val (.ref ly), .val (.int (1 : Int32)), .val (.int (1 : Int32))] [(.int (0 : Int32)), (.ref b48), (.int (0 : Int32)), (.ref b48)])) rfl rfl (hb hby own_ctor_d240)) ?_
    refine ownStep (fun _ k => XS.aloadN X575.here hx rfl (hb hby own_ctor_d241) rfl rfl k) ?_
    show ownGo p.tables e below (T575.setTop (mkF m 242 #[.val (.ref a), .val (.ref ow), .val (.ref pa), .val (.ref la), .val (.ref ls), .val (.ref ly), .val (.int (1 : Int32)), .val (.int (1 : Int32))] [(.ref a), (.int (atv cs553 (0 : Int32))), (.int (0 : Int32)), (.ref b48)])) _
    obtain ⟨T579, X579, e579, st579⟩ := getF X575 hx hZ hown (host := "") (Or.inl (hw _ (List.mem_of_getElem? (i := 46) rfl))) Via.refl e575 Q571 (g := (mkF m 242 #[.val (.ref a), .val (.ref ow), .val (.ref pa), .val (.ref la), .val (.ref ls), .val (.ref ly), .val (.int (1 : Int32)), .val (.int (1 : Int32))] [(.ref a), (.int (atv cs553 (0 : Int32))), (.int (0 : Int32)), (.ref b48)])) rfl rfl (hb hby own_ctor_d242)
    refine ownStep st579 ?_
    refine ownStep (fun _ k => XS.iload X579.here hx rfl (hb hby own_ctor_d245) rfl  k) ?_
    show ownGo p.tables e below (T579.setTop (mkF m 247 #[.val (.ref a), .val (.ref ow), .val (.ref pa), .val (.ref la), .val (.ref ls), .val (.ref ly), .val (.int (1 : Int32)), .val (.int (1 : Int32))] [(.int (1 : Int32)), (.ref b48), (.int (atv cs553 (0 : Int32))), (.int (0 : Int32)), (.ref b48)])) _
    have hin580 : ¬ ((1 : Int32) < 0 ∨ cs553.slots.size ≤ ((1 : Int32)).toNatClampNeg) := inb_of Q577.2.1 ⟨(by decide), (by decide)⟩
    refine ownStep (X579.iaload hx (j := (1 : Int32)) (v := (.int (atv cs553 (1 : Int32)))) (by rw [e579]; exact Q577.1.1) (State.isArrayOf_alike hZ.alike Q577.1.2.1) Q577.1.2.2 hin580 (Q577.2.2.2 _ hin580) (g := (mkF m 247 #[.val (.ref a), .val (.ref ow), .val (.ref pa), .val (.ref la), .val (.ref ls), .val (.ref ly), .val (.int (1 : Int32)), .val (.int (1 : Int32))] [(.int (1 : Int32)), (.ref b48), (.int (atv cs553 (0 : Int32))), (.int (0 : Int32)), (.ref b48)])) rfl rfl (hb hby own_ctor_d247)) ?_
    show ownGo p.tables e below (T579.setTop (mkF m 248 #[.val (.ref a), .val (.ref ow), .val (.ref pa), .val (.ref la), .val (.ref ls), .val (.ref ly), .val (.int (1 : Int32)), .val (.int (1 : Int32))] [(.int (atv cs553 (1 : Int32))), (.int (atv cs553 (0 : Int32))), (.int (0 : Int32)), (.ref b48)])) _
    have Zs582 : n0 ≤ h568.size := Nat.le_trans Z0 KP570.1
    obtain ⟨_, _, ⟨T581, L581, k581, n581⟩, -, X581, ⟨Lc581, hQ581, l581, y581, z581⟩, st581⟩ := Jvm.LawKit.callS X579 hx (y := (⟨"java/lang/Math", "min", "(II)I"⟩ : MethodName)) hown (mvT hZ (hw _ (List.mem_of_getElem? (i := 115) rfl))) (mvT hZ (hw _ (List.mem_of_getElem? (i := 116) rfl))) (mvT hZ (hw _ (List.mem_of_getElem? (i := 80) rfl))) (mvT hZ (hw _ (List.mem_of_getElem? (i := 117) rfl))) (by decide) (backOf (W := 2) (own_mmin l Z a0 hw [] (atv cs553 (0 : Int32)) (atv cs553 (1 : Int32)) h568 n0 Zs582 ) hZ (hw _ (List.mem_of_getElem? (i := 117) rfl)) (hw _ (List.mem_of_getElem? (i := 80) rfl)) (by decide) (by decide)) (g := (mkF m 248 #[.val (.ref a), .val (.ref ow), .val (.ref pa), .val (.ref la), .val (.ref ls), .val (.ref ly), .val (.int (1 : Int32)), .val (.int (1 : Int32))] [(.int (atv cs553 (1 : Int32))), (.int (atv cs553 (0 : Int32))), (.int (0 : Int32)), (.ref b48)])) rfl (by rw [hml]; rfl) (argsL := [(.int (atv cs553 (0 : Int32))), (.int (atv cs553 (1 : Int32)))]) (rest := [(.int (0 : Int32)), (.ref b48)]) (lenOf own_ctor_pd2 rfl) rfl (by show 2 * 0 + _ ≤ _; exact Nat.le_of_eq rfl) (hb hby own_ctor_d248) (fun _ _ => ⟨rfl, e579, (by decide : 17 + 0 ≤ _), (by decide : 118 + 0 ≤ _)⟩)
    dsimp only [Pt.U, Pt.locs, Pt.cells, Pt.slots] at X581 l581 y581 z581 st581 hQ581
    obtain rfl : k581 = 17 := y581
    obtain rfl : n581 = 118 := z581
    obtain ⟨r_581, rfl, N581q, R581⟩ := hQ581
    have N581 : Fr n0 L581 := l581 ▸ Fr.app N569 N581q
    refine ownStep (fun _ k => st581 _ k) ?_
    show ownGo p.tables e below (T581.setTop (mkF m 251 #[.val (.ref a), .val (.ref ow), .val (.ref pa), .val (.ref la), .val (.ref ls), .val (.ref ly), .val (.int (1 : Int32)), .val (.int (1 : Int32))] [(.int r_581), (.int (0 : Int32)), (.ref b48)])) _
    have hin583 : ¬ ((0 : Int32) < 0 ∨ cs553.slots.size ≤ ((0 : Int32)).toNatClampNeg) := inb_of Q577.2.1 ⟨(by decide), (by decide)⟩
    obtain ⟨T583, h583, X583, e583, W583, st583⟩ := stI X581 hx hZ R581 Q577.1 (j := (0 : Int32)) hin583 (g := (mkF m 251 #[.val (.ref a), .val (.ref ow), .val (.ref pa), .val (.ref la), .val (.ref ls), .val (.ref ly), .val (.int (1 : Int32)), .val (.int (1 : Int32))] [(.int r_581), (.int (0 : Int32)), (.ref b48)])) rfl rfl (hb hby own_ctor_d251)
    have N584 := Fr.snoc X583 N581 gn_b48
    have KP585 : Keep h0 h583 [a] := KP570.wr W583 (Or.inr gh_b48)
    obtain ⟨cs583, sc583⟩ := own_scrSet Q577 hin583 W583
    refine ownStep st583 ?_
    refine ownStep (fun _ k => XS.aloadN X583.here hx rfl (hb hby own_ctor_d252) rfl rfl k) ?_
    show ownGo p.tables e below (T583.setTop (mkF m 253 #[.val (.ref a), .val (.ref ow), .val (.ref pa), .val (.ref la), .val (.ref ls), .val (.ref ly), .val (.int (1 : Int32)), .val (.int (1 : Int32))] [(.ref a)])) _
    have Q586 : Fld Z h583 a "com/example/adept_layout/adeptlayout/layout/Nesting" "last" "[I" (.ref b58) := ((Q556.other W568 (Or.inl ne113)).other W583 (Or.inl ne102))
    obtain ⟨T587, X587, e587, st587⟩ := getF X583 hx hZ hown (host := "") (Or.inl (hw _ (List.mem_of_getElem? (i := 48) rfl))) Via.refl e583 Q586 (g := (mkF m 253 #[.val (.ref a), .val (.ref ow), .val (.ref pa), .val (.ref la), .val (.ref ls), .val (.ref ly), .val (.int (1 : Int32)), .val (.int (1 : Int32))] [(.ref a)])) rfl rfl (hb hby own_ctor_d253)
    refine ownStep st587 ?_
    refine ownStep (fun _ k => XS.aloadN X587.here hx rfl (hb hby own_ctor_d256) rfl rfl k) ?_
    refine ownStep (fun _ k => XS.iload X587.here hx rfl (hb hby own_ctor_d257) rfl  k) ?_
    show ownGo p.tables e below (T587.setTop (mkF m 259 #[.val (.ref a), .val (.ref ow), .val (.ref pa), .val (.ref la), .val (.ref ls), .val (.ref ly), .val (.int (1 : Int32)), .val (.int (1 : Int32))] [(.int (1 : Int32)), (.ref pa), (.ref b58)])) _
    have Q589 : Arv Z h583 pa kp .int (5 : Int32) [(.int (-1 : Int32)), (.int (0 : Int32)), (.int a2), (.int a3), (.int a4)] (.int (0 : Int32)) := (Q574.other W583 ne124)
    have Vo588 := Q589
    obtain ⟨cl588, Ar588, q588, S588, N588, H588, G588⟩ := Vo588
    have hin588 : ¬ ((1 : Int32) < 0 ∨ cl588.slots.size ≤ ((1 : Int32)).toNatClampNeg) := inb_of S588 ⟨by decide, by decide⟩
    refine ownStep (X587.iaload hx (j := (1 : Int32)) (v := (.int (0 : Int32))) (by rw [e587]; exact Ar588.1) (State.isArrayOf_alike hZ.alike Ar588.2.1) Ar588.2.2 hin588 (H588.at hin588 rfl) (g := (mkF m 259 #[.val (.ref a), .val (.ref ow), .val (.ref pa), .val (.ref la), .val (.ref ls), .val (.ref ly), .val (.int (1 : Int32)), .val (.int (1 : Int32))] [(.int (1 : Int32)), (.ref pa), (.ref b58)])) rfl rfl (hb hby own_ctor_d259)) ?_
    refine ownStep (fun _ k => XS.aloadN X587.here hx rfl (hb hby own_ctor_d260) rfl rfl k) ?_
    show ownGo p.tables e below (T587.setTop (mkF m 261 #[.val (.ref a), .val (.ref ow), .val (.ref pa), .val (.ref la), .val (.ref ls), .val (.ref ly), .val (.int (1 : Int32)), .val (.int (1 : Int32))] [(.ref a), (.int (0 : Int32)), (.ref b58)])) _
    obtain ⟨T590, X590, e590, st590⟩ := getF X587 hx hZ hown (host := "") (Or.inl (hw _ (List.mem_of_getElem? (i := 48) rfl))) Via.refl e587 Q586 (g := (mkF m 261 #[.val (.ref a), .val (.ref ow), .val (.ref pa), .val (.ref la), .val (.ref ls), .val (.ref ly), .val (.int (1 : Int32)), .val (.int (1 : Int32))] [(.ref a), (.int (0 : Int32)), (.ref b58)])) rfl rfl (hb hby own_ctor_d261)
    refine ownStep st590 ?_
    refine ownStep (fun _ k => XS.aloadN X590.here hx rfl (hb hby own_ctor_d264) rfl rfl k) ?_
    refine ownStep (fun _ k => XS.iload X590.here hx rfl (hb hby own_ctor_d265) rfl  k) ?_
    show ownGo p.tables e below (T590.setTop (mkF m 267 #[.val (.ref a), .val (.ref ow), .val (.ref pa), .val (.ref la), .val (.ref ls), .val (.ref ly), .val (.int (1 : Int32)), .val (.int (1 : Int32))] [(.int (1 : Int32)), (.ref pa), (.ref b58), (.int (0 : Int32)), (.ref b58)])) _
    have Vo591 := Q589
    obtain ⟨cl591, Ar591, q591, S591, N591, H591, G591⟩ := Vo591
    have hin591 : ¬ ((1 : Int32) < 0 ∨ cl591.slots.size ≤ ((1 : Int32)).toNatClampNeg) := inb_of S591 ⟨by decide, by decide⟩
    refine ownStep (X590.iaload hx (j := (1 : Int32)) (v := (.int (0 : Int32))) (by rw [e590]; exact Ar591.1) (State.isArrayOf_alike hZ.alike Ar591.2.1) Ar591.2.2 hin591 (H591.at hin591 rfl) (g := (mkF m 267 #[.val (.ref a), .val (.ref ow), .val (.ref pa), .val (.ref la), .val (.ref ls), .val (.ref ly), .val (.int (1 : Int32)), .val (.int (1 : Int32))] [(.int (1 : Int32)), (.ref pa), (.ref b58), (.int (0 : Int32)), (.ref b58)])) rfl rfl (hb hby own_ctor_d267)) ?_
    show ownGo p.tables e below (T590.setTop (mkF m 268 #[.val (.ref a), .val (.ref ow), .val (.ref pa), .val (.ref la), .val (.ref ls), .val (.ref ly), .val (.int (1 : Int32)), .val (.int (1 : Int32))] [(.int (0 : Int32)), (.ref b58), (.int (0 : Int32)), (.ref b58)])) _
    have Q592 : Scr Z h583 b58 cs568 (5 : Int32) := (sc568.other W583 (Ne.symm ne116))
    have hin593 : ¬ ((0 : Int32) < 0 ∨ cs568.slots.size ≤ ((0 : Int32)).toNatClampNeg) := inb_of Q592.2.1 ⟨(by decide), (by decide)⟩
    refine ownStep (X590.iaload hx (j := (0 : Int32)) (v := (.int (atv cs568 (0 : Int32)))) (by rw [e590]; exact Q592.1.1) (State.isArrayOf_alike hZ.alike Q592.1.2.1) Q592.1.2.2 hin593 (Q592.2.2.2 _ hin593) (g := (mkF m 268 #[.val (.ref a), .val (.ref ow), .val (.ref pa), .val (.ref la), .val (.ref ls), .val (.ref ly), .val (.int (1 : Int32)), .val (.int (1 : Int32))] [(.int (0 : Int32)), (.ref b58), (.int (0 : Int32)), (.ref b58)])) rfl rfl (hb hby own_ctor_d268)) ?_
    refine ownStep (fun _ k => XS.aloadN X590.here hx rfl (hb hby own_ctor_d269) rfl rfl k) ?_
    show ownGo p.tables e below (T590.setTop (mkF m 270 #[.val (.ref a), .val (.ref ow), .val (.ref pa), .val (.ref la), .val (.ref ls), .val (.ref ly), .val (.int (1 : Int32)), .val (.int (1 : Int32))] [(.ref a), (.int (atv cs568 (0 : Int32))), (.int (0 : Int32)), (.ref b58)])) _
    obtain ⟨T594, X594, e594, st594⟩ := getF X590 hx hZ hown (host := "") (Or.inl (hw _ (List.mem_of_getElem? (i := 48) rfl))) Via.refl e590 Q586 (g := (mkF m 270 #[.val (.ref a), .val (.ref ow), .val (.ref pa), .val (.ref la), .val (.ref ls), .val (.ref ly), .val (.int (1 : Int32)), .val (.int (1 : Int32))] [(.ref a), (.int (atv cs568 (0 : Int32))), (.int (0 : Int32)), (.ref b58)])) rfl rfl (hb hby own_ctor_d270)
    refine ownStep st594 ?_
    refine ownStep (fun _ k => XS.iload X594.here hx rfl (hb hby own_ctor_d273) rfl  k) ?_
    show ownGo p.tables e below (T594.setTop (mkF m 275 #[.val (.ref a), .val (.ref ow), .val (.ref pa), .val (.ref la), .val (.ref ls), .val (.ref ly), .val (.int (1 : Int32)), .val (.int (1 : Int32))] [(.int (1 : Int32)), (.ref b58), (.int (atv cs568 (0 : Int32))), (.int (0 : Int32)), (.ref b58)])) _
    have hin595 : ¬ ((1 : Int32) < 0 ∨ cs568.slots.size ≤ ((1 : Int32)).toNatClampNeg) := inb_of Q592.2.1 ⟨(by decide), (by decide)⟩
    refine ownStep (X594.iaload hx (j := (1 : Int32)) (v := (.int (atv cs568 (1 : Int32)))) (by rw [e594]; exact Q592.1.1) (State.isArrayOf_alike hZ.alike Q592.1.2.1) Q592.1.2.2 hin595 (Q592.2.2.2 _ hin595) (g := (mkF m 275 #[.val (.ref a), .val (.ref ow), .val (.ref pa), .val (.ref la), .val (.ref ls), .val (.ref ly), .val (.int (1 : Int32)), .val (.int (1 : Int32))] [(.int (1 : Int32)), (.ref b58), (.int (atv cs568 (0 : Int32))), (.int (0 : Int32)), (.ref b58)])) rfl rfl (hb hby own_ctor_d275)) ?_
    show ownGo p.tables e below (T594.setTop (mkF m 276 #[.val (.ref a), .val (.ref ow), .val (.ref pa), .val (.ref la), .val (.ref ls), .val (.ref ly), .val (.int (1 : Int32)), .val (.int (1 : Int32))] [(.int (atv cs568 (1 : Int32))), (.int (atv cs568 (0 : Int32))), (.int (0 : Int32)), (.ref b58)])) _
    have Zs597 : n0 ≤ h583.size := Nat.le_trans Z0 KP585.1
    obtain ⟨_, _, ⟨T596, L596, k596, n596⟩, -, X596, ⟨Lc596, hQ596, l596, y596, z596⟩, st596⟩ := Jvm.LawKit.callS X594 hx (y := (⟨"java/lang/Math", "max", "(II)I"⟩ : MethodName)) hown (mvT hZ (hw _ (List.mem_of_getElem? (i := 118) rfl))) (mvT hZ (hw _ (List.mem_of_getElem? (i := 79) rfl))) (mvT hZ (hw _ (List.mem_of_getElem? (i := 80) rfl))) (mvT hZ (hw _ (List.mem_of_getElem? (i := 81) rfl))) (by decide) (backOf (W := 2) (own_mmax l Z a0 hw [] (atv cs568 (0 : Int32)) (atv cs568 (1 : Int32)) h583 n0 Zs597 ) hZ (hw _ (List.mem_of_getElem? (i := 81) rfl)) (hw _ (List.mem_of_getElem? (i := 80) rfl)) (by decide) (by decide)) (g := (mkF m 276 #[.val (.ref a), .val (.ref ow), .val (.ref pa), .val (.ref la), .val (.ref ls), .val (.ref ly), .val (.int (1 : Int32)), .val (.int (1 : Int32))] [(.int (atv cs568 (1 : Int32))), (.int (atv cs568 (0 : Int32))), (.int (0 : Int32)), (.ref b58)])) rfl (by rw [hml]; rfl) (argsL := [(.int (atv cs568 (0 : Int32))), (.int (atv cs568 (1 : Int32)))]) (rest := [(.int (0 : Int32)), (.ref b58)]) (lenOf own_ctor_pd2 rfl) rfl (by show 2 * 0 + _ ≤ _; exact Nat.le_of_eq rfl) (hb hby own_ctor_d276) (fun _ _ => ⟨rfl, e594, (by decide : 17 + 0 ≤ _), (by decide : 118 + 0 ≤ _)⟩)
    dsimp only [Pt.U, Pt.locs, Pt.cells, Pt.slots] at X596 l596 y596 z596 st596 hQ596
    obtain rfl : k596 = 17 := y596
    obtain rfl : n596 = 118 := z596
    obtain ⟨r_596, rfl, N596q, R596⟩ := hQ596
    have N596 : Fr n0 L596 := l596 ▸ Fr.app N584 N596q
    refine ownStep (fun _ k => st596 _ k) ?_
    show ownGo p.tables e below (T596.setTop (mkF m 279 #[.val (.ref a), .val (.ref ow), .val (.ref pa), .val (.ref la), .val (.ref ls), .val (.ref ly), .val (.int (1 : Int32)), .val (.int (1 : Int32))] [(.int r_596), (.int (0 : Int32)), (.ref b58)])) _
    have hin598 : ¬ ((0 : Int32) < 0 ∨ cs568.slots.size ≤ ((0 : Int32)).toNatClampNeg) := inb_of Q592.2.1 ⟨(by decide), (by decide)⟩
    obtain ⟨T598, h598, X598, e598, W598, st598⟩ := stI X596 hx hZ R596 Q592.1 (j := (0 : Int32)) hin598 (g := (mkF m 279 #[.val (.ref a), .val (.ref ow), .val (.ref pa), .val (.ref la), .val (.ref ls), .val (.ref ly), .val (.int (1 : Int32)), .val (.int (1 : Int32))] [(.int r_596), (.int (0 : Int32)), (.ref b58)])) rfl rfl (hb hby own_ctor_d279)
    have N599 := Fr.snoc X598 N596 gn_b58
    have KP600 : Keep h0 h598 [a] := KP585.wr W598 (Or.inr gh_b58)
    obtain ⟨cs598, sc598⟩ := own_scrSet Q592 hin598 W598
    refine ownStep st598 ?_
    refine ownStep (fun _ k => XS.iinc X598.here hx rfl (hb hby own_ctor_d280) rfl (l' := #[.val (.ref a), .val (.ref ow), .val (.ref pa), .val (.ref la), .val (.ref ls), .val (.ref ly), .val (.int (1 : Int32)), .val (.int (0 : Int32))]) rfl k) ?_
    refine ownStep (fun _ k => XS.goto X598.here hx rfl (pc0 := 283) (pc' := 219) rfl (hb hby own_ctor_d283) (by decide) (by decide) k) ?_
    refine ownStep (fun _ k => XS.iload X598.here hx rfl (hb hby own_ctor_d219) rfl  k) ?_
    refine ownStep (fun _ k => XS.ifYes X598.here hx rfl (pc0 := 221) (pc' := 286) rfl (hb hby own_ctor_d221) rfl ((if0 _ _).trans (flt (by decide : ¬ (0 : Int32) < (0 : Int32))).2.2.2) (by decide) (by decide) k) ?_
    show ownGo p.tables e below (T598.setTop (mkF m 286 #[.val (.ref a), .val (.ref ow), .val (.ref pa), .val (.ref la), .val (.ref ls), .val (.ref ly), .val (.int (1 : Int32)), .val (.int (0 : Int32))] [])) _
    refine ownStep (fun _ k => XS.aloadN X598.here hx rfl (hb hby own_ctor_d286) rfl rfl k) ?_
    show ownGo p.tables e below (T598.setTop (mkF m 287 #[.val (.ref a), .val (.ref ow), .val (.ref pa), .val (.ref la), .val (.ref ls), .val (.ref ly), .val (.int (1 : Int32)), .val (.int (0 : Int32))] [(.ref a)])) _
    have Q601 : Fld Z h598 a "com/example/adept_layout/adeptlayout/layout/Nesting" "first" "[I" (.ref b48) := ((Q571.other W583 (Or.inl ne102)).other W598 (Or.inl ne113))
    obtain ⟨T602, X602, e602, st602⟩ := getF X598 hx hZ hown (host := "") (Or.inl (hw _ (List.mem_of_getElem? (i := 46) rfl))) Via.refl e598 Q601 (g := (mkF m 287 #[.val (.ref a), .val (.ref ow), .val (.ref pa), .val (.ref la), .val (.ref ls), .val (.ref ly), .val (.int (1 : Int32)), .val (.int (0 : Int32))] [(.ref a)])) rfl rfl (hb hby own_ctor_d287)
    refine ownStep st602 ?_
    refine ownStep (fun _ k => XS.iconst X602.here hx rfl (hb hby own_ctor_d290) k) ?_
    refine ownStep (fun _ k => XS.iconst X602.here hx rfl (hb hby own_ctor_d291) k) ?_
    show ownGo p.tables e below (T602.setTop (mkF m 292 #[.val (.ref a), .val (.ref ow), .val (.ref pa), .val (.ref la), .val (.ref ls), .val (.ref ly), .val (.int (1 : Int32)), .val (.int (0 : Int32))] [(.int (0 : Int32)), (.int (0 : Int32)), (.ref b48)])) _
    have Q603 : Scr Z h598 b48 cs583 (5 : Int32) := (sc583.other W598 ne116)
    have hin604 : ¬ ((0 : Int32) < 0 ∨ cs583.slots.size ≤ ((0 : Int32)).toNatClampNeg) := inb_of Q603.2.1 ⟨(by decide), (by decide)⟩
    obtain ⟨T604, h604, X604, e604, W604, st604⟩ := stI X602 hx hZ e602 Q603.1 (j := (0 : Int32)) hin604 (g := (mkF m 292 #[.val (.ref a), .val (.ref ow), .val (.ref pa), .val (.ref la), .val (.ref ls), .val (.ref ly), .val (.int (1 : Int32)), .val (.int (0 : Int32))] [(.int (0 : Int32)), (.int (0 : Int32)), (.ref b48)])) rfl rfl (hb hby own_ctor_d292)
    have N605 := Fr.snoc X604 N599 gn_b48
    have KP606 : Keep h0 h604 [a] := KP600.wr W604 (Or.inr gh_b48)
    obtain ⟨cs604, sc604⟩ := own_scrSet Q603 hin604 W604
    refine ownStep st604 ?_
    refine ownStep (fun _ k => XS.aloadN X604.here hx rfl (hb hby own_ctor_d293) rfl rfl k) ?_
    show ownGo p.tables e below (T604.setTop (mkF m 294 #[.val (.ref a), .val (.ref ow), .val (.ref pa), .val (.ref la), .val (.ref ls), .val (.ref ly), .val (.int (1 : Int32)), .val (.int (0 : Int32))] [(.ref a)])) _
    have Q607 : Fld Z h604 a "com/example/adept_layout/adeptlayout/layout/Nesting" "last" "[I" (.ref b58) := ((Q586.other W598 (Or.inl ne113)).other W604 (Or.inl ne102))
    obtain ⟨T608, X608, e608, st608⟩ := getF X604 hx hZ hown (host := "") (Or.inl (hw _ (List.mem_of_getElem? (i := 48) rfl))) Via.refl e604 Q607 (g := (mkF m 294 #[.val (.ref a), .val (.ref ow), .val (.ref pa), .val (.ref la), .val (.ref ls), .val (.ref ly), .val (.int (1 : Int32)), .val (.int (0 : Int32))] [(.ref a)])) rfl rfl (hb hby own_ctor_d294)
    refine ownStep st608 ?_
    refine ownStep (fun _ k => XS.iconst X608.here hx rfl (hb hby own_ctor_d297) k) ?_
    refine ownStep (fun _ k => XS.iload X608.here hx rfl (hb hby own_ctor_d298) rfl  k) ?_
    refine ownStep (fun _ k => XS.iconst X608.here hx rfl (hb hby own_ctor_d300) k) ?_
    refine ownStep (fun _ k => XS.isub X608.here hx rfl (hb hby own_ctor_d301) rfl k) ?_
    show ownGo p.tables e below (T608.setTop (mkF m 302 #[.val (.ref a), .val (.ref ow), .val (.ref pa), .val (.ref la), .val (.ref ls), .val (.ref ly), .val (.int (1 : Int32)), .val (.int (0 : Int32))] [(.int (0 : Int32)), (.int (0 : Int32)), (.ref b58)])) _
    have Q609 : Scr Z h604 b58 cs598 (5 : Int32) := (sc598.other W604 (Ne.symm ne116))
    have hin610 : ¬ ((0 : Int32) < 0 ∨ cs598.slots.size ≤ ((0 : Int32)).toNatClampNeg) := inb_of Q609.2.1 ⟨(by decide), (by decide)⟩
    obtain ⟨T610, h610, X610, e610, W610, st610⟩ := stI X608 hx hZ e608 Q609.1 (j := (0 : Int32)) hin610 (g := (mkF m 302 #[.val (.ref a), .val (.ref ow), .val (.ref pa), .val (.ref la), .val (.ref ls), .val (.ref ly), .val (.int (1 : Int32)), .val (.int (0 : Int32))] [(.int (0 : Int32)), (.int (0 : Int32)), (.ref b58)])) rfl rfl (hb hby own_ctor_d302)
    have N611 := Fr.snoc X610 N605 gn_b58
    have KP612 : Keep h0 h610 [a] := KP606.wr W610 (Or.inr gh_b58)
    obtain ⟨cs610, sc610⟩ := own_scrSet Q609 hin610 W610
    refine ownStep st610 ?_
    refine ownStep (fun _ k => XS.iconst X610.here hx rfl (hb hby own_ctor_d303) k) ?_
    refine ownStep (fun _ k => XS.istore X610.here hx rfl (hb hby own_ctor_d304) rfl (l' := #[.val (.ref a), .val (.ref ow), .val (.ref pa), .val (.ref la), .val (.ref ls), .val (.ref ly), .val (.int (1 : Int32)), .val (.int (1 : Int32))]) rfl k) ?_
    refine ownStep (fun _ k => XS.iload X610.here hx rfl (hb hby own_ctor_d306) rfl  k) ?_
    refine ownStep (fun _ k => XS.aloadN X610.here hx rfl (hb hby own_ctor_d308) rfl rfl k) ?_
    show ownGo p.tables e below (T610.setTop (mkF m 309 #[.val (.ref a), .val (.ref ow), .val (.ref pa), .val (.ref la), .val (.ref ls), .val (.ref ly), .val (.int (1 : Int32)), .val (.int (1 : Int32))] [(.ref pa), (.int (1 : Int32))])) _
    have Q614 : Arv Z h610 pa kp .int (5 : Int32) [(.int (-1 : Int32)), (.int (0 : Int32)), (.int a2), (.int a3), (.int a4)] (.int (0 : Int32)) := (((Q589.other W598 ne125).other W604 ne124).other W610 ne125)
    have Vo613 := Q614
    obtain ⟨cl613, Ar613, q613, S613, N613, H613, G613⟩ := Vo613
    refine ownStep (X610.arraylength hx (by rw [e610]; exact Ar613.1) (State.isArrayOf_alike hZ.alike Ar613.2.1) (g := (mkF m 309 #[.val (.ref a), .val (.ref ow), .val (.ref pa), .val (.ref la), .val (.ref ls), .val (.ref ly), .val (.int (1 : Int32)), .val (.int (1 : Int32))] [(.ref pa), (.int (1 : Int32))])) rfl rfl (hb hby own_ctor_d309)) ?_
    rw [len_of S613 N613]
    refine ownStep (fun _ k => XS.icmpNo X610.here hx rfl (hb hby own_ctor_d310) rfl (tlt (by decide : (1 : Int32) < (5 : Int32))).2.1 k) ?_
    refine ownStep (fun _ k => XS.aloadN X610.here hx rfl (hb hby own_ctor_d313) rfl rfl k) ?_
    refine ownStep (fun _ k => XS.iload X610.here hx rfl (hb hby own_ctor_d314) rfl  k) ?_
    show ownGo p.tables e below (T610.setTop (mkF m 316 #[.val (.ref a), .val (.ref ow), .val (.ref pa), .val (.ref la), .val (.ref ls), .val (.ref ly), .val (.int (1 : Int32)), .val (.int (1 : Int32))] [(.int (1 : Int32)), (.ref la)])) _
    have Q616 : Arv Z h610 la kl .boolean (5 : Int32) [(.int (0 : Int32)), (.int (0 : Int32)), (.int (0 : Int32)), (.int (0 : Int32)), (.int (0 : Int32))] (.int (0 : Int32)) := (((((((((((((((Q373.keep KQ (ninS ne351 (ninS ne352 (ninS ne353 (ninS ne354 (ninS ne355 nin0)))))).other W429 ne370).other W444 ne371).other W460 ne370).other W475 ne371).other W493 ne370).other W508 ne371).other W523 ne370).other W538 ne371).other W553 ne370).other W568 ne371).other W583 ne370).other W598 ne371).other W604 ne370).other W610 ne371)
    have Vo615 := Q616
    obtain ⟨cl615, Ar615, q615, S615, N615, H615, G615⟩ := Vo615
    have hin615 : ¬ ((1 : Int32) < 0 ∨ cl615.slots.size ≤ ((1 : Int32)).toNatClampNeg) := inb_of S615 ⟨by decide, by decide⟩
    refine ownStep (X610.baloadBooleans hx (j := (1 : Int32)) (v := (.int (0 : Int32))) (by rw [e610]; exact Ar615.1) (State.isArrayOf_alike hZ.alike Ar615.2.1) Ar615.2.2 hin615 (H615.at hin615 rfl) (g := (mkF m 316 #[.val (.ref a), .val (.ref ow), .val (.ref pa), .val (.ref la), .val (.ref ls), .val (.ref ly), .val (.int (1 : Int32)), .val (.int (1 : Int32))] [(.int (1 : Int32)), (.ref la)])) rfl rfl (hb hby own_ctor_d316)) ?_
    refine ownStep (fun _ k => XS.ifYes X610.here hx rfl (pc0 := 317) (pc' := 352) rfl (hb hby own_ctor_d317) rfl ((if0 _ _).trans (teq (by decide : (0 : Int32) = (0 : Int32))).1) (by decide) (by decide) k) ?_
    refine ownStep (fun _ k => XS.iinc X610.here hx rfl (hb hby own_ctor_d352) rfl (l' := #[.val (.ref a), .val (.ref ow), .val (.ref pa), .val (.ref la), .val (.ref ls), .val (.ref ly), .val (.int (1 : Int32)), .val (.int (2 : Int32))]) rfl k) ?_
    refine ownStep (fun _ k => XS.goto X610.here hx rfl (pc0 := 355) (pc' := 306) rfl (hb hby own_ctor_d355) (by decide) (by decide) k) ?_
    refine ownStep (fun _ k => XS.iload X610.here hx rfl (hb hby own_ctor_d306) rfl  k) ?_
    show ownGo p.tables e below (T610.setTop (mkF m 308 #[.val (.ref a), .val (.ref ow), .val (.ref pa), .val (.ref la), .val (.ref ls), .val (.ref ly), .val (.int (1 : Int32)), .val (.int (2 : Int32))] [(.int (2 : Int32))])) _
    refine ownStep (fun _ k => XS.aloadN X610.here hx rfl (hb hby own_ctor_d308) rfl rfl k) ?_
    show ownGo p.tables e below (T610.setTop (mkF m 309 #[.val (.ref a), .val (.ref ow), .val (.ref pa), .val (.ref la), .val (.ref ls), .val (.ref ly), .val (.int (1 : Int32)), .val (.int (2 : Int32))] [(.ref pa), (.int (2 : Int32))])) _
    have Vo617 := Q614
    obtain ⟨cl617, Ar617, q617, S617, N617, H617, G617⟩ := Vo617
    refine ownStep (X610.arraylength hx (by rw [e610]; exact Ar617.1) (State.isArrayOf_alike hZ.alike Ar617.2.1) (g := (mkF m 309 #[.val (.ref a), .val (.ref ow), .val (.ref pa), .val (.ref la), .val (.ref ls), .val (.ref ly), .val (.int (1 : Int32)), .val (.int (2 : Int32))] [(.ref pa), (.int (2 : Int32))])) rfl rfl (hb hby own_ctor_d309)) ?_
    rw [len_of S617 N617]
    refine ownStep (fun _ k => XS.icmpNo X610.here hx rfl (hb hby own_ctor_d310) rfl (tlt (by decide : (2 : Int32) < (5 : Int32))).2.1 k) ?_
    refine ownStep (fun _ k => XS.aloadN X610.here hx rfl (hb hby own_ctor_d313) rfl rfl k) ?_
    refine ownStep (fun _ k => XS.iload X610.here hx rfl (hb hby own_ctor_d314) rfl  k) ?_
    show ownGo p.tables e below (T610.setTop (mkF m 316 #[.val (.ref a), .val (.ref ow), .val (.ref pa), .val (.ref la), .val (.ref ls), .val (.ref ly), .val (.int (1 : Int32)), .val (.int (2 : Int32))] [(.int (2 : Int32)), (.ref la)])) _
    have Vo618 := Q616
    obtain ⟨cl618, Ar618, q618, S618, N618, H618, G618⟩ := Vo618
    have hin618 : ¬ ((2 : Int32) < 0 ∨ cl618.slots.size ≤ ((2 : Int32)).toNatClampNeg) := inb_of S618 ⟨by decide, by decide⟩
    refine ownStep (X610.baloadBooleans hx (j := (2 : Int32)) (v := (.int (0 : Int32))) (by rw [e610]; exact Ar618.1) (State.isArrayOf_alike hZ.alike Ar618.2.1) Ar618.2.2 hin618 (H618.at hin618 rfl) (g := (mkF m 316 #[.val (.ref a), .val (.ref ow), .val (.ref pa), .val (.ref la), .val (.ref ls), .val (.ref ly), .val (.int (1 : Int32)), .val (.int (2 : Int32))] [(.int (2 : Int32)), (.ref la)])) rfl rfl (hb hby own_ctor_d316)) ?_
    refine ownStep (fun _ k => XS.ifYes X610.here hx rfl (pc0 := 317) (pc' := 352) rfl (hb hby own_ctor_d317) rfl ((if0 _ _).trans (teq (by decide : (0 : Int32) = (0 : Int32))).1) (by decide) (by decide) k) ?_
    refine ownStep (fun _ k => XS.iinc X610.here hx rfl (hb hby own_ctor_d352) rfl (l' := #[.val (.ref a), .val (.ref ow), .val (.ref pa), .val (.ref la), .val (.ref ls), .val (.ref ly), .val (.int (1 : Int32)), .val (.int (3 : Int32))]) rfl k) ?_
    refine ownStep (fun _ k => XS.goto X610.here hx rfl (pc0 := 355) (pc' := 306) rfl (hb hby own_ctor_d355) (by decide) (by decide) k) ?_
    refine ownStep (fun _ k => XS.iload X610.here hx rfl (hb hby own_ctor_d306) rfl  k) ?_
    show ownGo p.tables e below (T610.setTop (mkF m 308 #[.val (.ref a), .val (.ref ow), .val (.ref pa), .val (.ref la), .val (.ref ls), .val (.ref ly), .val (.int (1 : Int32)), .val (.int (3 : Int32))] [(.int (3 : Int32))])) _
    refine ownStep (fun _ k => XS.aloadN X610.here hx rfl (hb hby own_ctor_d308) rfl rfl k) ?_
    show ownGo p.tables e below (T610.setTop (mkF m 309 #[.val (.ref a), .val (.ref ow), .val (.ref pa), .val (.ref la), .val (.ref ls), .val (.ref ly), .val (.int (1 : Int32)), .val (.int (3 : Int32))] [(.ref pa), (.int (3 : Int32))])) _
    have Vo619 := Q614
    obtain ⟨cl619, Ar619, q619, S619, N619, H619, G619⟩ := Vo619
    refine ownStep (X610.arraylength hx (by rw [e610]; exact Ar619.1) (State.isArrayOf_alike hZ.alike Ar619.2.1) (g := (mkF m 309 #[.val (.ref a), .val (.ref ow), .val (.ref pa), .val (.ref la), .val (.ref ls), .val (.ref ly), .val (.int (1 : Int32)), .val (.int (3 : Int32))] [(.ref pa), (.int (3 : Int32))])) rfl rfl (hb hby own_ctor_d309)) ?_
    rw [len_of S619 N619]
    refine ownStep (fun _ k => XS.icmpNo X610.here hx rfl (hb hby own_ctor_d310) rfl (tlt (by decide : (3 : Int32) < (5 : Int32))).2.1 k) ?_
    refine ownStep (fun _ k => XS.aloadN X610.here hx rfl (hb hby own_ctor_d313) rfl rfl k) ?_
    refine ownStep (fun _ k => XS.iload X610.here hx rfl (hb hby own_ctor_d314) rfl  k) ?_
    show ownGo p.tables e below (T610.setTop (mkF m 316 #[.val (.ref a), .val (.ref ow), .val (.ref pa), .val (.ref la), .val (.ref ls), .val (.ref ly), .val (.int (1 : Int32)), .val (.int (3 : Int32))] [(.int (3 : Int32)), (.ref la)])) _
    have Vo620 := Q616
    obtain ⟨cl620, Ar620, q620, S620, N620, H620, G620⟩ := Vo620
    have hin620 : ¬ ((3 : Int32) < 0 ∨ cl620.slots.size ≤ ((3 : Int32)).toNatClampNeg) := inb_of S620 ⟨by decide, by decide⟩
    refine ownStep (X610.baloadBooleans hx (j := (3 : Int32)) (v := (.int (0 : Int32))) (by rw [e610]; exact Ar620.1) (State.isArrayOf_alike hZ.alike Ar620.2.1) Ar620.2.2 hin620 (H620.at hin620 rfl) (g := (mkF m 316 #[.val (.ref a), .val (.ref ow), .val (.ref pa), .val (.ref la), .val (.ref ls), .val (.ref ly), .val (.int (1 : Int32)), .val (.int (3 : Int32))] [(.int (3 : Int32)), (.ref la)])) rfl rfl (hb hby own_ctor_d316)) ?_
    refine ownStep (fun _ k => XS.ifYes X610.here hx rfl (pc0 := 317) (pc' := 352) rfl (hb hby own_ctor_d317) rfl ((if0 _ _).trans (teq (by decide : (0 : Int32) = (0 : Int32))).1) (by decide) (by decide) k) ?_
    refine ownStep (fun _ k => XS.iinc X610.here hx rfl (hb hby own_ctor_d352) rfl (l' := #[.val (.ref a), .val (.ref ow), .val (.ref pa), .val (.ref la), .val (.ref ls), .val (.ref ly), .val (.int (1 : Int32)), .val (.int (4 : Int32))]) rfl k) ?_
    refine ownStep (fun _ k => XS.goto X610.here hx rfl (pc0 := 355) (pc' := 306) rfl (hb hby own_ctor_d355) (by decide) (by decide) k) ?_
    refine ownStep (fun _ k => XS.iload X610.here hx rfl (hb hby own_ctor_d306) rfl  k) ?_
    show ownGo p.tables e below (T610.setTop (mkF m 308 #[.val (.ref a), .val (.ref ow), .val (.ref pa), .val (.ref la), .val (.ref ls), .val (.ref ly), .val (.int (1 : Int32)), .val (.int (4 : Int32))] [(.int (4 : Int32))])) _
    refine ownStep (fun _ k => XS.aloadN X610.here hx rfl (hb hby own_ctor_d308) rfl rfl k) ?_
    show ownGo p.tables e below (T610.setTop (mkF m 309 #[.val (.ref a), .val (.ref ow), .val (.ref pa), .val (.ref la), .val (.ref ls), .val (.ref ly), .val (.int (1 : Int32)), .val (.int (4 : Int32))] [(.ref pa), (.int (4 : Int32))])) _
    have Vo621 := Q614
    obtain ⟨cl621, Ar621, q621, S621, N621, H621, G621⟩ := Vo621
    refine ownStep (X610.arraylength hx (by rw [e610]; exact Ar621.1) (State.isArrayOf_alike hZ.alike Ar621.2.1) (g := (mkF m 309 #[.val (.ref a), .val (.ref ow), .val (.ref pa), .val (.ref la), .val (.ref ls), .val (.ref ly), .val (.int (1 : Int32)), .val (.int (4 : Int32))] [(.ref pa), (.int (4 : Int32))])) rfl rfl (hb hby own_ctor_d309)) ?_
    rw [len_of S621 N621]
    refine ownStep (fun _ k => XS.icmpNo X610.here hx rfl (hb hby own_ctor_d310) rfl (tlt (by decide : (4 : Int32) < (5 : Int32))).2.1 k) ?_
    refine ownStep (fun _ k => XS.aloadN X610.here hx rfl (hb hby own_ctor_d313) rfl rfl k) ?_
    refine ownStep (fun _ k => XS.iload X610.here hx rfl (hb hby own_ctor_d314) rfl  k) ?_
    show ownGo p.tables e below (T610.setTop (mkF m 316 #[.val (.ref a), .val (.ref ow), .val (.ref pa), .val (.ref la), .val (.ref ls), .val (.ref ly), .val (.int (1 : Int32)), .val (.int (4 : Int32))] [(.int (4 : Int32)), (.ref la)])) _
    have Vo622 := Q616
    obtain ⟨cl622, Ar622, q622, S622, N622, H622, G622⟩ := Vo622
    have hin622 : ¬ ((4 : Int32) < 0 ∨ cl622.slots.size ≤ ((4 : Int32)).toNatClampNeg) := inb_of S622 ⟨by decide, by decide⟩
    refine ownStep (X610.baloadBooleans hx (j := (4 : Int32)) (v := (.int (0 : Int32))) (by rw [e610]; exact Ar622.1) (State.isArrayOf_alike hZ.alike Ar622.2.1) Ar622.2.2 hin622 (H622.at hin622 rfl) (g := (mkF m 316 #[.val (.ref a), .val (.ref ow), .val (.ref pa), .val (.ref la), .val (.ref ls), .val (.ref ly), .val (.int (1 : Int32)), .val (.int (4 : Int32))] [(.int (4 : Int32)), (.ref la)])) rfl rfl (hb hby own_ctor_d316)) ?_
    refine ownStep (fun _ k => XS.ifYes X610.here hx rfl (pc0 := 317) (pc' := 352) rfl (hb hby own_ctor_d317) rfl ((if0 _ _).trans (teq (by decide : (0 : Int32) = (0 : Int32))).1) (by decide) (by decide) k) ?_
    refine ownStep (fun _ k => XS.iinc X610.here hx rfl (hb hby own_ctor_d352) rfl (l' := #[.val (.ref a), .val (.ref ow), .val (.ref pa), .val (.ref la), .val (.ref ls), .val (.ref ly), .val (.int (1 : Int32)), .val (.int (5 : Int32))]) rfl k) ?_
    refine ownStep (fun _ k => XS.goto X610.here hx rfl (pc0 := 355) (pc' := 306) rfl (hb hby own_ctor_d355) (by decide) (by decide) k) ?_
    refine ownStep (fun _ k => XS.iload X610.here hx rfl (hb hby own_ctor_d306) rfl  k) ?_
    show ownGo p.tables e below (T610.setTop (mkF m 308 #[.val (.ref a), .val (.ref ow), .val (.ref pa), .val (.ref la), .val (.ref ls), .val (.ref ly), .val (.int (1 : Int32)), .val (.int (5 : Int32))] [(.int (5 : Int32))])) _
    refine ownStep (fun _ k => XS.aloadN X610.here hx rfl (hb hby own_ctor_d308) rfl rfl k) ?_
    show ownGo p.tables e below (T610.setTop (mkF m 309 #[.val (.ref a), .val (.ref ow), .val (.ref pa), .val (.ref la), .val (.ref ls), .val (.ref ly), .val (.int (1 : Int32)), .val (.int (5 : Int32))] [(.ref pa), (.int (5 : Int32))])) _
    have Vo623 := Q614
    obtain ⟨cl623, Ar623, q623, S623, N623, H623, G623⟩ := Vo623
    refine ownStep (X610.arraylength hx (by rw [e610]; exact Ar623.1) (State.isArrayOf_alike hZ.alike Ar623.2.1) (g := (mkF m 309 #[.val (.ref a), .val (.ref ow), .val (.ref pa), .val (.ref la), .val (.ref ls), .val (.ref ly), .val (.int (1 : Int32)), .val (.int (5 : Int32))] [(.ref pa), (.int (5 : Int32))])) rfl rfl (hb hby own_ctor_d309)) ?_
    rw [len_of S623 N623]
    refine ownStep (fun _ k => XS.icmpYes X610.here hx rfl (pc0 := 310) (pc' := 358) rfl (hb hby own_ctor_d310) rfl (flt (by decide : ¬ (5 : Int32) < (5 : Int32))).2.1 (by decide) (by decide) k) ?_
    show ownGo p.tables e below (T610.setTop (mkF m 358 #[.val (.ref a), .val (.ref ow), .val (.ref pa), .val (.ref la), .val (.ref ls), .val (.ref ly), .val (.int (1 : Int32)), .val (.int (5 : Int32))] [])) _
    have Q624 : Fld Z h610 a "com/example/adept_layout/adeptlayout/layout/Nesting" "owner" "[I" (.ref ow) := (((((((((((((((Q381.keep KQ (ninS ne98 (ninS ne159 (ninS ne212 (ninS ne263 (ninS ne314 nin0)))))).other W429 (Or.inl ne102)).other W444 (Or.inl ne113)).other W460 (Or.inl ne102)).other W475 (Or.inl ne113)).other W493 (Or.inl ne102)).other W508 (Or.inl ne113)).other W523 (Or.inl ne102)).other W538 (Or.inl ne113)).other W553 (Or.inl ne102)).other W568 (Or.inl ne113)).other W583 (Or.inl ne102)).other W598 (Or.inl ne113)).other W604 (Or.inl ne102)).other W610 (Or.inl ne113))
    have Q625 : Fld Z h610 a "com/example/adept_layout/adeptlayout/layout/Nesting" "parent" "[I" (.ref pa) := (((((((((((((((Q382.keep KQ (ninS ne98 (ninS ne159 (ninS ne212 (ninS ne263 (ninS ne314 nin0)))))).other W429 (Or.inl ne102)).other W444 (Or.inl ne113)).other W460 (Or.inl ne102)).other W475 (Or.inl ne113)).other W493 (Or.inl ne102)).other W508 (Or.inl ne113)).other W523 (Or.inl ne102)).other W538 (Or.inl ne113)).other W553 (Or.inl ne102)).other W568 (Or.inl ne113)).other W583 (Or.inl ne102)).other W598 (Or.inl ne113)).other W604 (Or.inl ne102)).other W610 (Or.inl ne113))
    exact ownRet X610 (v := none) Bd.notSynchronized (fun _ => rfl) (fun _ hr => X610.returnOut hx Bd.returns (hb hby own_ctor_d358) hr) (by rw [e610]; exact ⟨rfl, N611, KP612, Q624, Q625⟩) (by decide) (by decide)
  have J4 : ∀ (Tj : State) (Lj : List Loc) (Xj : Stand p l e ({ frames := 5, cells := 17, slots := 118, locals := 69 } : Room) s m #[(.ref a), (.ref ow), (.ref pa), (.ref la), (.ref ls), (.ref ly), (.int (1 : Int32))] below meth c Tj Lj 16 108) (hj : Heap) (ej : Tj.heap = hj) (Nj : Fr n0 Lj) (KQ : Keep h329 hj [b70, b129, b185, b236, b287]) (CHj : own_CH Z h329.size ed (3 : Int32) hj (own_c5 b70 b129 b185 b236 b287)), ownGo p.tables e below (Tj.setTop (mkF m 105 #[.val (.ref a), .val (.ref ow), .val (.ref pa), .val (.ref la), .val (.ref ls), .val (.ref ly), .val (.int (1 : Int32)), .val (.int (4 : Int32))] [])) (ownEnd below s (own_ctor_Q Z ed kd ca clc a ow pa la ls ly ko kp kl ky a2 a3 a4 o0 o1 h0 n0) ({ frames := 5, cells := 17, slots := 118, locals := 69 } : Room).cells ({ frames := 5, cells := 17, slots := 118, locals := 69 } : Room).slots) := by
    intro Tj Lj Xj hj ej Nj KQ CHj
    have KP626 : Keep h0 hj [a] := KP331.trans KQ (allS (Or.inr gh_b70) (allS (Or.inr gh_b129) (allS (Or.inr gh_b185) (allS (Or.inr gh_b236) (allS (Or.inr gh_b287) all0)))))
    refine ownStep (fun _ k => XS.iload Xj.here hx rfl (hb hby own_ctor_d105) rfl  k) ?_
    refine ownStep (fun _ k => XS.aloadN Xj.here hx rfl (hb hby own_ctor_d107) rfl rfl k) ?_
    show ownGo p.tables e below (Tj.setTop (mkF m 108 #[.val (.ref a), .val (.ref ow), .val (.ref pa), .val (.ref la), .val (.ref ls), .val (.ref ly), .val (.int (1 : Int32)), .val (.int (4 : Int32))] [(.ref pa), (.int (4 : Int32))])) _
    have Q628 : Arv Z hj pa kp .int (5 : Int32) [(.int (-1 : Int32)), (.int (0 : Int32)), (.int a2), (.int a3), (.int a4)] (.int (0 : Int32)) := (Q335.keep KQ (ninS ne123 (ninS ne180 (ninS ne232 (ninS ne283 (ninS ne334 nin0))))))
    have Vo627 := Q628
    obtain ⟨cl627, Ar627, q627, S627, N627, H627, G627⟩ := Vo627
    refine ownStep (Xj.arraylength hx (by rw [ej]; exact Ar627.1) (State.isArrayOf_alike hZ.alike Ar627.2.1) (g := (mkF m 108 #[.val (.ref a), .val (.ref ow), .val (.ref pa), .val (.ref la), .val (.ref ls), .val (.ref ly), .val (.int (1 : Int32)), .val (.int (4 : Int32))] [(.ref pa), (.int (4 : Int32))])) rfl rfl (hb hby own_ctor_d108)) ?_
    rw [len_of S627 N627]
    refine ownStep (fun _ k => XS.icmpNo Xj.here hx rfl (hb hby own_ctor_d109) rfl (tlt (by decide : (4 : Int32) < (5 : Int32))).2.1 k) ?_
    refine ownStep (fun _ k => XS.aloadN Xj.here hx rfl (hb hby own_ctor_d112) rfl rfl k) ?_
    show ownGo p.tables e below (Tj.setTop (mkF m 113 #[.val (.ref a), .val (.ref ow), .val (.ref pa), .val (.ref la), .val (.ref ls), .val (.ref ly), .val (.int (1 : Int32)), .val (.int (4 : Int32))] [(.ref a)])) _
    have Q629 : Fld Z hj a "com/example/adept_layout/adeptlayout/layout/Nesting" "children" "Ljava/util/List;" (.ref b2) := (Q380.keep KQ (ninS ne98 (ninS ne159 (ninS ne212 (ninS ne263 (ninS ne314 nin0))))))
    obtain ⟨T630, X630, e630, st630⟩ := getF Xj hx hZ hown (host := "") (Or.inl (hw _ (List.mem_of_getElem? (i := 36) rfl))) Via.refl ej Q629 (g := (mkF m 113 #[.val (.ref a), .val (.ref ow), .val (.ref pa), .val (.ref la), .val (.ref ls), .val (.ref ly), .val (.int (1 : Int32)), .val (.int (4 : Int32))] [(.ref a)])) rfl rfl (hb hby own_ctor_d113)
    refine ownStep st630 ?_
    refine ownStep (fun _ k => XS.aloadN X630.here hx rfl (hb hby own_ctor_d116) rfl rfl k) ?_
    refine ownStep (fun _ k => XS.iload X630.here hx rfl (hb hby own_ctor_d117) rfl  k) ?_
    show ownGo p.tables e below (T630.setTop (mkF m 119 #[.val (.ref a), .val (.ref ow), .val (.ref pa), .val (.ref la), .val (.ref ls), .val (.ref ly), .val (.int (1 : Int32)), .val (.int (4 : Int32))] [(.int (4 : Int32)), (.ref pa), (.ref b2)])) _
    have Vo631 := Q628
    obtain ⟨cl631, Ar631, q631, S631, N631, H631, G631⟩ := Vo631
    have hin631 : ¬ ((4 : Int32) < 0 ∨ cl631.slots.size ≤ ((4 : Int32)).toNatClampNeg) := inb_of S631 ⟨by decide, by decide⟩
    refine ownStep (X630.iaload hx (j := (4 : Int32)) (v := (.int a4)) (by rw [e630]; exact Ar631.1) (State.isArrayOf_alike hZ.alike Ar631.2.1) Ar631.2.2 hin631 (H631.at hin631 rfl) (g := (mkF m 119 #[.val (.ref a), .val (.ref ow), .val (.ref pa), .val (.ref la), .val (.ref ls), .val (.ref ly), .val (.int (1 : Int32)), .val (.int (4 : Int32))] [(.int (4 : Int32)), (.ref pa), (.ref b2)])) rfl rfl (hb hby own_ctor_d119)) ?_
    show ownGo p.tables e below (T630.setTop (mkF m 120 #[.val (.ref a), .val (.ref ow), .val (.ref pa), .val (.ref la), .val (.ref ls), .val (.ref ly), .val (.int (1 : Int32)), .val (.int (4 : Int32))] [(.int a4), (.ref b2)])) _
    rcases ra4 with rfl | rfl | rfl | rfl
    · skip
      show ownGo p.tables e below (T630.setTop (mkF m 120 #[.val (.ref a), .val (.ref ow), .val (.ref pa), .val (.ref la), .val (.ref ls), .val (.ref ly), .val (.int (1 : Int32)), .val (.int (4 : Int32))] [(.int (0 : Int32)), (.ref b2)])) _
      have Q632 : Exa Z hj b2 "java/util/ArrayList" := (Q379.keep KQ)
      have Q633 : Fld Z hj b2 "java/util/ArrayList" "elementData" "[Ljava/lang/Object;" (.ref dd_89) := (Q407.keep KQ (ninS ne85 (ninS ne144 (ninS ne199 (ninS ne250 (ninS ne301 nin0))))))
      have Q634 : Fld Z hj b2 "java/util/ArrayList" "size" "I" (.int (5 : Int32)) := (Q408.keep KQ (ninS ne85 (ninS ne144 (ninS ne199 (ninS ne250 (ninS ne301 nin0))))))
      have Q635 : Arv Z hj dd_89 kk_89 (.object "java/lang/Object") (10 : Int32) [(.ref b70), (.ref b129), (.ref b185), (.ref b236), (.ref b287), .null, .null, .null, .null, .null] .null := (Q410.keep KQ (ninS (Ne.symm ne361) (ninS ne150 (ninS ne203 (ninS ne254 (ninS ne305 nin0))))))
      have Zs637 : n0 ≤ hj.size := Nat.le_trans Z0 KP626.1
      obtain ⟨cq636, kq636, q636a, q636b, q636c⟩ := isOf hZ e630 Q632
      obtain ⟨_, _, ⟨T636, L636, k636, n636⟩, -, X636, ⟨Lc636, hQ636, l636, y636, z636⟩, st636⟩ := X630.interfaceBack hx (xi := (⟨"java/util/List", "get", "(I)Ljava/lang/Object;"⟩ : MethodName)) (y := (⟨"java/util/ArrayList", "get", "(I)Ljava/lang/Object;"⟩ : MethodName)) hown (mvT hZ (hw _ (List.mem_of_getElem? (i := 85) rfl))) (mvT hZ (hw _ (List.mem_of_getElem? (i := 86) rfl))) (mvT hZ (hw _ (List.mem_of_getElem? (i := 87) rfl))) (mvT hZ (hw _ (List.mem_of_getElem? (i := 88) rfl))) (mvT hZ (hw _ (List.mem_of_getElem? (i := 89) rfl))) (mvT hZ (hw _ (List.mem_of_getElem? (i := 90) rfl))) (mvT hZ (hw _ (List.mem_of_getElem? (i := 91) rfl))) (mvT hZ (hw _ (List.mem_of_getElem? (i := 57) rfl))) (by decide) (backOf (W := 0) (own_al_get_5_0 l Z a0 hw [] b2 dd_89 kk_89 (.ref b129) (.ref b185) (.ref b236) (.ref b287) b70 hj n0 Zs637 Q632 Q633 Q634 Q635) hZ (hw _ (List.mem_of_getElem? (i := 92) rfl)) (hw _ (List.mem_of_getElem? (i := 14) rfl)) (by decide) (by decide)) q636a q636b q636c (g := (mkF m 120 #[.val (.ref a), .val (.ref ow), .val (.ref pa), .val (.ref la), .val (.ref ls), .val (.ref ly), .val (.int (1 : Int32)), .val (.int (4 : Int32))] [(.int (0 : Int32)), (.ref b2)])) rfl (by rw [hml]; rfl) (Steps.refl _) (argsL := [(.int (0 : Int32))]) (rest := []) (lenOf own_ctor_pd3 rfl) rfl (by show 2 * 0 + _ ≤ _; exact Nat.le_of_eq rfl) (hb hby own_ctor_d120) (fun _ _ => ⟨rfl, e630, (by decide : 16 + 0 ≤ _), (by decide : 108 + 0 ≤ _)⟩)
      dsimp only [Pt.U, Pt.locs, Pt.cells, Pt.slots] at X636 l636 y636 z636 st636 hQ636
      obtain rfl : k636 = 16 := y636
      obtain rfl : n636 = 108 := z636
      obtain ⟨rfl, N636q, R636⟩ := hQ636
      have N636 : Fr n0 L636 := l636 ▸ Fr.app Nj N636q
      refine ownStep (fun _ k => st636.trans k) ?_
      show ownGo p.tables e below (T636.setTop (mkF m 125 #[.val (.ref a), .val (.ref ow), .val (.ref pa), .val (.ref la), .val (.ref ls), .val (.ref ly), .val (.int (1 : Int32)), .val (.int (4 : Int32))] [(.ref b70)])) _
      obtain ⟨dq, ⟨Eq, Feq, ⟨mq, Fmq⟩, Dq⟩, back⟩ := own_CH_at (m' := (4 : Int32)) CHj own_cs own_hb own_edh KQ.1 (own_mono (by decide)) (0 : Fin 5)
      have Eq' : Exa Z hj b70 "java/util/ArrayList" := Eq
      obtain ⟨T638, X638, e638, st638⟩ := castY X636 hx hZ hown (hw _ (List.mem_of_getElem? (i := 106) rfl)) R636 (Ins.of_exa Eq' (hw _ (List.mem_of_getElem? (i := 57) rfl))) (g := (mkF m 125 #[.val (.ref a), .val (.ref ow), .val (.ref pa), .val (.ref la), .val (.ref ls), .val (.ref ly), .val (.int (1 : Int32)), .val (.int (4 : Int32))] [(.ref b70)])) rfl rfl (hb hby own_ctor_d125)
      refine ownStep st638 ?_
      refine ownStep (fun _ k => XS.iload X638.here hx rfl (hb hby own_ctor_d128) rfl  k) ?_
      show ownGo p.tables e below (T638.setTop (mkF m 130 #[.val (.ref a), .val (.ref ow), .val (.ref pa), .val (.ref la), .val (.ref ls), .val (.ref ly), .val (.int (1 : Int32)), .val (.int (4 : Int32))] [(.int (4 : Int32)), (.ref b70)])) _
      have Q639 : Old Z n0 hj := (Q362.keep KQ (allS gn_b70 (allS gn_b129 (allS gn_b185 (allS gn_b236 (allS gn_b287 all0))))))
      have Zs641 : n0 ≤ hj.size := Nat.le_trans Z0 KP626.1
      obtain ⟨_, _, ⟨T640, L640, k640, n640⟩, -, X640, ⟨Lc640, hQ640, l640, y640, z640⟩, st640⟩ := Jvm.LawKit.callS X638 hx (y := (⟨"java/lang/Integer", "valueOf", "(I)Ljava/lang/Integer;"⟩ : MethodName)) hown (mvT hZ (hw _ (List.mem_of_getElem? (i := 107) rfl))) (mvT hZ (hw _ (List.mem_of_getElem? (i := 108) rfl))) (mvT hZ (hw _ (List.mem_of_getElem? (i := 109) rfl))) (mvT hZ (hw _ (List.mem_of_getElem? (i := 110) rfl))) (by decide) (backOf (W := 1) (own_val4 l Z a0 hw [] ed kd ca clc hj n0 Zs641 Q639 S V Sh Sc BX) hZ (hw _ (List.mem_of_getElem? (i := 110) rfl)) (hw _ (List.mem_of_getElem? (i := 109) rfl)) (by decide) (by decide)) (g := (mkF m 130 #[.val (.ref a), .val (.ref ow), .val (.ref pa), .val (.ref la), .val (.ref ls), .val (.ref ly), .val (.int (1 : Int32)), .val (.int (4 : Int32))] [(.int (4 : Int32)), (.ref b70)])) rfl (by rw [hml]; rfl) (argsL := [(.int (4 : Int32))]) (rest := [(.ref b70)]) (lenOf own_ctor_pd4 rfl) rfl (by show 2 * 0 + _ ≤ _; exact Nat.le_of_eq rfl) (hb hby own_ctor_d130) (fun _ _ => ⟨rfl, e638, (by decide : 16 + 0 ≤ _), (by decide : 108 + 0 ≤ _)⟩)
      dsimp only [Pt.U, Pt.locs, Pt.cells, Pt.slots] at X640 l640 y640 z640 st640 hQ640
      obtain rfl : k640 = 16 := y640
      obtain rfl : n640 = 108 := z640
      obtain ⟨r_640, rfl, N640q, R640, P642⟩ := hQ640
      have N640 : Fr n0 L640 := l640 ▸ Fr.app N636 N640q
      refine ownStep (fun _ k => st640 _ k) ?_
      rw [R640] at P642
      show ownGo p.tables e below (T640.setTop (mkF m 133 #[.val (.ref a), .val (.ref ow), .val (.ref pa), .val (.ref la), .val (.ref ls), .val (.ref ly), .val (.int (1 : Int32)), .val (.int (4 : Int32))] [(.ref r_640), (.ref b70)])) _
      rcases Dq with ⟨hdq, Fsq⟩ | ⟨gdq, nq, clq, Fsq, n1q, n2q, Aq, szq, Oq⟩
      · skip
        have Fmq' : Fld Z hj b70 "java/util/AbstractList" "modCount" "I" (.int mq) := Fmq
        have Feq' : Fld Z hj b70 "java/util/ArrayList" "elementData" "[Ljava/lang/Object;" (.ref ed) := hdq ▸ Feq
        have Fsq' : Fld Z hj b70 "java/util/ArrayList" "size" "I" (.int (0 : Int32)) := Fsq
        have Zs644 : n0 ≤ hj.size := Nat.le_trans Z0 KP626.1
        obtain ⟨cq643, kq643, q643a, q643b, q643c⟩ := isOf hZ R640 Eq'
        obtain ⟨_, _, ⟨T643, L643, k643, n643⟩, -, X643, ⟨Lc643, hQ643, l643, y643, z643⟩, st643⟩ := X640.interfaceBack hx (xi := (⟨"java/util/List", "add", "(Ljava/lang/Object;)Z"⟩ : MethodName)) (y := (⟨"java/util/ArrayList", "add", "(Ljava/lang/Object;)Z"⟩ : MethodName)) hown (mvT hZ (hw _ (List.mem_of_getElem? (i := 50) rfl))) (mvT hZ (hw _ (List.mem_of_getElem? (i := 51) rfl))) (mvT hZ (hw _ (List.mem_of_getElem? (i := 52) rfl))) (mvT hZ (hw _ (List.mem_of_getElem? (i := 53) rfl))) (mvT hZ (hw _ (List.mem_of_getElem? (i := 54) rfl))) (mvT hZ (hw _ (List.mem_of_getElem? (i := 55) rfl))) (mvT hZ (hw _ (List.mem_of_getElem? (i := 56) rfl))) (mvT hZ (hw _ (List.mem_of_getElem? (i := 57) rfl))) (by decide) (backOf (W := 0) (own_al_add_0 l Z a0 hw [] b70 ed kd mq r_640 hj n0 Zs644 Q639 S V Eq' Feq' Fsq' Fmq' gn_b70 (Ins.of_exa P642 (hw _ (List.mem_of_getElem? (i := 114) rfl)))) hZ (hw _ (List.mem_of_getElem? (i := 58) rfl)) (hw _ (List.mem_of_getElem? (i := 14) rfl)) (by decide) (by decide)) q643a q643b q643c (g := (mkF m 133 #[.val (.ref a), .val (.ref ow), .val (.ref pa), .val (.ref la), .val (.ref ls), .val (.ref ly), .val (.int (1 : Int32)), .val (.int (4 : Int32))] [(.ref r_640), (.ref b70)])) rfl (by rw [hml]; rfl) (Steps.refl _) (argsL := [(.ref r_640)]) (rest := []) (lenOf own_ctor_pd1 rfl) rfl (by show 2 * 0 + _ ≤ _; exact Nat.le_of_eq rfl) (hb hby own_ctor_d133) (fun _ _ => ⟨rfl, R640, (by decide : 16 + 1 ≤ _), (by decide : 108 + 10 ≤ _)⟩)
        dsimp only [Pt.U, Pt.locs, Pt.cells, Pt.slots] at X643 l643 y643 z643 st643 hQ643
        obtain rfl : k643 = 17 := y643
        obtain rfl : n643 = 118 := z643
        obtain ⟨dd_643, kk_643, rfl, N643q, R643, P645, P646, P647, P648, P649, P650⟩ := hQ643
        have N643 : Fr n0 L643 := l643 ▸ Fr.app N640 N643q
        have gh_dd_643 : h0.size ≤ dd_643 := Nat.le_trans KP626.1 P650
        have gn_dd_643 : n0 ≤ dd_643 := Nat.le_trans Z0 gh_dd_643
        refine ownStep (fun _ k => st643.trans k) ?_
        have KP651 : Keep h0 T643.heap [a] := KP626.trans R643 (allS (Or.inr gh_b70) all0)
        show ownGo p.tables e below (T643.setTop (mkF m 138 #[.val (.ref a), .val (.ref ow), .val (.ref pa), .val (.ref la), .val (.ref ls), .val (.ref ly), .val (.int (1 : Int32)), .val (.int (4 : Int32))] [(.int (1 : Int32))])) _
        have Q652 : Exa Z T643.heap b70 "java/util/ArrayList" := (Eq'.keep R643)
        have CH' := back _ dd_643 (Or.inl R643) (own_WL_first (by decide) (Nat.le_trans KQ.1 P650) Q652 P645 P647 P646 P648 P649) (Or.inr P650)
        have KQ' := KQ.trans R643 (allS (Or.inl (List.mem_of_getElem? (i := 0) rfl)) all0)
        refine ownStep (fun _ k => XS.pop X643.here hx rfl (hb hby own_ctor_d138) rfl rfl k) ?_
        refine ownStep (fun _ k => XS.iinc X643.here hx rfl (hb hby own_ctor_d139) rfl (l' := #[.val (.ref a), .val (.ref ow), .val (.ref pa), .val (.ref la), .val (.ref ls), .val (.ref ly), .val (.int (1 : Int32)), .val (.int (5 : Int32))]) rfl k) ?_
        refine ownStep (fun _ k => XS.goto X643.here hx rfl (pc0 := 142) (pc' := 105) rfl (hb hby own_ctor_d142) (by decide) (by decide) k) ?_
        show ownGo p.tables e below (T643.setTop (mkF m 105 #[.val (.ref a), .val (.ref ow), .val (.ref pa), .val (.ref la), .val (.ref ls), .val (.ref ly), .val (.int (1 : Int32)), .val (.int (5 : Int32))] [])) _
        exact J5 _ _ X643 _ rfl N643 KQ' CH'
      · skip
        have Fmq' : Fld Z hj b70 "java/util/AbstractList" "modCount" "I" (.int mq) := Fmq
        have Feq' : Fld Z hj b70 "java/util/ArrayList" "elementData" "[Ljava/lang/Object;" (.ref dq) := Feq
        have Fsq' : Fld Z hj b70 "java/util/ArrayList" "size" "I" (.int nq) := Fsq
        have gh_dq : h0.size ≤ dq := Nat.le_trans KP331.1 gdq
        have gn_dq : n0 ≤ dq := Nat.le_trans Z0 gh_dq
        have nadq : b70 ≠ dq := Nat.ne_of_lt (Nat.lt_of_lt_of_le (own_hb 0) gdq)
        have Zs654 : n0 ≤ hj.size := Nat.le_trans Z0 KP626.1
        obtain ⟨cq653, kq653, q653a, q653b, q653c⟩ := isOf hZ R640 Eq'
        obtain ⟨_, _, ⟨T653, L653, k653, n653⟩, -, X653, ⟨Lc653, hQ653, l653, y653, z653⟩, st653⟩ := X640.interfaceBack hx (xi := (⟨"java/util/List", "add", "(Ljava/lang/Object;)Z"⟩ : MethodName)) (y := (⟨"java/util/ArrayList", "add", "(Ljava/lang/Object;)Z"⟩ : MethodName)) hown (mvT hZ (hw _ (List.mem_of_getElem? (i := 50) rfl))) (mvT hZ (hw _ (List.mem_of_getElem? (i := 51) rfl))) (mvT hZ (hw _ (List.mem_of_getElem? (i := 52) rfl))) (mvT hZ (hw _ (List.mem_of_getElem? (i := 53) rfl))) (mvT hZ (hw _ (List.mem_of_getElem? (i := 54) rfl))) (mvT hZ (hw _ (List.mem_of_getElem? (i := 55) rfl))) (mvT hZ (hw _ (List.mem_of_getElem? (i := 56) rfl))) (mvT hZ (hw _ (List.mem_of_getElem? (i := 57) rfl))) (by decide) (backOf (W := 0) (own_al_addS l Z a0 hw [] b70 dq clq nq mq r_640 hj n0 Zs654 Eq' Feq' Fsq' Fmq' Aq szq Oq n1q (own_lt10 (by decide) n2q) gn_b70 gn_dq nadq (Ins.of_exa P642 (hw _ (List.mem_of_getElem? (i := 114) rfl)))) hZ (hw _ (List.mem_of_getElem? (i := 58) rfl)) (hw _ (List.mem_of_getElem? (i := 14) rfl)) (by decide) (by decide)) q653a q653b q653c (g := (mkF m 133 #[.val (.ref a), .val (.ref ow), .val (.ref pa), .val (.ref la), .val (.ref ls), .val (.ref ly), .val (.int (1 : Int32)), .val (.int (4 : Int32))] [(.ref r_640), (.ref b70)])) rfl (by rw [hml]; rfl) (Steps.refl _) (argsL := [(.ref r_640)]) (rest := []) (lenOf own_ctor_pd1 rfl) rfl (by show 2 * 0 + _ ≤ _; exact Nat.le_of_eq rfl) (hb hby own_ctor_d133) (fun _ _ => ⟨rfl, R640, (by decide : 16 + 1 ≤ _), (by decide : 108 + 10 ≤ _)⟩)
        dsimp only [Pt.U, Pt.locs, Pt.cells, Pt.slots] at X653 l653 y653 z653 st653 hQ653
        obtain rfl : k653 = 17 := y653
        obtain rfl : n653 = 118 := z653
        obtain ⟨rfl, N653q, R653, P655, P656, P657, P658⟩ := hQ653
        have N653 : Fr n0 L653 := l653 ▸ Fr.app N640 N653q
        refine ownStep (fun _ k => st653.trans k) ?_
        have KP659 : Keep h0 T653.heap [a] := KP626.trans R653 (allS (Or.inr gh_b70) (allS (Or.inr gh_dq) all0))
        show ownGo p.tables e below (T653.setTop (mkF m 138 #[.val (.ref a), .val (.ref ow), .val (.ref pa), .val (.ref la), .val (.ref ls), .val (.ref ly), .val (.int (1 : Int32)), .val (.int (4 : Int32))] [(.int (1 : Int32))])) _
        have Q660 : Exa Z T653.heap b70 "java/util/ArrayList" := (Eq'.keep R653)
        have CH' := back _ dq (Or.inr ⟨gdq, R653⟩) (own_WL_more n1q n2q (by decide) gdq szq Oq Q660 P655 P657 P656 P658) (Or.inl rfl)
        have KQ' := KQ.trans R653 (allS (Or.inl (List.mem_of_getElem? (i := 0) rfl)) (allS (Or.inr gdq) all0))
        refine ownStep (fun _ k => XS.pop X653.here hx rfl (hb hby own_ctor_d138) rfl rfl k) ?_
        refine ownStep (fun _ k => XS.iinc X653.here hx rfl (hb hby own_ctor_d139) rfl (l' := #[.val (.ref a), .val (.ref ow), .val (.ref pa), .val (.ref la), .val (.ref ls), .val (.ref ly), .val (.int (1 : Int32)), .val (.int (5 : Int32))]) rfl k) ?_
        refine ownStep (fun _ k => XS.goto X653.here hx rfl (pc0 := 142) (pc' := 105) rfl (hb hby own_ctor_d142) (by decide) (by decide) k) ?_
        show ownGo p.tables e below (T653.setTop (mkF m 105 #[.val (.ref a), .val (.ref ow), .val (.ref pa), .val (.ref la), .val (.ref ls), .val (.ref ly), .val (.int (1 : Int32)), .val (.int (5 : Int32))] [])) _
        exact J5 _ _ X653 _ rfl N653 KQ' CH'
    · skip
      show ownGo p.tables e below (T630.setTop (mkF m 120 #[.val (.ref a), .val (.ref ow), .val (.ref pa), .val (.ref la), .val (.ref ls), .val (.ref ly), .val (.int (1 : Int32)), .val (.int (4 : Int32))] [(.int (1 : Int32)), (.ref b2)])) _
      have Q661 : Exa Z hj b2 "java/util/ArrayList" := (Q379.keep KQ)
      have Q662 : Fld Z hj b2 "java/util/ArrayList" "elementData" "[Ljava/lang/Object;" (.ref dd_89) := (Q407.keep KQ (ninS ne85 (ninS ne144 (ninS ne199 (ninS ne250 (ninS ne301 nin0))))))
      have Q663 : Fld Z hj b2 "java/util/ArrayList" "size" "I" (.int (5 : Int32)) := (Q408.keep KQ (ninS ne85 (ninS ne144 (ninS ne199 (ninS ne250 (ninS ne301 nin0))))))
      have Q664 : Arv Z hj dd_89 kk_89 (.object "java/lang/Object") (10 : Int32) [(.ref b70), (.ref b129), (.ref b185), (.ref b236), (.ref b287), .null, .null, .null, .null, .null] .null := (Q410.keep KQ (ninS (Ne.symm ne361) (ninS ne150 (ninS ne203 (ninS ne254 (ninS ne305 nin0))))))
      have Zs666 : n0 ≤ hj.size := Nat.le_trans Z0 KP626.1
      obtain ⟨cq665, kq665, q665a, q665b, q665c⟩ := isOf hZ e630 Q661
      obtain ⟨_, _, ⟨T665, L665, k665, n665⟩, -, X665, ⟨Lc665, hQ665, l665, y665, z665⟩, st665⟩ := X630.interfaceBack hx (xi := (⟨"java/util/List", "get", "(I)Ljava/lang/Object;"⟩ : MethodName)) (y := (⟨"java/util/ArrayList", "get", "(I)Ljava/lang/Object;"⟩ : MethodName)) hown (mvT hZ (hw _ (List.mem_of_getElem? (i := 85) rfl))) (mvT hZ (hw _ (List.mem_of_getElem? (i := 86) rfl))) (mvT hZ (hw _ (List.mem_of_getElem? (i := 87) rfl))) (mvT hZ (hw _ (List.mem_of_getElem? (i := 88) rfl))) (mvT hZ (hw _ (List.mem_of_getElem? (i := 89) rfl))) (mvT hZ (hw _ (List.mem_of_getElem? (i := 90) rfl))) (mvT hZ (hw _ (List.mem_of_getElem? (i := 91) rfl))) (mvT hZ (hw _ (List.mem_of_getElem? (i := 57) rfl))) (by decide) (backOf (W := 0) (own_al_get_5_1 l Z a0 hw [] b2 dd_89 kk_89 (.ref b70) (.ref b185) (.ref b236) (.ref b287) b129 hj n0 Zs666 Q661 Q662 Q663 Q664) hZ (hw _ (List.mem_of_getElem? (i := 92) rfl)) (hw _ (List.mem_of_getElem? (i := 14) rfl)) (by decide) (by decide)) q665a q665b q665c (g := (mkF m 120 #[.val (.ref a), .val (.ref ow), .val (.ref pa), .val (.ref la), .val (.ref ls), .val (.ref ly), .val (.int (1 : Int32)), .val (.int (4 : Int32))] [(.int (1 : Int32)), (.ref b2)])) rfl (by rw [hml]; rfl) (Steps.refl _) (argsL := [(.int (1 : Int32))]) (rest := []) (lenOf own_ctor_pd3 rfl) rfl (by show 2 * 0 + _ ≤ _; exact Nat.le_of_eq rfl) (hb hby own_ctor_d120) (fun _ _ => ⟨rfl, e630, (by decide : 16 + 0 ≤ _), (by decide : 108 + 0 ≤ _)⟩)
      dsimp only [Pt.U, Pt.locs, Pt.cells, Pt.slots] at X665 l665 y665 z665 st665 hQ665
      obtain rfl : k665 = 16 := y665
      obtain rfl : n665 = 108 := z665
      obtain ⟨rfl, N665q, R665⟩ := hQ665
      have N665 : Fr n0 L665 := l665 ▸ Fr.app Nj N665q
      refine ownStep (fun _ k => st665.trans k) ?_
      show ownGo p.tables e below (T665.setTop (mkF m 125 #[.val (.ref a), .val (.ref ow), .val (.ref pa), .val (.ref la), .val (.ref ls), .val (.ref ly), .val (.int (1 : Int32)), .val (.int (4 : Int32))] [(.ref b129)])) _
      obtain ⟨dq, ⟨Eq, Feq, ⟨mq, Fmq⟩, Dq⟩, back⟩ := own_CH_at (m' := (4 : Int32)) CHj own_cs own_hb own_edh KQ.1 (own_mono (by decide)) (1 : Fin 5)
      have Eq' : Exa Z hj b129 "java/util/ArrayList" := Eq
      obtain ⟨T667, X667, e667, st667⟩ := castY X665 hx hZ hown (hw _ (List.mem_of_getElem? (i := 106) rfl)) R665 (Ins.of_exa Eq' (hw _ (List.mem_of_getElem? (i := 57) rfl))) (g := (mkF m 125 #[.val (.ref a), .val (.ref ow), .val (.ref pa), .val (.ref la), .val (.ref ls), .val (.ref ly), .val (.int (1 : Int32)), .val (.int (4 : Int32))] [(.ref b129)])) rfl rfl (hb hby own_ctor_d125)
      refine ownStep st667 ?_
      refine ownStep (fun _ k => XS.iload X667.here hx rfl (hb hby own_ctor_d128) rfl  k) ?_
      show ownGo p.tables e below (T667.setTop (mkF m 130 #[.val (.ref a), .val (.ref ow), .val (.ref pa), .val (.ref la), .val (.ref ls), .val (.ref ly), .val (.int (1 : Int32)), .val (.int (4 : Int32))] [(.int (4 : Int32)), (.ref b129)])) _
      have Q668 : Old Z n0 hj := (Q362.keep KQ (allS gn_b70 (allS gn_b129 (allS gn_b185 (allS gn_b236 (allS gn_b287 all0))))))
      have Zs670 : n0 ≤ hj.size := Nat.le_trans Z0 KP626.1
      obtain ⟨_, _, ⟨T669, L669, k669, n669⟩, -, X669, ⟨Lc669, hQ669, l669, y669, z669⟩, st669⟩ := Jvm.LawKit.callS X667 hx (y := (⟨"java/lang/Integer", "valueOf", "(I)Ljava/lang/Integer;"⟩ : MethodName)) hown (mvT hZ (hw _ (List.mem_of_getElem? (i := 107) rfl))) (mvT hZ (hw _ (List.mem_of_getElem? (i := 108) rfl))) (mvT hZ (hw _ (List.mem_of_getElem? (i := 109) rfl))) (mvT hZ (hw _ (List.mem_of_getElem? (i := 110) rfl))) (by decide) (backOf (W := 1) (own_val4 l Z a0 hw [] ed kd ca clc hj n0 Zs670 Q668 S V Sh Sc BX) hZ (hw _ (List.mem_of_getElem? (i := 110) rfl)) (hw _ (List.mem_of_getElem? (i := 109) rfl)) (by decide) (by decide)) (g := (mkF m 130 #[.val (.ref a), .val (.ref ow), .val (.ref pa), .val (.ref la), .val (.ref ls), .val (.ref ly), .val (.int (1 : Int32)), .val (.int (4 : Int32))] [(.int (4 : Int32)), (.ref b129)])) rfl (by rw [hml]; rfl) (argsL := [(.int (4 : Int32))]) (rest := [(.ref b129)]) (lenOf own_ctor_pd4 rfl) rfl (by show 2 * 0 + _ ≤ _; exact Nat.le_of_eq rfl) (hb hby own_ctor_d130) (fun _ _ => ⟨rfl, e667, (by decide : 16 + 0 ≤ _), (by decide : 108 + 0 ≤ _)⟩)
      dsimp only [Pt.U, Pt.locs, Pt.cells, Pt.slots] at X669 l669 y669 z669 st669 hQ669
      obtain rfl : k669 = 16 := y669
      obtain rfl : n669 = 108 := z669
      obtain ⟨r_669, rfl, N669q, R669, P671⟩ := hQ669
      have N669 : Fr n0 L669 := l669 ▸ Fr.app N665 N669q
      refine ownStep (fun _ k => st669 _ k) ?_
      rw [R669] at P671
      show ownGo p.tables e below (T669.setTop (mkF m 133 #[.val (.ref a), .val (.ref ow), .val (.ref pa), .val (.ref la), .val (.ref ls), .val (.ref ly), .val (.int (1 : Int32)), .val (.int (4 : Int32))] [(.ref r_669), (.ref b129)])) _
      rcases Dq with ⟨hdq, Fsq⟩ | ⟨gdq, nq, clq, Fsq, n1q, n2q, Aq, szq, Oq⟩
      · skip
        have Fmq' : Fld Z hj b129 "java/util/AbstractList" "modCount" "I" (.int mq) := Fmq
        have Feq' : Fld Z hj b129 "java/util/ArrayList" "elementData" "[Ljava/lang/Object;" (.ref ed) := hdq ▸ Feq
        have Fsq' : Fld Z hj b129 "java/util/ArrayList" "size" "I" (.int (0 : Int32)) := Fsq
        have Zs673 : n0 ≤ hj.size := Nat.le_trans Z0 KP626.1
        obtain ⟨cq672, kq672, q672a, q672b, q672c⟩ := isOf hZ R669 Eq'
        obtain ⟨_, _, ⟨T672, L672, k672, n672⟩, -, X672, ⟨Lc672, hQ672, l672, y672, z672⟩, st672⟩ := X669.interfaceBack hx (xi := (⟨"java/util/List", "add", "(Ljava/lang/Object;)Z"⟩ : MethodName)) (y := (⟨"java/util/ArrayList", "add", "(Ljava/lang/Object;)Z"⟩ : MethodName)) hown (mvT hZ (hw _ (List.mem_of_getElem? (i := 50) rfl))) (mvT hZ (hw _ (List.mem_of_getElem? (i := 51) rfl))) (mvT hZ (hw _ (List.mem_of_getElem? (i := 52) rfl))) (mvT hZ (hw _ (List.mem_of_getElem? (i := 53) rfl))) (mvT hZ (hw _ (List.mem_of_getElem? (i := 54) rfl))) (mvT hZ (hw _ (List.mem_of_getElem? (i := 55) rfl))) (mvT hZ (hw _ (List.mem_of_getElem? (i := 56) rfl))) (mvT hZ (hw _ (List.mem_of_getElem? (i := 57) rfl))) (by decide) (backOf (W := 0) (own_al_add_0 l Z a0 hw [] b129 ed kd mq r_669 hj n0 Zs673 Q668 S V Eq' Feq' Fsq' Fmq' gn_b129 (Ins.of_exa P671 (hw _ (List.mem_of_getElem? (i := 114) rfl)))) hZ (hw _ (List.mem_of_getElem? (i := 58) rfl)) (hw _ (List.mem_of_getElem? (i := 14) rfl)) (by decide) (by decide)) q672a q672b q672c (g := (mkF m 133 #[.val (.ref a), .val (.ref ow), .val (.ref pa), .val (.ref la), .val (.ref ls), .val (.ref ly), .val (.int (1 : Int32)), .val (.int (4 : Int32))] [(.ref r_669), (.ref b129)])) rfl (by rw [hml]; rfl) (Steps.refl _) (argsL := [(.ref r_669)]) (rest := []) (lenOf own_ctor_pd1 rfl) rfl (by show 2 * 0 + _ ≤ _; exact Nat.le_of_eq rfl) (hb hby own_ctor_d133) (fun _ _ => ⟨rfl, R669, (by decide : 16 + 1 ≤ _), (by decide : 108 + 10 ≤ _)⟩)
        dsimp only [Pt.U, Pt.locs, Pt.cells, Pt.slots] at X672 l672 y672 z672 st672 hQ672
        obtain rfl : k672 = 17 := y672
        obtain rfl : n672 = 118 := z672
        obtain ⟨dd_672, kk_672, rfl, N672q, R672, P674, P675, P676, P677, P678, P679⟩ := hQ672
        have N672 : Fr n0 L672 := l672 ▸ Fr.app N669 N672q
        have gh_dd_672 : h0.size ≤ dd_672 := Nat.le_trans KP626.1 P679
        have gn_dd_672 : n0 ≤ dd_672 := Nat.le_trans Z0 gh_dd_672
        refine ownStep (fun _ k => st672.trans k) ?_
        have KP680 : Keep h0 T672.heap [a] := KP626.trans R672 (allS (Or.inr gh_b129) all0)
        show ownGo p.tables e below (T672.setTop (mkF m 138 #[.val (.ref a), .val (.ref ow), .val (.ref pa), .val (.ref la), .val (.ref ls), .val (.ref ly), .val (.int (1 : Int32)), .val (.int (4 : Int32))] [(.int (1 : Int32))])) _
        have Q681 : Exa Z T672.heap b129 "java/util/ArrayList" := (Eq'.keep R672)
        have CH' := back _ dd_672 (Or.inl R672) (own_WL_first (by decide) (Nat.le_trans KQ.1 P679) Q681 P674 P676 P675 P677 P678) (Or.inr P679)
        have KQ' := KQ.trans R672 (allS (Or.inl (List.mem_of_getElem? (i := 1) rfl)) all0)
        refine ownStep (fun _ k => XS.pop X672.here hx rfl (hb hby own_ctor_d138) rfl rfl k) ?_
        refine ownStep (fun _ k => XS.iinc X672.here hx rfl (hb hby own_ctor_d139) rfl (l' := #[.val (.ref a), .val (.ref ow), .val (.ref pa), .val (.ref la), .val (.ref ls), .val (.ref ly), .val (.int (1 : Int32)), .val (.int (5 : Int32))]) rfl k) ?_
        refine ownStep (fun _ k => XS.goto X672.here hx rfl (pc0 := 142) (pc' := 105) rfl (hb hby own_ctor_d142) (by decide) (by decide) k) ?_
        show ownGo p.tables e below (T672.setTop (mkF m 105 #[.val (.ref a), .val (.ref ow), .val (.ref pa), .val (.ref la), .val (.ref ls), .val (.ref ly), .val (.int (1 : Int32)), .val (.int (5 : Int32))] [])) _
        exact J5 _ _ X672 _ rfl N672 KQ' CH'
      · skip
        have Fmq' : Fld Z hj b129 "java/util/AbstractList" "modCount" "I" (.int mq) := Fmq
        have Feq' : Fld Z hj b129 "java/util/ArrayList" "elementData" "[Ljava/lang/Object;" (.ref dq) := Feq
        have Fsq' : Fld Z hj b129 "java/util/ArrayList" "size" "I" (.int nq) := Fsq
        have gh_dq : h0.size ≤ dq := Nat.le_trans KP331.1 gdq
        have gn_dq : n0 ≤ dq := Nat.le_trans Z0 gh_dq
        have nadq : b129 ≠ dq := Nat.ne_of_lt (Nat.lt_of_lt_of_le (own_hb 1) gdq)
        have Zs683 : n0 ≤ hj.size := Nat.le_trans Z0 KP626.1
        obtain ⟨cq682, kq682, q682a, q682b, q682c⟩ := isOf hZ R669 Eq'
        obtain ⟨_, _, ⟨T682, L682, k682, n682⟩, -, X682, ⟨Lc682, hQ682, l682, y682, z682⟩, st682⟩ := X669.interfaceBack hx (xi := (⟨"java/util/List", "add", "(Ljava/lang/Object;)Z"⟩ : MethodName)) (y := (⟨"java/util/ArrayList", "add", "(Ljava/lang/Object;)Z"⟩ : MethodName)) hown (mvT hZ (hw _ (List.mem_of_getElem? (i := 50) rfl))) (mvT hZ (hw _ (List.mem_of_getElem? (i := 51) rfl))) (mvT hZ (hw _ (List.mem_of_getElem? (i := 52) rfl))) (mvT hZ (hw _ (List.mem_of_getElem? (i := 53) rfl))) (mvT hZ (hw _ (List.mem_of_getElem? (i := 54) rfl))) (mvT hZ (hw _ (List.mem_of_getElem? (i := 55) rfl))) (mvT hZ (hw _ (List.mem_of_getElem? (i := 56) rfl))) (mvT hZ (hw _ (List.mem_of_getElem? (i := 57) rfl))) (by decide) (backOf (W := 0) (own_al_addS l Z a0 hw [] b129 dq clq nq mq r_669 hj n0 Zs683 Eq' Feq' Fsq' Fmq' Aq szq Oq n1q (own_lt10 (by decide) n2q) gn_b129 gn_dq nadq (Ins.of_exa P671 (hw _ (List.mem_of_getElem? (i := 114) rfl)))) hZ (hw _ (List.mem_of_getElem? (i := 58) rfl)) (hw _ (List.mem_of_getElem? (i := 14) rfl)) (by decide) (by decide)) q682a q682b q682c (g := (mkF m 133 #[.val (.ref a), .val (.ref ow), .val (.ref pa), .val (.ref la), .val (.ref ls), .val (.ref ly), .val (.int (1 : Int32)), .val (.int (4 : Int32))] [(.ref r_669), (.ref b129)])) rfl (by rw [hml]; rfl) (Steps.refl _) (argsL := [(.ref r_669)]) (rest := []) (lenOf own_ctor_pd1 rfl) rfl (by show 2 * 0 + _ ≤ _; exact Nat.le_of_eq rfl) (hb hby own_ctor_d133) (fun _ _ => ⟨rfl, R669, (by decide : 16 + 1 ≤ _), (by decide : 108 + 10 ≤ _)⟩)
        dsimp only [Pt.U, Pt.locs, Pt.cells, Pt.slots] at X682 l682 y682 z682 st682 hQ682
        obtain rfl : k682 = 17 := y682
        obtain rfl : n682 = 118 := z682
        obtain ⟨rfl, N682q, R682, P684, P685, P686, P687⟩ := hQ682
        have N682 : Fr n0 L682 := l682 ▸ Fr.app N669 N682q
        refine ownStep (fun _ k => st682.trans k) ?_
        have KP688 : Keep h0 T682.heap [a] := KP626.trans R682 (allS (Or.inr gh_b129) (allS (Or.inr gh_dq) all0))
        show ownGo p.tables e below (T682.setTop (mkF m 138 #[.val (.ref a), .val (.ref ow), .val (.ref pa), .val (.ref la), .val (.ref ls), .val (.ref ly), .val (.int (1 : Int32)), .val (.int (4 : Int32))] [(.int (1 : Int32))])) _
        have Q689 : Exa Z T682.heap b129 "java/util/ArrayList" := (Eq'.keep R682)
        have CH' := back _ dq (Or.inr ⟨gdq, R682⟩) (own_WL_more n1q n2q (by decide) gdq szq Oq Q689 P684 P686 P685 P687) (Or.inl rfl)
        have KQ' := KQ.trans R682 (allS (Or.inl (List.mem_of_getElem? (i := 1) rfl)) (allS (Or.inr gdq) all0))
        refine ownStep (fun _ k => XS.pop X682.here hx rfl (hb hby own_ctor_d138) rfl rfl k) ?_
        refine ownStep (fun _ k => XS.iinc X682.here hx rfl (hb hby own_ctor_d139) rfl (l' := #[.val (.ref a), .val (.ref ow), .val (.ref pa), .val (.ref la), .val (.ref ls), .val (.ref ly), .val (.int (1 : Int32)), .val (.int (5 : Int32))]) rfl k) ?_
        refine ownStep (fun _ k => XS.goto X682.here hx rfl (pc0 := 142) (pc' := 105) rfl (hb hby own_ctor_d142) (by decide) (by decide) k) ?_
        show ownGo p.tables e below (T682.setTop (mkF m 105 #[.val (.ref a), .val (.ref ow), .val (.ref pa), .val (.ref la), .val (.ref ls), .val (.ref ly), .val (.int (1 : Int32)), .val (.int (5 : Int32))] [])) _
        exact J5 _ _ X682 _ rfl N682 KQ' CH'
    · skip
      show ownGo p.tables e below (T630.setTop (mkF m 120 #[.val (.ref a), .val (.ref ow), .val (.ref pa), .val (.ref la), .val (.ref ls), .val (.ref ly), .val (.int (1 : Int32)), .val (.int (4 : Int32))] [(.int (2 : Int32)), (.ref b2)])) _
      have Q690 : Exa Z hj b2 "java/util/ArrayList" := (Q379.keep KQ)
      have Q691 : Fld Z hj b2 "java/util/ArrayList" "elementData" "[Ljava/lang/Object;" (.ref dd_89) := (Q407.keep KQ (ninS ne85 (ninS ne144 (ninS ne199 (ninS ne250 (ninS ne301 nin0))))))
      have Q692 : Fld Z hj b2 "java/util/ArrayList" "size" "I" (.int (5 : Int32)) := (Q408.keep KQ (ninS ne85 (ninS ne144 (ninS ne199 (ninS ne250 (ninS ne301 nin0))))))
      have Q693 : Arv Z hj dd_89 kk_89 (.object "java/lang/Object") (10 : Int32) [(.ref b70), (.ref b129), (.ref b185), (.ref b236), (.ref b287), .null, .null, .null, .null, .null] .null := (Q410.keep KQ (ninS (Ne.symm ne361) (ninS ne150 (ninS ne203 (ninS ne254 (ninS ne305 nin0))))))
      have Zs695 : n0 ≤ hj.size := Nat.le_trans Z0 KP626.1
      obtain ⟨cq694, kq694, q694a, q694b, q694c⟩ := isOf hZ e630 Q690
      obtain ⟨_, _, ⟨T694, L694, k694, n694⟩, -, X694, ⟨Lc694, hQ694, l694, y694, z694⟩, st694⟩ := X630.interfaceBack hx (xi := (⟨"java/util/List", "get", "(I)Ljava/lang/Object;"⟩ : MethodName)) (y := (⟨"java/util/ArrayList", "get", "(I)Ljava/lang/Object;"⟩ : MethodName)) hown (mvT hZ (hw _ (List.mem_of_getElem? (i := 85) rfl))) (mvT hZ (hw _ (List.mem_of_getElem? (i := 86) rfl))) (mvT hZ (hw _ (List.mem_of_getElem? (i := 87) rfl))) (mvT hZ (hw _ (List.mem_of_getElem? (i := 88) rfl))) (mvT hZ (hw _ (List.mem_of_getElem? (i := 89) rfl))) (mvT hZ (hw _ (List.mem_of_getElem? (i := 90) rfl))) (mvT hZ (hw _ (List.mem_of_getElem? (i := 91) rfl))) (mvT hZ (hw _ (List.mem_of_getElem? (i := 57) rfl))) (by decide) (backOf (W := 0) (own_al_get_5_2 l Z a0 hw [] b2 dd_89 kk_89 (.ref b70) (.ref b129) (.ref b236) (.ref b287) b185 hj n0 Zs695 Q690 Q691 Q692 Q693) hZ (hw _ (List.mem_of_getElem? (i := 92) rfl)) (hw _ (List.mem_of_getElem? (i := 14) rfl)) (by decide) (by decide)) q694a q694b q694c (g := (mkF m 120 #[.val (.ref a), .val (.ref ow), .val (.ref pa), .val (.ref la), .val (.ref ls), .val (.ref ly), .val (.int (1 : Int32)), .val (.int (4 : Int32))] [(.int (2 : Int32)), (.ref b2)])) rfl (by rw [hml]; rfl) (Steps.refl _) (argsL := [(.int (2 : Int32))]) (rest := []) (lenOf own_ctor_pd3 rfl) rfl (by show 2 * 0 + _ ≤ _; exact Nat.le_of_eq rfl) (hb hby own_ctor_d120) (fun _ _ => ⟨rfl, e630, (by decide : 16 + 0 ≤ _), (by decide : 108 + 0 ≤ _)⟩)
      dsimp only [Pt.U, Pt.locs, Pt.cells, Pt.slots] at X694 l694 y694 z694 st694 hQ694
      obtain rfl : k694 = 16 := y694
      obtain rfl : n694 = 108 := z694
      obtain ⟨rfl, N694q, R694⟩ := hQ694
      have N694 : Fr n0 L694 := l694 ▸ Fr.app Nj N694q
      refine ownStep (fun _ k => st694.trans k) ?_
      show ownGo p.tables e below (T694.setTop (mkF m 125 #[.val (.ref a), .val (.ref ow), .val (.ref pa), .val (.ref la), .val (.ref ls), .val (.ref ly), .val (.int (1 : Int32)), .val (.int (4 : Int32))] [(.ref b185)])) _
      obtain ⟨dq, ⟨Eq, Feq, ⟨mq, Fmq⟩, Dq⟩, back⟩ := own_CH_at (m' := (4 : Int32)) CHj own_cs own_hb own_edh KQ.1 (own_mono (by decide)) (2 : Fin 5)
      have Eq' : Exa Z hj b185 "java/util/ArrayList" := Eq
      obtain ⟨T696, X696, e696, st696⟩ := castY X694 hx hZ hown (hw _ (List.mem_of_getElem? (i := 106) rfl)) R694 (Ins.of_exa Eq' (hw _ (List.mem_of_getElem? (i := 57) rfl))) (g := (mkF m 125 #[.val (.ref a), .val (.ref ow), .val (.ref pa), .val (.ref la), .val (.ref ls), .val (.ref ly), .val (.int (1 : Int32)), .val (.int (4 : Int32))] [(.ref b185)])) rfl rfl (hb hby own_ctor_d125)
      refine ownStep st696 ?_
      refine ownStep (fun _ k => XS.iload X696.here hx rfl (hb hby own_ctor_d128) rfl  k) ?_
      show ownGo p.tables e below (T696.setTop (mkF m 130 #[.val (.ref a), .val (.ref ow), .val (.ref pa), .val (.ref la), .val (.ref ls), .val (.ref ly), .val (.int (1 : Int32)), .val (.int (4 : Int32))] [(.int (4 : Int32)), (.ref b185)])) _
      have Q697 : Old Z n0 hj := (Q362.keep KQ (allS gn_b70 (allS gn_b129 (allS gn_b185 (allS gn_b236 (allS gn_b287 all0))))))
      have Zs699 : n0 ≤ hj.size := Nat.le_trans Z0 KP626.1
      obtain ⟨_, _, ⟨T698, L698, k698, n698⟩, -, X698, ⟨Lc698, hQ698, l698, y698, z698⟩, st698⟩ := Jvm.LawKit.callS X696 hx (y := (⟨"java/lang/Integer", "valueOf", "(I)Ljava/lang/Integer;"⟩ : MethodName)) hown (mvT hZ (hw _ (List.mem_of_getElem? (i := 107) rfl))) (mvT hZ (hw _ (List.mem_of_getElem? (i := 108) rfl))) (mvT hZ (hw _ (List.mem_of_getElem? (i := 109) rfl))) (mvT hZ (hw _ (List.mem_of_getElem? (i := 110) rfl))) (by decide) (backOf (W := 1) (own_val4 l Z a0 hw [] ed kd ca clc hj n0 Zs699 Q697 S V Sh Sc BX) hZ (hw _ (List.mem_of_getElem? (i := 110) rfl)) (hw _ (List.mem_of_getElem? (i := 109) rfl)) (by decide) (by decide)) (g := (mkF m 130 #[.val (.ref a), .val (.ref ow), .val (.ref pa), .val (.ref la), .val (.ref ls), .val (.ref ly), .val (.int (1 : Int32)), .val (.int (4 : Int32))] [(.int (4 : Int32)), (.ref b185)])) rfl (by rw [hml]; rfl) (argsL := [(.int (4 : Int32))]) (rest := [(.ref b185)]) (lenOf own_ctor_pd4 rfl) rfl (by show 2 * 0 + _ ≤ _; exact Nat.le_of_eq rfl) (hb hby own_ctor_d130) (fun _ _ => ⟨rfl, e696, (by decide : 16 + 0 ≤ _), (by decide : 108 + 0 ≤ _)⟩)
      dsimp only [Pt.U, Pt.locs, Pt.cells, Pt.slots] at X698 l698 y698 z698 st698 hQ698
      obtain rfl : k698 = 16 := y698
      obtain rfl : n698 = 108 := z698
      obtain ⟨r_698, rfl, N698q, R698, P700⟩ := hQ698
      have N698 : Fr n0 L698 := l698 ▸ Fr.app N694 N698q
      refine ownStep (fun _ k => st698 _ k) ?_
      rw [R698] at P700
      show ownGo p.tables e below (T698.setTop (mkF m 133 #[.val (.ref a), .val (.ref ow), .val (.ref pa), .val (.ref la), .val (.ref ls), .val (.ref ly), .val (.int (1 : Int32)), .val (.int (4 : Int32))] [(.ref r_698), (.ref b185)])) _
      rcases Dq with ⟨hdq, Fsq⟩ | ⟨gdq, nq, clq, Fsq, n1q, n2q, Aq, szq, Oq⟩
      · skip
        have Fmq' : Fld Z hj b185 "java/util/AbstractList" "modCount" "I" (.int mq) := Fmq
        have Feq' : Fld Z hj b185 "java/util/ArrayList" "elementData" "[Ljava/lang/Object;" (.ref ed) := hdq ▸ Feq
        have Fsq' : Fld Z hj b185 "java/util/ArrayList" "size" "I" (.int (0 : Int32)) := Fsq
        have Zs702 : n0 ≤ hj.size := Nat.le_trans Z0 KP626.1
        obtain ⟨cq701, kq701, q701a, q701b, q701c⟩ := isOf hZ R698 Eq'
        obtain ⟨_, _, ⟨T701, L701, k701, n701⟩, -, X701, ⟨Lc701, hQ701, l701, y701, z701⟩, st701⟩ := X698.interfaceBack hx (xi := (⟨"java/util/List", "add", "(Ljava/lang/Object;)Z"⟩ : MethodName)) (y := (⟨"java/util/ArrayList", "add", "(Ljava/lang/Object;)Z"⟩ : MethodName)) hown (mvT hZ (hw _ (List.mem_of_getElem? (i := 50) rfl))) (mvT hZ (hw _ (List.mem_of_getElem? (i := 51) rfl))) (mvT hZ (hw _ (List.mem_of_getElem? (i := 52) rfl))) (mvT hZ (hw _ (List.mem_of_getElem? (i := 53) rfl))) (mvT hZ (hw _ (List.mem_of_getElem? (i := 54) rfl))) (mvT hZ (hw _ (List.mem_of_getElem? (i := 55) rfl))) (mvT hZ (hw _ (List.mem_of_getElem? (i := 56) rfl))) (mvT hZ (hw _ (List.mem_of_getElem? (i := 57) rfl))) (by decide) (backOf (W := 0) (own_al_add_0 l Z a0 hw [] b185 ed kd mq r_698 hj n0 Zs702 Q697 S V Eq' Feq' Fsq' Fmq' gn_b185 (Ins.of_exa P700 (hw _ (List.mem_of_getElem? (i := 114) rfl)))) hZ (hw _ (List.mem_of_getElem? (i := 58) rfl)) (hw _ (List.mem_of_getElem? (i := 14) rfl)) (by decide) (by decide)) q701a q701b q701c (g := (mkF m 133 #[.val (.ref a), .val (.ref ow), .val (.ref pa), .val (.ref la), .val (.ref ls), .val (.ref ly), .val (.int (1 : Int32)), .val (.int (4 : Int32))] [(.ref r_698), (.ref b185)])) rfl (by rw [hml]; rfl) (Steps.refl _) (argsL := [(.ref r_698)]) (rest := []) (lenOf own_ctor_pd1 rfl) rfl (by show 2 * 0 + _ ≤ _; exact Nat.le_of_eq rfl) (hb hby own_ctor_d133) (fun _ _ => ⟨rfl, R698, (by decide : 16 + 1 ≤ _), (by decide : 108 + 10 ≤ _)⟩)
        dsimp only [Pt.U, Pt.locs, Pt.cells, Pt.slots] at X701 l701 y701 z701 st701 hQ701
        obtain rfl : k701 = 17 := y701
        obtain rfl : n701 = 118 := z701
        obtain ⟨dd_701, kk_701, rfl, N701q, R701, P703, P704, P705, P706, P707, P708⟩ := hQ701
        have N701 : Fr n0 L701 := l701 ▸ Fr.app N698 N701q
        have gh_dd_701 : h0.size ≤ dd_701 := Nat.le_trans KP626.1 P708
        have gn_dd_701 : n0 ≤ dd_701 := Nat.le_trans Z0 gh_dd_701
        refine ownStep (fun _ k => st701.trans k) ?_
        have KP709 : Keep h0 T701.heap [a] := KP626.trans R701 (allS (Or.inr gh_b185) all0)
        show ownGo p.tables e below (T701.setTop (mkF m 138 #[.val (.ref a), .val (.ref ow), .val (.ref pa), .val (.ref la), .val (.ref ls), .val (.ref ly), .val (.int (1 : Int32)), .val (.int (4 : Int32))] [(.int (1 : Int32))])) _
        have Q710 : Exa Z T701.heap b185 "java/util/ArrayList" := (Eq'.keep R701)
        have CH' := back _ dd_701 (Or.inl R701) (own_WL_first (by decide) (Nat.le_trans KQ.1 P708) Q710 P703 P705 P704 P706 P707) (Or.inr P708)
        have KQ' := KQ.trans R701 (allS (Or.inl (List.mem_of_getElem? (i := 2) rfl)) all0)
        refine ownStep (fun _ k => XS.pop X701.here hx rfl (hb hby own_ctor_d138) rfl rfl k) ?_
        refine ownStep (fun _ k => XS.iinc X701.here hx rfl (hb hby own_ctor_d139) rfl (l' := #[.val (.ref a), .val (.ref ow), .val (.ref pa), .val (.ref la), .val (.ref ls), .val (.ref ly), .val (.int (1 : Int32)), .val (.int (5 : Int32))]) rfl k) ?_
        refine ownStep (fun _ k => XS.goto X701.here hx rfl (pc0 := 142) (pc' := 105) rfl (hb hby own_ctor_d142) (by decide) (by decide) k) ?_
        show ownGo p.tables e below (T701.setTop (mkF m 105 #[.val (.ref a), .val (.ref ow), .val (.ref pa), .val (.ref la), .val (.ref ls), .val (.ref ly), .val (.int (1 : Int32)), .val (.int (5 : Int32))] [])) _
        exact J5 _ _ X701 _ rfl N701 KQ' CH'
      · skip
        have Fmq' : Fld Z hj b185 "java/util/AbstractList" "modCount" "I" (.int mq) := Fmq
        have Feq' : Fld Z hj b185 "java/util/ArrayList" "elementData" "[Ljava/lang/Object;" (.ref dq) := Feq
        have Fsq' : Fld Z hj b185 "java/util/ArrayList" "size" "I" (.int nq) := Fsq
        have gh_dq : h0.size ≤ dq := Nat.le_trans KP331.1 gdq
        have gn_dq : n0 ≤ dq := Nat.le_trans Z0 gh_dq
        have nadq : b185 ≠ dq := Nat.ne_of_lt (Nat.lt_of_lt_of_le (own_hb 2) gdq)
        have Zs712 : n0 ≤ hj.size := Nat.le_trans Z0 KP626.1
        obtain ⟨cq711, kq711, q711a, q711b, q711c⟩ := isOf hZ R698 Eq'
        obtain ⟨_, _, ⟨T711, L711, k711, n711⟩, -, X711, ⟨Lc711, hQ711, l711, y711, z711⟩, st711⟩ := X698.interfaceBack hx (xi := (⟨"java/util/List", "add", "(Ljava/lang/Object;)Z"⟩ : MethodName)) (y := (⟨"java/util/ArrayList", "add", "(Ljava/lang/Object;)Z"⟩ : MethodName)) hown (mvT hZ (hw _ (List.mem_of_getElem? (i := 50) rfl))) (mvT hZ (hw _ (List.mem_of_getElem? (i := 51) rfl))) (mvT hZ (hw _ (List.mem_of_getElem? (i := 52) rfl))) (mvT hZ (hw _ (List.mem_of_getElem? (i := 53) rfl))) (mvT hZ (hw _ (List.mem_of_getElem? (i := 54) rfl))) (mvT hZ (hw _ (List.mem_of_getElem? (i := 55) rfl))) (mvT hZ (hw _ (List.mem_of_getElem? (i := 56) rfl))) (mvT hZ (hw _ (List.mem_of_getElem? (i := 57) rfl))) (by decide) (backOf (W := 0) (own_al_addS l Z a0 hw [] b185 dq clq nq mq r_698 hj n0 Zs712 Eq' Feq' Fsq' Fmq' Aq szq Oq n1q (own_lt10 (by decide) n2q) gn_b185 gn_dq nadq (Ins.of_exa P700 (hw _ (List.mem_of_getElem? (i := 114) rfl)))) hZ (hw _ (List.mem_of_getElem? (i := 58) rfl)) (hw _ (List.mem_of_getElem? (i := 14) rfl)) (by decide) (by decide)) q711a q711b q711c (g := (mkF m 133 #[.val (.ref a), .val (.ref ow), .val (.ref pa), .val (.ref la), .val (.ref ls), .val (.ref ly), .val (.int (1 : Int32)), .val (.int (4 : Int32))] [(.ref r_698), (.ref b185)])) rfl (by rw [hml]; rfl) (Steps.refl _) (argsL := [(.ref r_698)]) (rest := []) (lenOf own_ctor_pd1 rfl) rfl (by show 2 * 0 + _ ≤ _; exact Nat.le_of_eq rfl) (hb hby own_ctor_d133) (fun _ _ => ⟨rfl, R698, (by decide : 16 + 1 ≤ _), (by decide : 108 + 10 ≤ _)⟩)
        dsimp only [Pt.U, Pt.locs, Pt.cells, Pt.slots] at X711 l711 y711 z711 st711 hQ711
        obtain rfl : k711 = 17 := y711
        obtain rfl : n711 = 118 := z711
        obtain ⟨rfl, N711q, R711, P713, P714, P715, P716⟩ := hQ711
        have N711 : Fr n0 L711 := l711 ▸ Fr.app N698 N711q
        refine ownStep (fun _ k => st711.trans k) ?_
        have KP717 : Keep h0 T711.heap [a] := KP626.trans R711 (allS (Or.inr gh_b185) (allS (Or.inr gh_dq) all0))
        show ownGo p.tables e below (T711.setTop (mkF m 138 #[.val (.ref a), .val (.ref ow), .val (.ref pa), .val (.ref la), .val (.ref ls), .val (.ref ly), .val (.int (1 : Int32)), .val (.int (4 : Int32))] [(.int (1 : Int32))])) _
        have Q718 : Exa Z T711.heap b185 "java/util/ArrayList" := (Eq'.keep R711)
        have CH' := back _ dq (Or.inr ⟨gdq, R711⟩) (own_WL_more n1q n2q (by decide) gdq szq Oq Q718 P713 P715 P714 P716) (Or.inl rfl)
        have KQ' := KQ.trans R711 (allS (Or.inl (List.mem_of_getElem? (i := 2) rfl)) (allS (Or.inr gdq) all0))
        refine ownStep (fun _ k => XS.pop X711.here hx rfl (hb hby own_ctor_d138) rfl rfl k) ?_
        refine ownStep (fun _ k => XS.iinc X711.here hx rfl (hb hby own_ctor_d139) rfl (l' := #[.val (.ref a), .val (.ref ow), .val (.ref pa), .val (.ref la), .val (.ref ls), .val (.ref ly), .val (.int (1 : Int32)), .val (.int (5 : Int32))]) rfl k) ?_
        refine ownStep (fun _ k => XS.goto X711.here hx rfl (pc0 := 142) (pc' := 105) rfl (hb hby own_ctor_d142) (by decide) (by decide) k) ?_
        show ownGo p.tables e below (T711.setTop (mkF m 105 #[.val (.ref a), .val (.ref ow), .val (.ref pa), .val (.ref la), .val (.ref ls), .val (.ref ly), .val (.int (1 : Int32)), .val (.int (5 : Int32))] [])) _
        exact J5 _ _ X711 _ rfl N711 KQ' CH'
    · skip
      show ownGo p.tables e below (T630.setTop (mkF m 120 #[.val (.ref a), .val (.ref ow), .val (.ref pa), .val (.ref la), .val (.ref ls), .val (.ref ly), .val (.int (1 : Int32)), .val (.int (4 : Int32))] [(.int (3 : Int32)), (.ref b2)])) _
      have Q719 : Exa Z hj b2 "java/util/ArrayList" := (Q379.keep KQ)
      have Q720 : Fld Z hj b2 "java/util/ArrayList" "elementData" "[Ljava/lang/Object;" (.ref dd_89) := (Q407.keep KQ (ninS ne85 (ninS ne144 (ninS ne199 (ninS ne250 (ninS ne301 nin0))))))
      have Q721 : Fld Z hj b2 "java/util/ArrayList" "size" "I" (.int (5 : Int32)) := (Q408.keep KQ (ninS ne85 (ninS ne144 (ninS ne199 (ninS ne250 (ninS ne301 nin0))))))
      have Q722 : Arv Z hj dd_89 kk_89 (.object "java/lang/Object") (10 : Int32) [(.ref b70), (.ref b129), (.ref b185), (.ref b236), (.ref b287), .null, .null, .null, .null, .null] .null := (Q410.keep KQ (ninS (Ne.symm ne361) (ninS ne150 (ninS ne203 (ninS ne254 (ninS ne305 nin0))))))
      have Zs724 : n0 ≤ hj.size := Nat.le_trans Z0 KP626.1
      obtain ⟨cq723, kq723, q723a, q723b, q723c⟩ := isOf hZ e630 Q719
      obtain ⟨_, _, ⟨T723, L723, k723, n723⟩, -, X723, ⟨Lc723, hQ723, l723, y723, z723⟩, st723⟩ := X630.interfaceBack hx (xi := (⟨"java/util/List", "get", "(I)Ljava/lang/Object;"⟩ : MethodName)) (y := (⟨"java/util/ArrayList", "get", "(I)Ljava/lang/Object;"⟩ : MethodName)) hown (mvT hZ (hw _ (List.mem_of_getElem? (i := 85) rfl))) (mvT hZ (hw _ (List.mem_of_getElem? (i := 86) rfl))) (mvT hZ (hw _ (List.mem_of_getElem? (i := 87) rfl))) (mvT hZ (hw _ (List.mem_of_getElem? (i := 88) rfl))) (mvT hZ (hw _ (List.mem_of_getElem? (i := 89) rfl))) (mvT hZ (hw _ (List.mem_of_getElem? (i := 90) rfl))) (mvT hZ (hw _ (List.mem_of_getElem? (i := 91) rfl))) (mvT hZ (hw _ (List.mem_of_getElem? (i := 57) rfl))) (by decide) (backOf (W := 0) (own_al_get_5_3 l Z a0 hw [] b2 dd_89 kk_89 (.ref b70) (.ref b129) (.ref b185) (.ref b287) b236 hj n0 Zs724 Q719 Q720 Q721 Q722) hZ (hw _ (List.mem_of_getElem? (i := 92) rfl)) (hw _ (List.mem_of_getElem? (i := 14) rfl)) (by decide) (by decide)) q723a q723b q723c (g := (mkF m 120 #[.val (.ref a), .val (.ref ow), .val (.ref pa), .val (.ref la), .val (.ref ls), .val (.ref ly), .val (.int (1 : Int32)), .val (.int (4 : Int32))] [(.int (3 : Int32)), (.ref b2)])) rfl (by rw [hml]; rfl) (Steps.refl _) (argsL := [(.int (3 : Int32))]) (rest := []) (lenOf own_ctor_pd3 rfl) rfl (by show 2 * 0 + _ ≤ _; exact Nat.le_of_eq rfl) (hb hby own_ctor_d120) (fun _ _ => ⟨rfl, e630, (by decide : 16 + 0 ≤ _), (by decide : 108 + 0 ≤ _)⟩)
      dsimp only [Pt.U, Pt.locs, Pt.cells, Pt.slots] at X723 l723 y723 z723 st723 hQ723
      obtain rfl : k723 = 16 := y723
      obtain rfl : n723 = 108 := z723
      obtain ⟨rfl, N723q, R723⟩ := hQ723
      have N723 : Fr n0 L723 := l723 ▸ Fr.app Nj N723q
      refine ownStep (fun _ k => st723.trans k) ?_
      show ownGo p.tables e below (T723.setTop (mkF m 125 #[.val (.ref a), .val (.ref ow), .val (.ref pa), .val (.ref la), .val (.ref ls), .val (.ref ly), .val (.int (1 : Int32)), .val (.int (4 : Int32))] [(.ref b236)])) _
      obtain ⟨dq, ⟨Eq, Feq, ⟨mq, Fmq⟩, Dq⟩, back⟩ := own_CH_at (m' := (4 : Int32)) CHj own_cs own_hb own_edh KQ.1 (own_mono (by decide)) (3 : Fin 5)
      have Eq' : Exa Z hj b236 "java/util/ArrayList" := Eq
      obtain ⟨T725, X725, e725, st725⟩ := castY X723 hx hZ hown (hw _ (List.mem_of_getElem? (i := 106) rfl)) R723 (Ins.of_exa Eq' (hw _ (List.mem_of_getElem? (i := 57) rfl))) (g := (mkF m 125 #[.val (.ref a), .val (.ref ow), .val (.ref pa), .val (.ref la), .val (.ref ls), .val (.ref ly), .val (.int (1 : Int32)), .val (.int (4 : Int32))] [(.ref b236)])) rfl rfl (hb hby own_ctor_d125)
      refine ownStep st725 ?_
      refine ownStep (fun _ k => XS.iload X725.here hx rfl (hb hby own_ctor_d128) rfl  k) ?_
      show ownGo p.tables e below (T725.setTop (mkF m 130 #[.val (.ref a), .val (.ref ow), .val (.ref pa), .val (.ref la), .val (.ref ls), .val (.ref ly), .val (.int (1 : Int32)), .val (.int (4 : Int32))] [(.int (4 : Int32)), (.ref b236)])) _
      have Q726 : Old Z n0 hj := (Q362.keep KQ (allS gn_b70 (allS gn_b129 (allS gn_b185 (allS gn_b236 (allS gn_b287 all0))))))
      have Zs728 : n0 ≤ hj.size := Nat.le_trans Z0 KP626.1
      obtain ⟨_, _, ⟨T727, L727, k727, n727⟩, -, X727, ⟨Lc727, hQ727, l727, y727, z727⟩, st727⟩ := Jvm.LawKit.callS X725 hx (y := (⟨"java/lang/Integer", "valueOf", "(I)Ljava/lang/Integer;"⟩ : MethodName)) hown (mvT hZ (hw _ (List.mem_of_getElem? (i := 107) rfl))) (mvT hZ (hw _ (List.mem_of_getElem? (i := 108) rfl))) (mvT hZ (hw _ (List.mem_of_getElem? (i := 109) rfl))) (mvT hZ (hw _ (List.mem_of_getElem? (i := 110) rfl))) (by decide) (backOf (W := 1) (own_val4 l Z a0 hw [] ed kd ca clc hj n0 Zs728 Q726 S V Sh Sc BX) hZ (hw _ (List.mem_of_getElem? (i := 110) rfl)) (hw _ (List.mem_of_getElem? (i := 109) rfl)) (by decide) (by decide)) (g := (mkF m 130 #[.val (.ref a), .val (.ref ow), .val (.ref pa), .val (.ref la), .val (.ref ls), .val (.ref ly), .val (.int (1 : Int32)), .val (.int (4 : Int32))] [(.int (4 : Int32)), (.ref b236)])) rfl (by rw [hml]; rfl) (argsL := [(.int (4 : Int32))]) (rest := [(.ref b236)]) (lenOf own_ctor_pd4 rfl) rfl (by show 2 * 0 + _ ≤ _; exact Nat.le_of_eq rfl) (hb hby own_ctor_d130) (fun _ _ => ⟨rfl, e725, (by decide : 16 + 0 ≤ _), (by decide : 108 + 0 ≤ _)⟩)
      dsimp only [Pt.U, Pt.locs, Pt.cells, Pt.slots] at X727 l727 y727 z727 st727 hQ727
      obtain rfl : k727 = 16 := y727
      obtain rfl : n727 = 108 := z727
      obtain ⟨r_727, rfl, N727q, R727, P729⟩ := hQ727
      have N727 : Fr n0 L727 := l727 ▸ Fr.app N723 N727q
      refine ownStep (fun _ k => st727 _ k) ?_
      rw [R727] at P729
      show ownGo p.tables e below (T727.setTop (mkF m 133 #[.val (.ref a), .val (.ref ow), .val (.ref pa), .val (.ref la), .val (.ref ls), .val (.ref ly), .val (.int (1 : Int32)), .val (.int (4 : Int32))] [(.ref r_727), (.ref b236)])) _
      rcases Dq with ⟨hdq, Fsq⟩ | ⟨gdq, nq, clq, Fsq, n1q, n2q, Aq, szq, Oq⟩
      · skip
        have Fmq' : Fld Z hj b236 "java/util/AbstractList" "modCount" "I" (.int mq) := Fmq
        have Feq' : Fld Z hj b236 "java/util/ArrayList" "elementData" "[Ljava/lang/Object;" (.ref ed) := hdq ▸ Feq
        have Fsq' : Fld Z hj b236 "java/util/ArrayList" "size" "I" (.int (0 : Int32)) := Fsq
        have Zs731 : n0 ≤ hj.size := Nat.le_trans Z0 KP626.1
        obtain ⟨cq730, kq730, q730a, q730b, q730c⟩ := isOf hZ R727 Eq'
        obtain ⟨_, _, ⟨T730, L730, k730, n730⟩, -, X730, ⟨Lc730, hQ730, l730, y730, z730⟩, st730⟩ := X727.interfaceBack hx (xi := (⟨"java/util/List", "add", "(Ljava/lang/Object;)Z"⟩ : MethodName)) (y := (⟨"java/util/ArrayList", "add", "(Ljava/lang/Object;)Z"⟩ : MethodName)) hown (mvT hZ (hw _ (List.mem_of_getElem? (i := 50) rfl))) (mvT hZ (hw _ (List.mem_of_getElem? (i := 51) rfl))) (mvT hZ (hw _ (List.mem_of_getElem? (i := 52) rfl))) (mvT hZ (hw _ (List.mem_of_getElem? (i := 53) rfl))) (mvT hZ (hw _ (List.mem_of_getElem? (i := 54) rfl))) (mvT hZ (hw _ (List.mem_of_getElem? (i := 55) rfl))) (mvT hZ (hw _ (List.mem_of_getElem? (i := 56) rfl))) (mvT hZ (hw _ (List.mem_of_getElem? (i := 57) rfl))) (by decide) (backOf (W := 0) (own_al_add_0 l Z a0 hw [] b236 ed kd mq r_727 hj n0 Zs731 Q726 S V Eq' Feq' Fsq' Fmq' gn_b236 (Ins.of_exa P729 (hw _ (List.mem_of_getElem? (i := 114) rfl)))) hZ (hw _ (List.mem_of_getElem? (i := 58) rfl)) (hw _ (List.mem_of_getElem? (i := 14) rfl)) (by decide) (by decide)) q730a q730b q730c (g := (mkF m 133 #[.val (.ref a), .val (.ref ow), .val (.ref pa), .val (.ref la), .val (.ref ls), .val (.ref ly), .val (.int (1 : Int32)), .val (.int (4 : Int32))] [(.ref r_727), (.ref b236)])) rfl (by rw [hml]; rfl) (Steps.refl _) (argsL := [(.ref r_727)]) (rest := []) (lenOf own_ctor_pd1 rfl) rfl (by show 2 * 0 + _ ≤ _; exact Nat.le_of_eq rfl) (hb hby own_ctor_d133) (fun _ _ => ⟨rfl, R727, (by decide : 16 + 1 ≤ _), (by decide : 108 + 10 ≤ _)⟩)
        dsimp only [Pt.U, Pt.locs, Pt.cells, Pt.slots] at X730 l730 y730 z730 st730 hQ730
        obtain rfl : k730 = 17 := y730
        obtain rfl : n730 = 118 := z730
        obtain ⟨dd_730, kk_730, rfl, N730q, R730, P732, P733, P734, P735, P736, P737⟩ := hQ730
        have N730 : Fr n0 L730 := l730 ▸ Fr.app N727 N730q
        have gh_dd_730 : h0.size ≤ dd_730 := Nat.le_trans KP626.1 P737
        have gn_dd_730 : n0 ≤ dd_730 := Nat.le_trans Z0 gh_dd_730
        refine ownStep (fun _ k => st730.trans k) ?_
        have KP738 : Keep h0 T730.heap [a] := KP626.trans R730 (allS (Or.inr gh_b236) all0)
        show ownGo p.tables e below (T730.setTop (mkF m 138 #[.val (.ref a), .val (.ref ow), .val (.ref pa), .val (.ref la), .val (.ref ls), .val (.ref ly), .val (.int (1 : Int32)), .val (.int (4 : Int32))] [(.int (1 : Int32))])) _
        have Q739 : Exa Z T730.heap b236 "java/util/ArrayList" := (Eq'.keep R730)
        have CH' := back _ dd_730 (Or.inl R730) (own_WL_first (by decide) (Nat.le_trans KQ.1 P737) Q739 P732 P734 P733 P735 P736) (Or.inr P737)
        have KQ' := KQ.trans R730 (allS (Or.inl (List.mem_of_getElem? (i := 3) rfl)) all0)
        refine ownStep (fun _ k => XS.pop X730.here hx rfl (hb hby own_ctor_d138) rfl rfl k) ?_
        refine ownStep (fun _ k => XS.iinc X730.here hx rfl (hb hby own_ctor_d139) rfl (l' := #[.val (.ref a), .val (.ref ow), .val (.ref pa), .val (.ref la), .val (.ref ls), .val (.ref ly), .val (.int (1 : Int32)), .val (.int (5 : Int32))]) rfl k) ?_
        refine ownStep (fun _ k => XS.goto X730.here hx rfl (pc0 := 142) (pc' := 105) rfl (hb hby own_ctor_d142) (by decide) (by decide) k) ?_
        show ownGo p.tables e below (T730.setTop (mkF m 105 #[.val (.ref a), .val (.ref ow), .val (.ref pa), .val (.ref la), .val (.ref ls), .val (.ref ly), .val (.int (1 : Int32)), .val (.int (5 : Int32))] [])) _
        exact J5 _ _ X730 _ rfl N730 KQ' CH'
      · skip
        have Fmq' : Fld Z hj b236 "java/util/AbstractList" "modCount" "I" (.int mq) := Fmq
        have Feq' : Fld Z hj b236 "java/util/ArrayList" "elementData" "[Ljava/lang/Object;" (.ref dq) := Feq
        have Fsq' : Fld Z hj b236 "java/util/ArrayList" "size" "I" (.int nq) := Fsq
        have gh_dq : h0.size ≤ dq := Nat.le_trans KP331.1 gdq
        have gn_dq : n0 ≤ dq := Nat.le_trans Z0 gh_dq
        have nadq : b236 ≠ dq := Nat.ne_of_lt (Nat.lt_of_lt_of_le (own_hb 3) gdq)
        have Zs741 : n0 ≤ hj.size := Nat.le_trans Z0 KP626.1
        obtain ⟨cq740, kq740, q740a, q740b, q740c⟩ := isOf hZ R727 Eq'
        obtain ⟨_, _, ⟨T740, L740, k740, n740⟩, -, X740, ⟨Lc740, hQ740, l740, y740, z740⟩, st740⟩ := X727.interfaceBack hx (xi := (⟨"java/util/List", "add", "(Ljava/lang/Object;)Z"⟩ : MethodName)) (y := (⟨"java/util/ArrayList", "add", "(Ljava/lang/Object;)Z"⟩ : MethodName)) hown (mvT hZ (hw _ (List.mem_of_getElem? (i := 50) rfl))) (mvT hZ (hw _ (List.mem_of_getElem? (i := 51) rfl))) (mvT hZ (hw _ (List.mem_of_getElem? (i := 52) rfl))) (mvT hZ (hw _ (List.mem_of_getElem? (i := 53) rfl))) (mvT hZ (hw _ (List.mem_of_getElem? (i := 54) rfl))) (mvT hZ (hw _ (List.mem_of_getElem? (i := 55) rfl))) (mvT hZ (hw _ (List.mem_of_getElem? (i := 56) rfl))) (mvT hZ (hw _ (List.mem_of_getElem? (i := 57) rfl))) (by decide) (backOf (W := 0) (own_al_addS l Z a0 hw [] b236 dq clq nq mq r_727 hj n0 Zs741 Eq' Feq' Fsq' Fmq' Aq szq Oq n1q (own_lt10 (by decide) n2q) gn_b236 gn_dq nadq (Ins.of_exa P729 (hw _ (List.mem_of_getElem? (i := 114) rfl)))) hZ (hw _ (List.mem_of_getElem? (i := 58) rfl)) (hw _ (List.mem_of_getElem? (i := 14) rfl)) (by decide) (by decide)) q740a q740b q740c (g := (mkF m 133 #[.val (.ref a), .val (.ref ow), .val (.ref pa), .val (.ref la), .val (.ref ls), .val (.ref ly), .val (.int (1 : Int32)), .val (.int (4 : Int32))] [(.ref r_727), (.ref b236)])) rfl (by rw [hml]; rfl) (Steps.refl _) (argsL := [(.ref r_727)]) (rest := []) (lenOf own_ctor_pd1 rfl) rfl (by show 2 * 0 + _ ≤ _; exact Nat.le_of_eq rfl) (hb hby own_ctor_d133) (fun _ _ => ⟨rfl, R727, (by decide : 16 + 1 ≤ _), (by decide : 108 + 10 ≤ _)⟩)
        dsimp only [Pt.U, Pt.locs, Pt.cells, Pt.slots] at X740 l740 y740 z740 st740 hQ740
        obtain rfl : k740 = 17 := y740
        obtain rfl : n740 = 118 := z740
        obtain ⟨rfl, N740q, R740, P742, P743, P744, P745⟩ := hQ740
        have N740 : Fr n0 L740 := l740 ▸ Fr.app N727 N740q
        refine ownStep (fun _ k => st740.trans k) ?_
        have KP746 : Keep h0 T740.heap [a] := KP626.trans R740 (allS (Or.inr gh_b236) (allS (Or.inr gh_dq) all0))
        show ownGo p.tables e below (T740.setTop (mkF m 138 #[.val (.ref a), .val (.ref ow), .val (.ref pa), .val (.ref la), .val (.ref ls), .val (.ref ly), .val (.int (1 : Int32)), .val (.int (4 : Int32))] [(.int (1 : Int32))])) _
        have Q747 : Exa Z T740.heap b236 "java/util/ArrayList" := (Eq'.keep R740)
        have CH' := back _ dq (Or.inr ⟨gdq, R740⟩) (own_WL_more n1q n2q (by decide) gdq szq Oq Q747 P742 P744 P743 P745) (Or.inl rfl)
        have KQ' := KQ.trans R740 (allS (Or.inl (List.mem_of_getElem? (i := 3) rfl)) (allS (Or.inr gdq) all0))
        refine ownStep (fun _ k => XS.pop X740.here hx rfl (hb hby own_ctor_d138) rfl rfl k) ?_
        refine ownStep (fun _ k => XS.iinc X740.here hx rfl (hb hby own_ctor_d139) rfl (l' := #[.val (.ref a), .val (.ref ow), .val (.ref pa), .val (.ref la), .val (.ref ls), .val (.ref ly), .val (.int (1 : Int32)), .val (.int (5 : Int32))]) rfl k) ?_
        refine ownStep (fun _ k => XS.goto X740.here hx rfl (pc0 := 142) (pc' := 105) rfl (hb hby own_ctor_d142) (by decide) (by decide) k) ?_
        show ownGo p.tables e below (T740.setTop (mkF m 105 #[.val (.ref a), .val (.ref ow), .val (.ref pa), .val (.ref la), .val (.ref ls), .val (.ref ly), .val (.int (1 : Int32)), .val (.int (5 : Int32))] [])) _
        exact J5 _ _ X740 _ rfl N740 KQ' CH'
  have J3 : ∀ (Tj : State) (Lj : List Loc) (Xj : Stand p l e ({ frames := 5, cells := 17, slots := 118, locals := 69 } : Room) s m #[(.ref a), (.ref ow), (.ref pa), (.ref la), (.ref ls), (.ref ly), (.int (1 : Int32))] below meth c Tj Lj 15 98) (hj : Heap) (ej : Tj.heap = hj) (Nj : Fr n0 Lj) (KQ : Keep h329 hj [b70, b129, b185, b236, b287]) (CHj : own_CH Z h329.size ed (2 : Int32) hj (own_c5 b70 b129 b185 b236 b287)), ownGo p.tables e below (Tj.setTop (mkF m 105 #[.val (.ref a), .val (.ref ow), .val (.ref pa), .val (.ref la), .val (.ref ls), .val (.ref ly), .val (.int (1 : Int32)), .val (.int (3 : Int32))] [])) (ownEnd below s (own_ctor_Q Z ed kd ca clc a ow pa la ls ly ko kp kl ky a2 a3 a4 o0 o1 h0 n0) ({ frames := 5, cells := 17, slots := 118, locals := 69 } : Room).cells ({ frames := 5, cells := 17, slots := 118, locals := 69 } : Room).slots) := by
    intro Tj Lj Xj hj ej Nj KQ CHj
    have KP748 : Keep h0 hj [a] := KP331.trans KQ (allS (Or.inr gh_b70) (allS (Or.inr gh_b129) (allS (Or.inr gh_b185) (allS (Or.inr gh_b236) (allS (Or.inr gh_b287) all0)))))
    refine ownStep (fun _ k => XS.iload Xj.here hx rfl (hb hby own_ctor_d105) rfl  k) ?_
    refine ownStep (fun _ k => XS.aloadN Xj.here hx rfl (hb hby own_ctor_d107) rfl rfl k) ?_
    show ownGo p.tables e below (Tj.setTop (mkF m 108 #[.val (.ref a), .val (.ref ow), .val (.ref pa), .val (.ref la), .val (.ref ls), .val (.ref ly), .val (.int (1 : Int32)), .val (.int (3 : Int32))] [(.ref pa), (.int (3 : Int32))])) _
    have Q750 : Arv Z hj pa kp .int (5 : Int32) [(.int (-1 : Int32)), (.int (0 : Int32)), (.int a2), (.int a3), (.int a4)] (.int (0 : Int32)) := (Q335.keep KQ (ninS ne123 (ninS ne180 (ninS ne232 (ninS ne283 (ninS ne334 nin0))))))
    have Vo749 := Q750
    obtain ⟨cl749, Ar749, q749, S749, N749, H749, G749⟩ := Vo749
    refine ownStep (Xj.arraylength hx (by rw [ej]; exact Ar749.1) (State.isArrayOf_alike hZ.alike Ar749.2.1) (g := (mkF m 108 #[.val (.ref a), .val (.ref ow), .val (.ref pa), .val (.ref la), .val (.ref ls), .val (.ref ly), .val (.int (1 : Int32)), .val (.int (3 : Int32))] [(.ref pa), (.int (3 : Int32))])) rfl rfl (hb hby own_ctor_d108)) ?_
    rw [len_of S749 N749]
    refine ownStep (fun _ k => XS.icmpNo Xj.here hx rfl (hb hby own_ctor_d109) rfl (tlt (by decide : (3 : Int32) < (5 : Int32))).2.1 k) ?_
    refine ownStep (fun _ k => XS.aloadN Xj.here hx rfl (hb hby own_ctor_d112) rfl rfl k) ?_
    show ownGo p.tables e below (Tj.setTop (mkF m 113 #[.val (.ref a), .val (.ref ow), .val (.ref pa), .val (.ref la), .val (.ref ls), .val (.ref ly), .val (.int (1 : Int32)), .val (.int (3 : Int32))] [(.ref a)])) _
    have Q751 : Fld Z hj a "com/example/adept_layout/adeptlayout/layout/Nesting" "children" "Ljava/util/List;" (.ref b2) := (Q380.keep KQ (ninS ne98 (ninS ne159 (ninS ne212 (ninS ne263 (ninS ne314 nin0))))))
    obtain ⟨T752, X752, e752, st752⟩ := getF Xj hx hZ hown (host := "") (Or.inl (hw _ (List.mem_of_getElem? (i := 36) rfl))) Via.refl ej Q751 (g := (mkF m 113 #[.val (.ref a), .val (.ref ow), .val (.ref pa), .val (.ref la), .val (.ref ls), .val (.ref ly), .val (.int (1 : Int32)), .val (.int (3 : Int32))] [(.ref a)])) rfl rfl (hb hby own_ctor_d113)
    refine ownStep st752 ?_
    refine ownStep (fun _ k => XS.aloadN X752.here hx rfl (hb hby own_ctor_d116) rfl rfl k) ?_
    refine ownStep (fun _ k => XS.iload X752.here hx rfl (hb hby own_ctor_d117) rfl  k) ?_
    show ownGo p.tables e below (T752.setTop (mkF m 119 #[.val (.ref a), .val (.ref ow), .val (.ref pa), .val (.ref la), .val (.ref ls), .val (.ref ly), .val (.int (1 : Int32)), .val (.int (3 : Int32))] [(.int (3 : Int32)), (.ref pa), (.ref b2)])) _
    have Vo753 := Q750
    obtain ⟨cl753, Ar753, q753, S753, N753, H753, G753⟩ := Vo753
    have hin753 : ¬ ((3 : Int32) < 0 ∨ cl753.slots.size ≤ ((3 : Int32)).toNatClampNeg) := inb_of S753 ⟨by decide, by decide⟩
    refine ownStep (X752.iaload hx (j := (3 : Int32)) (v := (.int a3)) (by rw [e752]; exact Ar753.1) (State.isArrayOf_alike hZ.alike Ar753.2.1) Ar753.2.2 hin753 (H753.at hin753 rfl) (g := (mkF m 119 #[.val (.ref a), .val (.ref ow), .val (.ref pa), .val (.ref la), .val (.ref ls), .val (.ref ly), .val (.int (1 : Int32)), .val (.int (3 : Int32))] [(.int (3 : Int32)), (.ref pa), (.ref b2)])) rfl rfl (hb hby own_ctor_d119)) ?_
    show ownGo p.tables e below (T752.setTop (mkF m 120 #[.val (.ref a), .val (.ref ow), .val (.ref pa), .val (.ref la), .val (.ref ls), .val (.ref ly), .val (.int (1 : Int32)), .val (.int (3 : Int32))] [(.int a3), (.ref b2)])) _
    rcases ra3 with rfl | rfl | rfl
    · skip
      show ownGo p.tables e below (T752.setTop (mkF m 120 #[.val (.ref a), .val (.ref ow), .val (.ref pa), .val (.ref la), .val (.ref ls), .val (.ref ly), .val (.int (1 : Int32)), .val (.int (3 : Int32))] [(.int (0 : Int32)), (.ref b2)])) _
      have Q754 : Exa Z hj b2 "java/util/ArrayList" := (Q379.keep KQ)
      have Q755 : Fld Z hj b2 "java/util/ArrayList" "elementData" "[Ljava/lang/Object;" (.ref dd_89) := (Q407.keep KQ (ninS ne85 (ninS ne144 (ninS ne199 (ninS ne250 (ninS ne301 nin0))))))
      have Q756 : Fld Z hj b2 "java/util/ArrayList" "size" "I" (.int (5 : Int32)) := (Q408.keep KQ (ninS ne85 (ninS ne144 (ninS ne199 (ninS ne250 (ninS ne301 nin0))))))
      have Q757 : Arv Z hj dd_89 kk_89 (.object "java/lang/Object") (10 : Int32) [(.ref b70), (.ref b129), (.ref b185), (.ref b236), (.ref b287), .null, .null, .null, .null, .null] .null := (Q410.keep KQ (ninS (Ne.symm ne361) (ninS ne150 (ninS ne203 (ninS ne254 (ninS ne305 nin0))))))
      have Zs759 : n0 ≤ hj.size := Nat.le_trans Z0 KP748.1
      obtain ⟨cq758, kq758, q758a, q758b, q758c⟩ := isOf hZ e752 Q754
      obtain ⟨_, _, ⟨T758, L758, k758, n758⟩, -, X758, ⟨Lc758, hQ758, l758, y758, z758⟩, st758⟩ := X752.interfaceBack hx (xi := (⟨"java/util/List", "get", "(I)Ljava/lang/Object;"⟩ : MethodName)) (y := (⟨"java/util/ArrayList", "get", "(I)Ljava/lang/Object;"⟩ : MethodName)) hown (mvT hZ (hw _ (List.mem_of_getElem? (i := 85) rfl))) (mvT hZ (hw _ (List.mem_of_getElem? (i := 86) rfl))) (mvT hZ (hw _ (List.mem_of_getElem? (i := 87) rfl))) (mvT hZ (hw _ (List.mem_of_getElem? (i := 88) rfl))) (mvT hZ (hw _ (List.mem_of_getElem? (i := 89) rfl))) (mvT hZ (hw _ (List.mem_of_getElem? (i := 90) rfl))) (mvT hZ (hw _ (List.mem_of_getElem? (i := 91) rfl))) (mvT hZ (hw _ (List.mem_of_getElem? (i := 57) rfl))) (by decide) (backOf (W := 0) (own_al_get_5_0 l Z a0 hw [] b2 dd_89 kk_89 (.ref b129) (.ref b185) (.ref b236) (.ref b287) b70 hj n0 Zs759 Q754 Q755 Q756 Q757) hZ (hw _ (List.mem_of_getElem? (i := 92) rfl)) (hw _ (List.mem_of_getElem? (i := 14) rfl)) (by decide) (by decide)) q758a q758b q758c (g := (mkF m 120 #[.val (.ref a), .val (.ref ow), .val (.ref pa), .val (.ref la), .val (.ref ls), .val (.ref ly), .val (.int (1 : Int32)), .val (.int (3 : Int32))] [(.int (0 : Int32)), (.ref b2)])) rfl (by rw [hml]; rfl) (Steps.refl _) (argsL := [(.int (0 : Int32))]) (rest := []) (lenOf own_ctor_pd3 rfl) rfl (by show 2 * 0 + _ ≤ _; exact Nat.le_of_eq rfl) (hb hby own_ctor_d120) (fun _ _ => ⟨rfl, e752, (by decide : 15 + 0 ≤ _), (by decide : 98 + 0 ≤ _)⟩)
      dsimp only [Pt.U, Pt.locs, Pt.cells, Pt.slots] at X758 l758 y758 z758 st758 hQ758
      obtain rfl : k758 = 15 := y758
      obtain rfl : n758 = 98 := z758
      obtain ⟨rfl, N758q, R758⟩ := hQ758
      have N758 : Fr n0 L758 := l758 ▸ Fr.app Nj N758q
      refine ownStep (fun _ k => st758.trans k) ?_
      show ownGo p.tables e below (T758.setTop (mkF m 125 #[.val (.ref a), .val (.ref ow), .val (.ref pa), .val (.ref la), .val (.ref ls), .val (.ref ly), .val (.int (1 : Int32)), .val (.int (3 : Int32))] [(.ref b70)])) _
      obtain ⟨dq, ⟨Eq, Feq, ⟨mq, Fmq⟩, Dq⟩, back⟩ := own_CH_at (m' := (3 : Int32)) CHj own_cs own_hb own_edh KQ.1 (own_mono (by decide)) (0 : Fin 5)
      have Eq' : Exa Z hj b70 "java/util/ArrayList" := Eq
      obtain ⟨T760, X760, e760, st760⟩ := castY X758 hx hZ hown (hw _ (List.mem_of_getElem? (i := 106) rfl)) R758 (Ins.of_exa Eq' (hw _ (List.mem_of_getElem? (i := 57) rfl))) (g := (mkF m 125 #[.val (.ref a), .val (.ref ow), .val (.ref pa), .val (.ref la), .val (.ref ls), .val (.ref ly), .val (.int (1 : Int32)), .val (.int (3 : Int32))] [(.ref b70)])) rfl rfl (hb hby own_ctor_d125)
      refine ownStep st760 ?_
      refine ownStep (fun _ k => XS.iload X760.here hx rfl (hb hby own_ctor_d128) rfl  k) ?_
      show ownGo p.tables e below (T760.setTop (mkF m 130 #[.val (.ref a), .val (.ref ow), .val (.ref pa), .val (.ref la), .val (.ref ls), .val (.ref ly), .val (.int (1 : Int32)), .val (.int (3 : Int32))] [(.int (3 : Int32)), (.ref b70)])) _
      have Q761 : Old Z n0 hj := (Q362.keep KQ (allS gn_b70 (allS gn_b129 (allS gn_b185 (allS gn_b236 (allS gn_b287 all0))))))
      have Zs763 : n0 ≤ hj.size := Nat.le_trans Z0 KP748.1
      obtain ⟨_, _, ⟨T762, L762, k762, n762⟩, -, X762, ⟨Lc762, hQ762, l762, y762, z762⟩, st762⟩ := Jvm.LawKit.callS X760 hx (y := (⟨"java/lang/Integer", "valueOf", "(I)Ljava/lang/Integer;"⟩ : MethodName)) hown (mvT hZ (hw _ (List.mem_of_getElem? (i := 107) rfl))) (mvT hZ (hw _ (List.mem_of_getElem? (i := 108) rfl))) (mvT hZ (hw _ (List.mem_of_getElem? (i := 109) rfl))) (mvT hZ (hw _ (List.mem_of_getElem? (i := 110) rfl))) (by decide) (backOf (W := 1) (own_val3 l Z a0 hw [] ed kd ca clc hj n0 Zs763 Q761 S V Sh Sc BX) hZ (hw _ (List.mem_of_getElem? (i := 110) rfl)) (hw _ (List.mem_of_getElem? (i := 109) rfl)) (by decide) (by decide)) (g := (mkF m 130 #[.val (.ref a), .val (.ref ow), .val (.ref pa), .val (.ref la), .val (.ref ls), .val (.ref ly), .val (.int (1 : Int32)), .val (.int (3 : Int32))] [(.int (3 : Int32)), (.ref b70)])) rfl (by rw [hml]; rfl) (argsL := [(.int (3 : Int32))]) (rest := [(.ref b70)]) (lenOf own_ctor_pd4 rfl) rfl (by show 2 * 0 + _ ≤ _; exact Nat.le_of_eq rfl) (hb hby own_ctor_d130) (fun _ _ => ⟨rfl, e760, (by decide : 15 + 0 ≤ _), (by decide : 98 + 0 ≤ _)⟩)
      dsimp only [Pt.U, Pt.locs, Pt.cells, Pt.slots] at X762 l762 y762 z762 st762 hQ762
      obtain rfl : k762 = 15 := y762
      obtain rfl : n762 = 98 := z762
      obtain ⟨r_762, rfl, N762q, R762, P764⟩ := hQ762
      have N762 : Fr n0 L762 := l762 ▸ Fr.app N758 N762q
      refine ownStep (fun _ k => st762 _ k) ?_
      rw [R762] at P764
      show ownGo p.tables e below (T762.setTop (mkF m 133 #[.val (.ref a), .val (.ref ow), .val (.ref pa), .val (.ref la), .val (.ref ls), .val (.ref ly), .val (.int (1 : Int32)), .val (.int (3 : Int32))] [(.ref r_762), (.ref b70)])) _
      rcases Dq with ⟨hdq, Fsq⟩ | ⟨gdq, nq, clq, Fsq, n1q, n2q, Aq, szq, Oq⟩
      · skip
        have Fmq' : Fld Z hj b70 "java/util/AbstractList" "modCount" "I" (.int mq) := Fmq
        have Feq' : Fld Z hj b70 "java/util/ArrayList" "elementData" "[Ljava/lang/Object;" (.ref ed) := hdq ▸ Feq
        have Fsq' : Fld Z hj b70 "java/util/ArrayList" "size" "I" (.int (0 : Int32)) := Fsq
        have Zs766 : n0 ≤ hj.size := Nat.le_trans Z0 KP748.1
        obtain ⟨cq765, kq765, q765a, q765b, q765c⟩ := isOf hZ R762 Eq'
        obtain ⟨_, _, ⟨T765, L765, k765, n765⟩, -, X765, ⟨Lc765, hQ765, l765, y765, z765⟩, st765⟩ := X762.interfaceBack hx (xi := (⟨"java/util/List", "add", "(Ljava/lang/Object;)Z"⟩ : MethodName)) (y := (⟨"java/util/ArrayList", "add", "(Ljava/lang/Object;)Z"⟩ : MethodName)) hown (mvT hZ (hw _ (List.mem_of_getElem? (i := 50) rfl))) (mvT hZ (hw _ (List.mem_of_getElem? (i := 51) rfl))) (mvT hZ (hw _ (List.mem_of_getElem? (i := 52) rfl))) (mvT hZ (hw _ (List.mem_of_getElem? (i := 53) rfl))) (mvT hZ (hw _ (List.mem_of_getElem? (i := 54) rfl))) (mvT hZ (hw _ (List.mem_of_getElem? (i := 55) rfl))) (mvT hZ (hw _ (List.mem_of_getElem? (i := 56) rfl))) (mvT hZ (hw _ (List.mem_of_getElem? (i := 57) rfl))) (by decide) (backOf (W := 0) (own_al_add_0 l Z a0 hw [] b70 ed kd mq r_762 hj n0 Zs766 Q761 S V Eq' Feq' Fsq' Fmq' gn_b70 (Ins.of_exa P764 (hw _ (List.mem_of_getElem? (i := 114) rfl)))) hZ (hw _ (List.mem_of_getElem? (i := 58) rfl)) (hw _ (List.mem_of_getElem? (i := 14) rfl)) (by decide) (by decide)) q765a q765b q765c (g := (mkF m 133 #[.val (.ref a), .val (.ref ow), .val (.ref pa), .val (.ref la), .val (.ref ls), .val (.ref ly), .val (.int (1 : Int32)), .val (.int (3 : Int32))] [(.ref r_762), (.ref b70)])) rfl (by rw [hml]; rfl) (Steps.refl _) (argsL := [(.ref r_762)]) (rest := []) (lenOf own_ctor_pd1 rfl) rfl (by show 2 * 0 + _ ≤ _; exact Nat.le_of_eq rfl) (hb hby own_ctor_d133) (fun _ _ => ⟨rfl, R762, (by decide : 15 + 1 ≤ _), (by decide : 98 + 10 ≤ _)⟩)
        dsimp only [Pt.U, Pt.locs, Pt.cells, Pt.slots] at X765 l765 y765 z765 st765 hQ765
        obtain rfl : k765 = 16 := y765
        obtain rfl : n765 = 108 := z765
        obtain ⟨dd_765, kk_765, rfl, N765q, R765, P767, P768, P769, P770, P771, P772⟩ := hQ765
        have N765 : Fr n0 L765 := l765 ▸ Fr.app N762 N765q
        have gh_dd_765 : h0.size ≤ dd_765 := Nat.le_trans KP748.1 P772
        have gn_dd_765 : n0 ≤ dd_765 := Nat.le_trans Z0 gh_dd_765
        refine ownStep (fun _ k => st765.trans k) ?_
        have KP773 : Keep h0 T765.heap [a] := KP748.trans R765 (allS (Or.inr gh_b70) all0)
        show ownGo p.tables e below (T765.setTop (mkF m 138 #[.val (.ref a), .val (.ref ow), .val (.ref pa), .val (.ref la), .val (.ref ls), .val (.ref ly), .val (.int (1 : Int32)), .val (.int (3 : Int32))] [(.int (1 : Int32))])) _
        have Q774 : Exa Z T765.heap b70 "java/util/ArrayList" := (Eq'.keep R765)
        have CH' := back _ dd_765 (Or.inl R765) (own_WL_first (by decide) (Nat.le_trans KQ.1 P772) Q774 P767 P769 P768 P770 P771) (Or.inr P772)
        have KQ' := KQ.trans R765 (allS (Or.inl (List.mem_of_getElem? (i := 0) rfl)) all0)
        refine ownStep (fun _ k => XS.pop X765.here hx rfl (hb hby own_ctor_d138) rfl rfl k) ?_
        refine ownStep (fun _ k => XS.iinc X765.here hx rfl (hb hby own_ctor_d139) rfl (l' := #[.val (.ref a), .val (.ref ow), .val (.ref pa), .val (.ref la), .val (.ref ls), .val (.ref ly), .val (.int (1 : Int32)), .val (.int (4 : Int32))]) rfl k) ?_
        refine ownStep (fun _ k => XS.goto X765.here hx rfl (pc0 := 142) (pc' := 105) rfl (hb hby own_ctor_d142) (by decide) (by decide) k) ?_
        show ownGo p.tables e below (T765.setTop (mkF m 105 #[.val (.ref a), .val (.ref ow), .val (.ref pa), .val (.ref la), .val (.ref ls), .val (.ref ly), .val (.int (1 : Int32)), .val (.int (4 : Int32))] [])) _
        exact J4 _ _ X765 _ rfl N765 KQ' CH'
      · skip
        have Fmq' : Fld Z hj b70 "java/util/AbstractList" "modCount" "I" (.int mq) := Fmq
        have Feq' : Fld Z hj b70 "java/util/ArrayList" "elementData" "[Ljava/lang/Object;" (.ref dq) := Feq
        have Fsq' : Fld Z hj b70 "java/util/ArrayList" "size" "I" (.int nq) := Fsq
        have gh_dq : h0.size ≤ dq := Nat.le_trans KP331.1 gdq
        have gn_dq : n0 ≤ dq := Nat.le_trans Z0 gh_dq
        have nadq : b70 ≠ dq := Nat.ne_of_lt (Nat.lt_of_lt_of_le (own_hb 0) gdq)
        have Zs776 : n0 ≤ hj.size := Nat.le_trans Z0 KP748.1
        obtain ⟨cq775, kq775, q775a, q775b, q775c⟩ := isOf hZ R762 Eq'
        obtain ⟨_, _, ⟨T775, L775, k775, n775⟩, -, X775, ⟨Lc775, hQ775, l775, y775, z775⟩, st775⟩ := X762.interfaceBack hx (xi := (⟨"java/util/List", "add", "(Ljava/lang/Object;)Z"⟩ : MethodName)) (y := (⟨"java/util/ArrayList", "add", "(Ljava/lang/Object;)Z"⟩ : MethodName)) hown (mvT hZ (hw _ (List.mem_of_getElem? (i := 50) rfl))) (mvT hZ (hw _ (List.mem_of_getElem? (i := 51) rfl))) (mvT hZ (hw _ (List.mem_of_getElem? (i := 52) rfl))) (mvT hZ (hw _ (List.mem_of_getElem? (i := 53) rfl))) (mvT hZ (hw _ (List.mem_of_getElem? (i := 54) rfl))) (mvT hZ (hw _ (List.mem_of_getElem? (i := 55) rfl))) (mvT hZ (hw _ (List.mem_of_getElem? (i := 56) rfl))) (mvT hZ (hw _ (List.mem_of_getElem? (i := 57) rfl))) (by decide) (backOf (W := 0) (own_al_addS l Z a0 hw [] b70 dq clq nq mq r_762 hj n0 Zs776 Eq' Feq' Fsq' Fmq' Aq szq Oq n1q (own_lt10 (by decide) n2q) gn_b70 gn_dq nadq (Ins.of_exa P764 (hw _ (List.mem_of_getElem? (i := 114) rfl)))) hZ (hw _ (List.mem_of_getElem? (i := 58) rfl)) (hw _ (List.mem_of_getElem? (i := 14) rfl)) (by decide) (by decide)) q775a q775b q775c (g := (mkF m 133 #[.val (.ref a), .val (.ref ow), .val (.ref pa), .val (.ref la), .val (.ref ls), .val (.ref ly), .val (.int (1 : Int32)), .val (.int (3 : Int32))] [(.ref r_762), (.ref b70)])) rfl (by rw [hml]; rfl) (Steps.refl _) (argsL := [(.ref r_762)]) (rest := []) (lenOf own_ctor_pd1 rfl) rfl (by show 2 * 0 + _ ≤ _; exact Nat.le_of_eq rfl) (hb hby own_ctor_d133) (fun _ _ => ⟨rfl, R762, (by decide : 15 + 1 ≤ _), (by decide : 98 + 10 ≤ _)⟩)
        dsimp only [Pt.U, Pt.locs, Pt.cells, Pt.slots] at X775 l775 y775 z775 st775 hQ775
        obtain rfl : k775 = 16 := y775
        obtain rfl : n775 = 108 := z775
        obtain ⟨rfl, N775q, R775, P777, P778, P779, P780⟩ := hQ775
        have N775 : Fr n0 L775 := l775 ▸ Fr.app N762 N775q
        refine ownStep (fun _ k => st775.trans k) ?_
        have KP781 : Keep h0 T775.heap [a] := KP748.trans R775 (allS (Or.inr gh_b70) (allS (Or.inr gh_dq) all0))
        show ownGo p.tables e below (T775.setTop (mkF m 138 #[.val (.ref a), .val (.ref ow), .val (.ref pa), .val (.ref la), .val (.ref ls), .val (.ref ly), .val (.int (1 : Int32)), .val (.int (3 : Int32))] [(.int (1 : Int32))])) _
        have Q782 : Exa Z T775.heap b70 "java/util/ArrayList" := (Eq'.keep R775)
        have CH' := back _ dq (Or.inr ⟨gdq, R775⟩) (own_WL_more n1q n2q (by decide) gdq szq Oq Q782 P777 P779 P778 P780) (Or.inl rfl)
        have KQ' := KQ.trans R775 (allS (Or.inl (List.mem_of_getElem? (i := 0) rfl)) (allS (Or.inr gdq) all0))
        refine ownStep (fun _ k => XS.pop X775.here hx rfl (hb hby own_ctor_d138) rfl rfl k) ?_
        refine ownStep (fun _ k => XS.iinc X775.here hx rfl (hb hby own_ctor_d139) rfl (l' := #[.val (.ref a), .val (.ref ow), .val (.ref pa), .val (.ref la), .val (.ref ls), .val (.ref ly), .val (.int (1 : Int32)), .val (.int (4 : Int32))]) rfl k) ?_
        refine ownStep (fun _ k => XS.goto X775.here hx rfl (pc0 := 142) (pc' := 105) rfl (hb hby own_ctor_d142) (by decide) (by decide) k) ?_
        show ownGo p.tables e below (T775.setTop (mkF m 105 #[.val (.ref a), .val (.ref ow), .val (.ref pa), .val (.ref la), .val (.ref ls), .val (.ref ly), .val (.int (1 : Int32)), .val (.int (4 : Int32))] [])) _
        exact J4 _ _ X775 _ rfl N775 KQ' CH'
    · skip
      show ownGo p.tables e below (T752.setTop (mkF m 120 #[.val (.ref a), .val (.ref ow), .val (.ref pa), .val (.ref la), .val (.ref ls), .val (.ref ly), .val (.int (1 : Int32)), .val (.int (3 : Int32))] [(.int (1 : Int32)), (.ref b2)])) _
      have Q783 : Exa Z hj b2 "java/util/ArrayList" := (Q379.keep KQ)
      have Q784 : Fld Z hj b2 "java/util/ArrayList" "elementData" "[Ljava/lang/Object;" (.ref dd_89) := (Q407.keep KQ (ninS ne85 (ninS ne144 (ninS ne199 (ninS ne250 (ninS ne301 nin0))))))
      have Q785 : Fld Z hj b2 "java/util/ArrayList" "size" "I" (.int (5 : Int32)) := (Q408.keep KQ (ninS ne85 (ninS ne144 (ninS ne199 (ninS ne250 (ninS ne301 nin0))))))
      have Q786 : Arv Z hj dd_89 kk_89 (.object "java/lang/Object") (10 : Int32) [(.ref b70), (.ref b129), (.ref b185), (.ref b236), (.ref b287), .null, .null, .null, .null, .null] .null := (Q410.keep KQ (ninS (Ne.symm ne361) (ninS ne150 (ninS ne203 (ninS ne254 (ninS ne305 nin0))))))
      have Zs788 : n0 ≤ hj.size := Nat.le_trans Z0 KP748.1
      obtain ⟨cq787, kq787, q787a, q787b, q787c⟩ := isOf hZ e752 Q783
      obtain ⟨_, _, ⟨T787, L787, k787, n787⟩, -, X787, ⟨Lc787, hQ787, l787, y787, z787⟩, st787⟩ := X752.interfaceBack hx (xi := (⟨"java/util/List", "get", "(I)Ljava/lang/Object;"⟩ : MethodName)) (y := (⟨"java/util/ArrayList", "get", "(I)Ljava/lang/Object;"⟩ : MethodName)) hown (mvT hZ (hw _ (List.mem_of_getElem? (i := 85) rfl))) (mvT hZ (hw _ (List.mem_of_getElem? (i := 86) rfl))) (mvT hZ (hw _ (List.mem_of_getElem? (i := 87) rfl))) (mvT hZ (hw _ (List.mem_of_getElem? (i := 88) rfl))) (mvT hZ (hw _ (List.mem_of_getElem? (i := 89) rfl))) (mvT hZ (hw _ (List.mem_of_getElem? (i := 90) rfl))) (mvT hZ (hw _ (List.mem_of_getElem? (i := 91) rfl))) (mvT hZ (hw _ (List.mem_of_getElem? (i := 57) rfl))) (by decide) (backOf (W := 0) (own_al_get_5_1 l Z a0 hw [] b2 dd_89 kk_89 (.ref b70) (.ref b185) (.ref b236) (.ref b287) b129 hj n0 Zs788 Q783 Q784 Q785 Q786) hZ (hw _ (List.mem_of_getElem? (i := 92) rfl)) (hw _ (List.mem_of_getElem? (i := 14) rfl)) (by decide) (by decide)) q787a q787b q787c (g := (mkF m 120 #[.val (.ref a), .val (.ref ow), .val (.ref pa), .val (.ref la), .val (.ref ls), .val (.ref ly), .val (.int (1 : Int32)), .val (.int (3 : Int32))] [(.int (1 : Int32)), (.ref b2)])) rfl (by rw [hml]; rfl) (Steps.refl _) (argsL := [(.int (1 : Int32))]) (rest := []) (lenOf own_ctor_pd3 rfl) rfl (by show 2 * 0 + _ ≤ _; exact Nat.le_of_eq rfl) (hb hby own_ctor_d120) (fun _ _ => ⟨rfl, e752, (by decide : 15 + 0 ≤ _), (by decide : 98 + 0 ≤ _)⟩)
      dsimp only [Pt.U, Pt.locs, Pt.cells, Pt.slots] at X787 l787 y787 z787 st787 hQ787
      obtain rfl : k787 = 15 := y787
      obtain rfl : n787 = 98 := z787
      obtain ⟨rfl, N787q, R787⟩ := hQ787
      have N787 : Fr n0 L787 := l787 ▸ Fr.app Nj N787q
      refine ownStep (fun _ k => st787.trans k) ?_
      show ownGo p.tables e below (T787.setTop (mkF m 125 #[.val (.ref a), .val (.ref ow), .val (.ref pa), .val (.ref la), .val (.ref ls), .val (.ref ly), .val (.int (1 : Int32)), .val (.int (3 : Int32))] [(.ref b129)])) _
      obtain ⟨dq, ⟨Eq, Feq, ⟨mq, Fmq⟩, Dq⟩, back⟩ := own_CH_at (m' := (3 : Int32)) CHj own_cs own_hb own_edh KQ.1 (own_mono (by decide)) (1 : Fin 5)
      have Eq' : Exa Z hj b129 "java/util/ArrayList" := Eq
      obtain ⟨T789, X789, e789, st789⟩ := castY X787 hx hZ hown (hw _ (List.mem_of_getElem? (i := 106) rfl)) R787 (Ins.of_exa Eq' (hw _ (List.mem_of_getElem? (i := 57) rfl))) (g := (mkF m 125 #[.val (.ref a), .val (.ref ow), .val (.ref pa), .val (.ref la), .val (.ref ls), .val (.ref ly), .val (.int (1 : Int32)), .val (.int (3 : Int32))] [(.ref b129)])) rfl rfl (hb hby own_ctor_d125)
      refine ownStep st789 ?_
      refine ownStep (fun _ k => XS.iload X789.here hx rfl (hb hby own_ctor_d128) rfl  k) ?_
      show ownGo p.tables e below (T789.setTop (mkF m 130 #[.val (.ref a), .val (.ref ow), .val (.ref pa), .val (.ref la), .val (.ref ls), .val (.ref ly), .val (.int (1 : Int32)), .val (.int (3 : Int32))] [(.int (3 : Int32)), (.ref b129)])) _
      have Q790 : Old Z n0 hj := (Q362.keep KQ (allS gn_b70 (allS gn_b129 (allS gn_b185 (allS gn_b236 (allS gn_b287 all0))))))
      have Zs792 : n0 ≤ hj.size := Nat.le_trans Z0 KP748.1
      obtain ⟨_, _, ⟨T791, L791, k791, n791⟩, -, X791, ⟨Lc791, hQ791, l791, y791, z791⟩, st791⟩ := Jvm.LawKit.callS X789 hx (y := (⟨"java/lang/Integer", "valueOf", "(I)Ljava/lang/Integer;"⟩ : MethodName)) hown (mvT hZ (hw _ (List.mem_of_getElem? (i := 107) rfl))) (mvT hZ (hw _ (List.mem_of_getElem? (i := 108) rfl))) (mvT hZ (hw _ (List.mem_of_getElem? (i := 109) rfl))) (mvT hZ (hw _ (List.mem_of_getElem? (i := 110) rfl))) (by decide) (backOf (W := 1) (own_val3 l Z a0 hw [] ed kd ca clc hj n0 Zs792 Q790 S V Sh Sc BX) hZ (hw _ (List.mem_of_getElem? (i := 110) rfl)) (hw _ (List.mem_of_getElem? (i := 109) rfl)) (by decide) (by decide)) (g := (mkF m 130 #[.val (.ref a), .val (.ref ow), .val (.ref pa), .val (.ref la), .val (.ref ls), .val (.ref ly), .val (.int (1 : Int32)), .val (.int (3 : Int32))] [(.int (3 : Int32)), (.ref b129)])) rfl (by rw [hml]; rfl) (argsL := [(.int (3 : Int32))]) (rest := [(.ref b129)]) (lenOf own_ctor_pd4 rfl) rfl (by show 2 * 0 + _ ≤ _; exact Nat.le_of_eq rfl) (hb hby own_ctor_d130) (fun _ _ => ⟨rfl, e789, (by decide : 15 + 0 ≤ _), (by decide : 98 + 0 ≤ _)⟩)
      dsimp only [Pt.U, Pt.locs, Pt.cells, Pt.slots] at X791 l791 y791 z791 st791 hQ791
      obtain rfl : k791 = 15 := y791
      obtain rfl : n791 = 98 := z791
      obtain ⟨r_791, rfl, N791q, R791, P793⟩ := hQ791
      have N791 : Fr n0 L791 := l791 ▸ Fr.app N787 N791q
      refine ownStep (fun _ k => st791 _ k) ?_
      rw [R791] at P793
      show ownGo p.tables e below (T791.setTop (mkF m 133 #[.val (.ref a), .val (.ref ow), .val (.ref pa), .val (.ref la), .val (.ref ls), .val (.ref ly), .val (.int (1 : Int32)), .val (.int (3 : Int32))] [(.ref r_791), (.ref b129)])) _
      rcases Dq with ⟨hdq, Fsq⟩ | ⟨gdq, nq, clq, Fsq, n1q, n2q, Aq, szq, Oq⟩
      · skip
        have Fmq' : Fld Z hj b129 "java/util/AbstractList" "modCount" "I" (.int mq) := Fmq
        have Feq' : Fld Z hj b129 "java/util/ArrayList" "elementData" "[Ljava/lang/Object;" (.ref ed) := hdq ▸ Feq
        have Fsq' : Fld Z hj b129 "java/util/ArrayList" "size" "I" (.int (0 : Int32)) := Fsq
        have Zs795 : n0 ≤ hj.size := Nat.le_trans Z0 KP748.1
        obtain ⟨cq794, kq794, q794a, q794b, q794c⟩ := isOf hZ R791 Eq'
        obtain ⟨_, _, ⟨T794, L794, k794, n794⟩, -, X794, ⟨Lc794, hQ794, l794, y794, z794⟩, st794⟩ := X791.interfaceBack hx (xi := (⟨"java/util/List", "add", "(Ljava/lang/Object;)Z"⟩ : MethodName)) (y := (⟨"java/util/ArrayList", "add", "(Ljava/lang/Object;)Z"⟩ : MethodName)) hown (mvT hZ (hw _ (List.mem_of_getElem? (i := 50) rfl))) (mvT hZ (hw _ (List.mem_of_getElem? (i := 51) rfl))) (mvT hZ (hw _ (List.mem_of_getElem? (i := 52) rfl))) (mvT hZ (hw _ (List.mem_of_getElem? (i := 53) rfl))) (mvT hZ (hw _ (List.mem_of_getElem? (i := 54) rfl))) (mvT hZ (hw _ (List.mem_of_getElem? (i := 55) rfl))) (mvT hZ (hw _ (List.mem_of_getElem? (i := 56) rfl))) (mvT hZ (hw _ (List.mem_of_getElem? (i := 57) rfl))) (by decide) (backOf (W := 0) (own_al_add_0 l Z a0 hw [] b129 ed kd mq r_791 hj n0 Zs795 Q790 S V Eq' Feq' Fsq' Fmq' gn_b129 (Ins.of_exa P793 (hw _ (List.mem_of_getElem? (i := 114) rfl)))) hZ (hw _ (List.mem_of_getElem? (i := 58) rfl)) (hw _ (List.mem_of_getElem? (i := 14) rfl)) (by decide) (by decide)) q794a q794b q794c (g := (mkF m 133 #[.val (.ref a), .val (.ref ow), .val (.ref pa), .val (.ref la), .val (.ref ls), .val (.ref ly), .val (.int (1 : Int32)), .val (.int (3 : Int32))] [(.ref r_791), (.ref b129)])) rfl (by rw [hml]; rfl) (Steps.refl _) (argsL := [(.ref r_791)]) (rest := []) (lenOf own_ctor_pd1 rfl) rfl (by show 2 * 0 + _ ≤ _; exact Nat.le_of_eq rfl) (hb hby own_ctor_d133) (fun _ _ => ⟨rfl, R791, (by decide : 15 + 1 ≤ _), (by decide : 98 + 10 ≤ _)⟩)
        dsimp only [Pt.U, Pt.locs, Pt.cells, Pt.slots] at X794 l794 y794 z794 st794 hQ794
        obtain rfl : k794 = 16 := y794
        obtain rfl : n794 = 108 := z794
        obtain ⟨dd_794, kk_794, rfl, N794q, R794, P796, P797, P798, P799, P800, P801⟩ := hQ794
        have N794 : Fr n0 L794 := l794 ▸ Fr.app N791 N794q
        have gh_dd_794 : h0.size ≤ dd_794 := Nat.le_trans KP748.1 P801
        have gn_dd_794 : n0 ≤ dd_794 := Nat.le_trans Z0 gh_dd_794
        refine ownStep (fun _ k => st794.trans k) ?_
        have KP802 : Keep h0 T794.heap [a] := KP748.trans R794 (allS (Or.inr gh_b129) all0)
        show ownGo p.tables e below (T794.setTop (mkF m 138 #[.val (.ref a), .val (.ref ow), .val (.ref pa), .val (.ref la), .val (.ref ls), .val (.ref ly), .val (.int (1 : Int32)), .val (.int (3 : Int32))] [(.int (1 : Int32))])) _
        have Q803 : Exa Z T794.heap b129 "java/util/ArrayList" := (Eq'.keep R794)
        have CH' := back _ dd_794 (Or.inl R794) (own_WL_first (by decide) (Nat.le_trans KQ.1 P801) Q803 P796 P798 P797 P799 P800) (Or.inr P801)
        have KQ' := KQ.trans R794 (allS (Or.inl (List.mem_of_getElem? (i := 1) rfl)) all0)
        refine ownStep (fun _ k => XS.pop X794.here hx rfl (hb hby own_ctor_d138) rfl rfl k) ?_
        refine ownStep (fun _ k => XS.iinc X794.here hx rfl (hb hby own_ctor_d139) rfl (l' := #[.val (.ref a), .val (.ref ow), .val (.ref pa), .val (.ref la), .val (.ref ls), .val (.ref ly), .val (.int (1 : Int32)), .val (.int (4 : Int32))]) rfl k) ?_
        refine ownStep (fun _ k => XS.goto X794.here hx rfl (pc0 := 142) (pc' := 105) rfl (hb hby own_ctor_d142) (by decide) (by decide) k) ?_
        show ownGo p.tables e below (T794.setTop (mkF m 105 #[.val (.ref a), .val (.ref ow), .val (.ref pa), .val (.ref la), .val (.ref ls), .val (.ref ly), .val (.int (1 : Int32)), .val (.int (4 : Int32))] [])) _
        exact J4 _ _ X794 _ rfl N794 KQ' CH'
      · skip
        have Fmq' : Fld Z hj b129 "java/util/AbstractList" "modCount" "I" (.int mq) := Fmq
        have Feq' : Fld Z hj b129 "java/util/ArrayList" "elementData" "[Ljava/lang/Object;" (.ref dq) := Feq
        have Fsq' : Fld Z hj b129 "java/util/ArrayList" "size" "I" (.int nq) := Fsq
        have gh_dq : h0.size ≤ dq := Nat.le_trans KP331.1 gdq
        have gn_dq : n0 ≤ dq := Nat.le_trans Z0 gh_dq
        have nadq : b129 ≠ dq := Nat.ne_of_lt (Nat.lt_of_lt_of_le (own_hb 1) gdq)
        have Zs805 : n0 ≤ hj.size := Nat.le_trans Z0 KP748.1
        obtain ⟨cq804, kq804, q804a, q804b, q804c⟩ := isOf hZ R791 Eq'
        obtain ⟨_, _, ⟨T804, L804, k804, n804⟩, -, X804, ⟨Lc804, hQ804, l804, y804, z804⟩, st804⟩ := X791.interfaceBack hx (xi := (⟨"java/util/List", "add", "(Ljava/lang/Object;)Z"⟩ : MethodName)) (y := (⟨"java/util/ArrayList", "add", "(Ljava/lang/Object;)Z"⟩ : MethodName)) hown (mvT hZ (hw _ (List.mem_of_getElem? (i := 50) rfl))) (mvT hZ (hw _ (List.mem_of_getElem? (i := 51) rfl))) (mvT hZ (hw _ (List.mem_of_getElem? (i := 52) rfl))) (mvT hZ (hw _ (List.mem_of_getElem? (i := 53) rfl))) (mvT hZ (hw _ (List.mem_of_getElem? (i := 54) rfl))) (mvT hZ (hw _ (List.mem_of_getElem? (i := 55) rfl))) (mvT hZ (hw _ (List.mem_of_getElem? (i := 56) rfl))) (mvT hZ (hw _ (List.mem_of_getElem? (i := 57) rfl))) (by decide) (backOf (W := 0) (own_al_addS l Z a0 hw [] b129 dq clq nq mq r_791 hj n0 Zs805 Eq' Feq' Fsq' Fmq' Aq szq Oq n1q (own_lt10 (by decide) n2q) gn_b129 gn_dq nadq (Ins.of_exa P793 (hw _ (List.mem_of_getElem? (i := 114) rfl)))) hZ (hw _ (List.mem_of_getElem? (i := 58) rfl)) (hw _ (List.mem_of_getElem? (i := 14) rfl)) (by decide) (by decide)) q804a q804b q804c (g := (mkF m 133 #[.val (.ref a), .val (.ref ow), .val (.ref pa), .val (.ref la), .val (.ref ls), .val (.ref ly), .val (.int (1 : Int32)), .val (.int (3 : Int32))] [(.ref r_791), (.ref b129)])) rfl (by rw [hml]; rfl) (Steps.refl _) (argsL := [(.ref r_791)]) (rest := []) (lenOf own_ctor_pd1 rfl) rfl (by show 2 * 0 + _ ≤ _; exact Nat.le_of_eq rfl) (hb hby own_ctor_d133) (fun _ _ => ⟨rfl, R791, (by decide : 15 + 1 ≤ _), (by decide : 98 + 10 ≤ _)⟩)
        dsimp only [Pt.U, Pt.locs, Pt.cells, Pt.slots] at X804 l804 y804 z804 st804 hQ804
        obtain rfl : k804 = 16 := y804
        obtain rfl : n804 = 108 := z804
        obtain ⟨rfl, N804q, R804, P806, P807, P808, P809⟩ := hQ804
        have N804 : Fr n0 L804 := l804 ▸ Fr.app N791 N804q
        refine ownStep (fun _ k => st804.trans k) ?_
        have KP810 : Keep h0 T804.heap [a] := KP748.trans R804 (allS (Or.inr gh_b129) (allS (Or.inr gh_dq) all0))
        show ownGo p.tables e below (T804.setTop (mkF m 138 #[.val (.ref a), .val (.ref ow), .val (.ref pa), .val (.ref la), .val (.ref ls), .val (.ref ly), .val (.int (1 : Int32)), .val (.int (3 : Int32))] [(.int (1 : Int32))])) _
        have Q811 : Exa Z T804.heap b129 "java/util/ArrayList" := (Eq'.keep R804)
        have CH' := back _ dq (Or.inr ⟨gdq, R804⟩) (own_WL_more n1q n2q (by decide) gdq szq Oq Q811 P806 P808 P807 P809) (Or.inl rfl)
        have KQ' := KQ.trans R804 (allS (Or.inl (List.mem_of_getElem? (i := 1) rfl)) (allS (Or.inr gdq) all0))
        refine ownStep (fun _ k => XS.pop X804.here hx rfl (hb hby own_ctor_d138) rfl rfl k) ?_
        refine ownStep (fun _ k => XS.iinc X804.here hx rfl (hb hby own_ctor_d139) rfl (l' := #[.val (.ref a), .val (.ref ow), .val (.ref pa), .val (.ref la), .val (.ref ls), .val (.ref ly), .val (.int (1 : Int32)), .val (.int (4 : Int32))]) rfl k) ?_
        refine ownStep (fun _ k => XS.goto X804.here hx rfl (pc0 := 142) (pc' := 105) rfl (hb hby own_ctor_d142) (by decide) (by decide) k) ?_
        show ownGo p.tables e below (T804.setTop (mkF m 105 #[.val (.ref a), .val (.ref ow), .val (.ref pa), .val (.ref la), .val (.ref ls), .val (.ref ly), .val (.int (1 : Int32)), .val (.int (4 : Int32))] [])) _
        exact J4 _ _ X804 _ rfl N804 KQ' CH'
    · skip
      show ownGo p.tables e below (T752.setTop (mkF m 120 #[.val (.ref a), .val (.ref ow), .val (.ref pa), .val (.ref la), .val (.ref ls), .val (.ref ly), .val (.int (1 : Int32)), .val (.int (3 : Int32))] [(.int (2 : Int32)), (.ref b2)])) _
      have Q812 : Exa Z hj b2 "java/util/ArrayList" := (Q379.keep KQ)
      have Q813 : Fld Z hj b2 "java/util/ArrayList" "elementData" "[Ljava/lang/Object;" (.ref dd_89) := (Q407.keep KQ (ninS ne85 (ninS ne144 (ninS ne199 (ninS ne250 (ninS ne301 nin0))))))
      have Q814 : Fld Z hj b2 "java/util/ArrayList" "size" "I" (.int (5 : Int32)) := (Q408.keep KQ (ninS ne85 (ninS ne144 (ninS ne199 (ninS ne250 (ninS ne301 nin0))))))
      have Q815 : Arv Z hj dd_89 kk_89 (.object "java/lang/Object") (10 : Int32) [(.ref b70), (.ref b129), (.ref b185), (.ref b236), (.ref b287), .null, .null, .null, .null, .null] .null := (Q410.keep KQ (ninS (Ne.symm ne361) (ninS ne150 (ninS ne203 (ninS ne254 (ninS ne305 nin0))))))
      have Zs817 : n0 ≤ hj.size := Nat.le_trans Z0 KP748.1
      obtain ⟨cq816, kq816, q816a, q816b, q816c⟩ := isOf hZ e752 Q812
      obtain ⟨_, _, ⟨T816, L816, k816, n816⟩, -, X816, ⟨Lc816, hQ816, l816, y816, z816⟩, st816⟩ := X752.interfaceBack hx (xi := (⟨"java/util/List", "get", "(I)Ljava/lang/Object;"⟩ : MethodName)) (y := (⟨"java/util/ArrayList", "get", "(I)Ljava/lang/Object;"⟩ : MethodName)) hown (mvT hZ (hw _ (List.mem_of_getElem? (i := 85) rfl))) (mvT hZ (hw _ (List.mem_of_getElem? (i := 86) rfl))) (mvT hZ (hw _ (List.mem_of_getElem? (i := 87) rfl))) (mvT hZ (hw _ (List.mem_of_getElem? (i := 88) rfl))) (mvT hZ (hw _ (List.mem_of_getElem? (i := 89) rfl))) (mvT hZ (hw _ (List.mem_of_getElem? (i := 90) rfl))) (mvT hZ (hw _ (List.mem_of_getElem? (i := 91) rfl))) (mvT hZ (hw _ (List.mem_of_getElem? (i := 57) rfl))) (by decide) (backOf (W := 0) (own_al_get_5_2 l Z a0 hw [] b2 dd_89 kk_89 (.ref b70) (.ref b129) (.ref b236) (.ref b287) b185 hj n0 Zs817 Q812 Q813 Q814 Q815) hZ (hw _ (List.mem_of_getElem? (i := 92) rfl)) (hw _ (List.mem_of_getElem? (i := 14) rfl)) (by decide) (by decide)) q816a q816b q816c (g := (mkF m 120 #[.val (.ref a), .val (.ref ow), .val (.ref pa), .val (.ref la), .val (.ref ls), .val (.ref ly), .val (.int (1 : Int32)), .val (.int (3 : Int32))] [(.int (2 : Int32)), (.ref b2)])) rfl (by rw [hml]; rfl) (Steps.refl _) (argsL := [(.int (2 : Int32))]) (rest := []) (lenOf own_ctor_pd3 rfl) rfl (by show 2 * 0 + _ ≤ _; exact Nat.le_of_eq rfl) (hb hby own_ctor_d120) (fun _ _ => ⟨rfl, e752, (by decide : 15 + 0 ≤ _), (by decide : 98 + 0 ≤ _)⟩)
      dsimp only [Pt.U, Pt.locs, Pt.cells, Pt.slots] at X816 l816 y816 z816 st816 hQ816
      obtain rfl : k816 = 15 := y816
      obtain rfl : n816 = 98 := z816
      obtain ⟨rfl, N816q, R816⟩ := hQ816
      have N816 : Fr n0 L816 := l816 ▸ Fr.app Nj N816q
      refine ownStep (fun _ k => st816.trans k) ?_
      show ownGo p.tables e below (T816.setTop (mkF m 125 #[.val (.ref a), .val (.ref ow), .val (.ref pa), .val (.ref la), .val (.ref ls), .val (.ref ly), .val (.int (1 : Int32)), .val (.int (3 : Int32))] [(.ref b185)])) _
      obtain ⟨dq, ⟨Eq, Feq, ⟨mq, Fmq⟩, Dq⟩, back⟩ := own_CH_at (m' := (3 : Int32)) CHj own_cs own_hb own_edh KQ.1 (own_mono (by decide)) (2 : Fin 5)
      have Eq' : Exa Z hj b185 "java/util/ArrayList" := Eq
      obtain ⟨T818, X818, e818, st818⟩ := castY X816 hx hZ hown (hw _ (List.mem_of_getElem? (i := 106) rfl)) R816 (Ins.of_exa Eq' (hw _ (List.mem_of_getElem? (i := 57) rfl))) (g := (mkF m 125 #[.val (.ref a), .val (.ref ow), .val (.ref pa), .val (.ref la), .val (.ref ls), .val (.ref ly), .val (.int (1 : Int32)), .val (.int (3 : Int32))] [(.ref b185)])) rfl rfl (hb hby own_ctor_d125)
      refine ownStep st818 ?_
      refine ownStep (fun _ k => XS.iload X818.here hx rfl (hb hby own_ctor_d128) rfl  k) ?_
      show ownGo p.tables e below (T818.setTop (mkF m 130 #[.val (.ref a), .val (.ref ow), .val (.ref pa), .val (.ref la), .val (.ref ls), .val (.ref ly), .val (.int (1 : Int32)), .val (.int (3 : Int32))] [(.int (3 : Int32)), (.ref b185)])) _
      have Q819 : Old Z n0 hj := (Q362.keep KQ (allS gn_b70 (allS gn_b129 (allS gn_b185 (allS gn_b236 (allS gn_b287 all0))))))
      have Zs821 : n0 ≤ hj.size := Nat.le_trans Z0 KP748.1
      obtain ⟨_, _, ⟨T820, L820, k820, n820⟩, -, X820, ⟨Lc820, hQ820, l820, y820, z820⟩, st820⟩ := Jvm.LawKit.callS X818 hx (y := (⟨"java/lang/Integer", "valueOf", "(I)Ljava/lang/Integer;"⟩ : MethodName)) hown (mvT hZ (hw _ (List.mem_of_getElem? (i := 107) rfl))) (mvT hZ (hw _ (List.mem_of_getElem? (i := 108) rfl))) (mvT hZ (hw _ (List.mem_of_getElem? (i := 109) rfl))) (mvT hZ (hw _ (List.mem_of_getElem? (i := 110) rfl))) (by decide) (backOf (W := 1) (own_val3 l Z a0 hw [] ed kd ca clc hj n0 Zs821 Q819 S V Sh Sc BX) hZ (hw _ (List.mem_of_getElem? (i := 110) rfl)) (hw _ (List.mem_of_getElem? (i := 109) rfl)) (by decide) (by decide)) (g := (mkF m 130 #[.val (.ref a), .val (.ref ow), .val (.ref pa), .val (.ref la), .val (.ref ls), .val (.ref ly), .val (.int (1 : Int32)), .val (.int (3 : Int32))] [(.int (3 : Int32)), (.ref b185)])) rfl (by rw [hml]; rfl) (argsL := [(.int (3 : Int32))]) (rest := [(.ref b185)]) (lenOf own_ctor_pd4 rfl) rfl (by show 2 * 0 + _ ≤ _; exact Nat.le_of_eq rfl) (hb hby own_ctor_d130) (fun _ _ => ⟨rfl, e818, (by decide : 15 + 0 ≤ _), (by decide : 98 + 0 ≤ _)⟩)
      dsimp only [Pt.U, Pt.locs, Pt.cells, Pt.slots] at X820 l820 y820 z820 st820 hQ820
      obtain rfl : k820 = 15 := y820
      obtain rfl : n820 = 98 := z820
      obtain ⟨r_820, rfl, N820q, R820, P822⟩ := hQ820
      have N820 : Fr n0 L820 := l820 ▸ Fr.app N816 N820q
      refine ownStep (fun _ k => st820 _ k) ?_
      rw [R820] at P822
      show ownGo p.tables e below (T820.setTop (mkF m 133 #[.val (.ref a), .val (.ref ow), .val (.ref pa), .val (.ref la), .val (.ref ls), .val (.ref ly), .val (.int (1 : Int32)), .val (.int (3 : Int32))] [(.ref r_820), (.ref b185)])) _
      rcases Dq with ⟨hdq, Fsq⟩ | ⟨gdq, nq, clq, Fsq, n1q, n2q, Aq, szq, Oq⟩
      · skip
        have Fmq' : Fld Z hj b185 "java/util/AbstractList" "modCount" "I" (.int mq) := Fmq
        have Feq' : Fld Z hj b185 "java/util/ArrayList" "elementData" "[Ljava/lang/Object;" (.ref ed) := hdq ▸ Feq
        have Fsq' : Fld Z hj b185 "java/util/ArrayList" "size" "I" (.int (0 : Int32)) := Fsq
        have Zs824 : n0 ≤ hj.size := Nat.le_trans Z0 KP748.1
        obtain ⟨cq823, kq823, q823a, q823b, q823c⟩ := isOf hZ R820 Eq'
        obtain ⟨_, _, ⟨T823, L823, k823, n823⟩, -, X823, ⟨Lc823, hQ823, l823, y823, z823⟩, st823⟩ := X820.interfaceBack hx (xi := (⟨"java/util/List", "add", "(Ljava/lang/Object;)Z"⟩ : MethodName)) (y := (⟨"java/util/ArrayList", "add", "(Ljava/lang/Object;)Z"⟩ : MethodName)) hown (mvT hZ (hw _ (List.mem_of_getElem? (i := 50) rfl))) (mvT hZ (hw _ (List.mem_of_getElem? (i := 51) rfl))) (mvT hZ (hw _ (List.mem_of_getElem? (i := 52) rfl))) (mvT hZ (hw _ (List.mem_of_getElem? (i := 53) rfl))) (mvT hZ (hw _ (List.mem_of_getElem? (i := 54) rfl))) (mvT hZ (hw _ (List.mem_of_getElem? (i := 55) rfl))) (mvT hZ (hw _ (List.mem_of_getElem? (i := 56) rfl))) (mvT hZ (hw _ (List.mem_of_getElem? (i := 57) rfl))) (by decide) (backOf (W := 0) (own_al_add_0 l Z a0 hw [] b185 ed kd mq r_820 hj n0 Zs824 Q819 S V Eq' Feq' Fsq' Fmq' gn_b185 (Ins.of_exa P822 (hw _ (List.mem_of_getElem? (i := 114) rfl)))) hZ (hw _ (List.mem_of_getElem? (i := 58) rfl)) (hw _ (List.mem_of_getElem? (i := 14) rfl)) (by decide) (by decide)) q823a q823b q823c (g := (mkF m 133 #[.val (.ref a), .val (.ref ow), .val (.ref pa), .val (.ref la), .val (.ref ls), .val (.ref ly), .val (.int (1 : Int32)), .val (.int (3 : Int32))] [(.ref r_820), (.ref b185)])) rfl (by rw [hml]; rfl) (Steps.refl _) (argsL := [(.ref r_820)]) (rest := []) (lenOf own_ctor_pd1 rfl) rfl (by show 2 * 0 + _ ≤ _; exact Nat.le_of_eq rfl) (hb hby own_ctor_d133) (fun _ _ => ⟨rfl, R820, (by decide : 15 + 1 ≤ _), (by decide : 98 + 10 ≤ _)⟩)
        dsimp only [Pt.U, Pt.locs, Pt.cells, Pt.slots] at X823 l823 y823 z823 st823 hQ823
        obtain rfl : k823 = 16 := y823
        obtain rfl : n823 = 108 := z823
        obtain ⟨dd_823, kk_823, rfl, N823q, R823, P825, P826, P827, P828, P829, P830⟩ := hQ823
        have N823 : Fr n0 L823 := l823 ▸ Fr.app N820 N823q
        have gh_dd_823 : h0.size ≤ dd_823 := Nat.le_trans KP748.1 P830
        have gn_dd_823 : n0 ≤ dd_823 := Nat.le_trans Z0 gh_dd_823
        refine ownStep (fun _ k => st823.trans k) ?_
        have KP831 : Keep h0 T823.heap [a] := KP748.trans R823 (allS (Or.inr gh_b185) all0)
        show ownGo p.tables e below (T823.setTop (mkF m 138 #[.val (.ref a), .val (.ref ow), .val (.ref pa), .val (.ref la), .val (.ref ls), .val (.ref ly), .val (.int (1 : Int32)), .val (.int (3 : Int32))] [(.int (1 : Int32))])) _
        have Q832 : Exa Z T823.heap b185 "java/util/ArrayList" := (Eq'.keep R823)
        have CH' := back _ dd_823 (Or.inl R823) (own_WL_first (by decide) (Nat.le_trans KQ.1 P830) Q832 P825 P827 P826 P828 P829) (Or.inr P830)
        have KQ' := KQ.trans R823 (allS (Or.inl (List.mem_of_getElem? (i := 2) rfl)) all0)
        refine ownStep (fun _ k => XS.pop X823.here hx rfl (hb hby own_ctor_d138) rfl rfl k) ?_
        refine ownStep (fun _ k => XS.iinc X823.here hx rfl (hb hby own_ctor_d139) rfl (l' := #[.val (.ref a), .val (.ref ow), .val (.ref pa), .val (.ref la), .val (.ref ls), .val (.ref ly), .val (.int (1 : Int32)), .val (.int (4 : Int32))]) rfl k) ?_
        refine ownStep (fun _ k => XS.goto X823.here hx rfl (pc0 := 142) (pc' := 105) rfl (hb hby own_ctor_d142) (by decide) (by decide) k) ?_
        show ownGo p.tables e below (T823.setTop (mkF m 105 #[.val (.ref a), .val (.ref ow), .val (.ref pa), .val (.ref la), .val (.ref ls), .val (.ref ly), .val (.int (1 : Int32)), .val (.int (4 : Int32))] [])) _
        exact J4 _ _ X823 _ rfl N823 KQ' CH'
      · skip
        have Fmq' : Fld Z hj b185 "java/util/AbstractList" "modCount" "I" (.int mq) := Fmq
        have Feq' : Fld Z hj b185 "java/util/ArrayList" "elementData" "[Ljava/lang/Object;" (.ref dq) := Feq
        have Fsq' : Fld Z hj b185 "java/util/ArrayList" "size" "I" (.int nq) := Fsq
        have gh_dq : h0.size ≤ dq := Nat.le_trans KP331.1 gdq
        have gn_dq : n0 ≤ dq := Nat.le_trans Z0 gh_dq
        have nadq : b185 ≠ dq := Nat.ne_of_lt (Nat.lt_of_lt_of_le (own_hb 2) gdq)
        have Zs834 : n0 ≤ hj.size := Nat.le_trans Z0 KP748.1
        obtain ⟨cq833, kq833, q833a, q833b, q833c⟩ := isOf hZ R820 Eq'
        obtain ⟨_, _, ⟨T833, L833, k833, n833⟩, -, X833, ⟨Lc833, hQ833, l833, y833, z833⟩, st833⟩ := X820.interfaceBack hx (xi := (⟨"java/util/List", "add", "(Ljava/lang/Object;)Z"⟩ : MethodName)) (y := (⟨"java/util/ArrayList", "add", "(Ljava/lang/Object;)Z"⟩ : MethodName)) hown (mvT hZ (hw _ (List.mem_of_getElem? (i := 50) rfl))) (mvT hZ (hw _ (List.mem_of_getElem? (i := 51) rfl))) (mvT hZ (hw _ (List.mem_of_getElem? (i := 52) rfl))) (mvT hZ (hw _ (List.mem_of_getElem? (i := 53) rfl))) (mvT hZ (hw _ (List.mem_of_getElem? (i := 54) rfl))) (mvT hZ (hw _ (List.mem_of_getElem? (i := 55) rfl))) (mvT hZ (hw _ (List.mem_of_getElem? (i := 56) rfl))) (mvT hZ (hw _ (List.mem_of_getElem? (i := 57) rfl))) (by decide) (backOf (W := 0) (own_al_addS l Z a0 hw [] b185 dq clq nq mq r_820 hj n0 Zs834 Eq' Feq' Fsq' Fmq' Aq szq Oq n1q (own_lt10 (by decide) n2q) gn_b185 gn_dq nadq (Ins.of_exa P822 (hw _ (List.mem_of_getElem? (i := 114) rfl)))) hZ (hw _ (List.mem_of_getElem? (i := 58) rfl)) (hw _ (List.mem_of_getElem? (i := 14) rfl)) (by decide) (by decide)) q833a q833b q833c (g := (mkF m 133 #[.val (.ref a), .val (.ref ow), .val (.ref pa), .val (.ref la), .val (.ref ls), .val (.ref ly), .val (.int (1 : Int32)), .val (.int (3 : Int32))] [(.ref r_820), (.ref b185)])) rfl (by rw [hml]; rfl) (Steps.refl _) (argsL := [(.ref r_820)]) (rest := []) (lenOf own_ctor_pd1 rfl) rfl (by show 2 * 0 + _ ≤ _; exact Nat.le_of_eq rfl) (hb hby own_ctor_d133) (fun _ _ => ⟨rfl, R820, (by decide : 15 + 1 ≤ _), (by decide : 98 + 10 ≤ _)⟩)
        dsimp only [Pt.U, Pt.locs, Pt.cells, Pt.slots] at X833 l833 y833 z833 st833 hQ833
        obtain rfl : k833 = 16 := y833
        obtain rfl : n833 = 108 := z833
        obtain ⟨rfl, N833q, R833, P835, P836, P837, P838⟩ := hQ833
        have N833 : Fr n0 L833 := l833 ▸ Fr.app N820 N833q
        refine ownStep (fun _ k => st833.trans k) ?_
        have KP839 : Keep h0 T833.heap [a] := KP748.trans R833 (allS (Or.inr gh_b185) (allS (Or.inr gh_dq) all0))
        show ownGo p.tables e below (T833.setTop (mkF m 138 #[.val (.ref a), .val (.ref ow), .val (.ref pa), .val (.ref la), .val (.ref ls), .val (.ref ly), .val (.int (1 : Int32)), .val (.int (3 : Int32))] [(.int (1 : Int32))])) _
        have Q840 : Exa Z T833.heap b185 "java/util/ArrayList" := (Eq'.keep R833)
        have CH' := back _ dq (Or.inr ⟨gdq, R833⟩) (own_WL_more n1q n2q (by decide) gdq szq Oq Q840 P835 P837 P836 P838) (Or.inl rfl)
        have KQ' := KQ.trans R833 (allS (Or.inl (List.mem_of_getElem? (i := 2) rfl)) (allS (Or.inr gdq) all0))
        refine ownStep (fun _ k => XS.pop X833.here hx rfl (hb hby own_ctor_d138) rfl rfl k) ?_
        refine ownStep (fun _ k => XS.iinc X833.here hx rfl (hb hby own_ctor_d139) rfl (l' := #[.val (.ref a), .val (.ref ow), .val (.ref pa), .val (.ref la), .val (.ref ls), .val (.ref ly), .val (.int (1 : Int32)), .val (.int (4 : Int32))]) rfl k) ?_
        refine ownStep (fun _ k => XS.goto X833.here hx rfl (pc0 := 142) (pc' := 105) rfl (hb hby own_ctor_d142) (by decide) (by decide) k) ?_
        show ownGo p.tables e below (T833.setTop (mkF m 105 #[.val (.ref a), .val (.ref ow), .val (.ref pa), .val (.ref la), .val (.ref ls), .val (.ref ly), .val (.int (1 : Int32)), .val (.int (4 : Int32))] [])) _
        exact J4 _ _ X833 _ rfl N833 KQ' CH'
  have J2 : ∀ (Tj : State) (Lj : List Loc) (Xj : Stand p l e ({ frames := 5, cells := 17, slots := 118, locals := 69 } : Room) s m #[(.ref a), (.ref ow), (.ref pa), (.ref la), (.ref ls), (.ref ly), (.int (1 : Int32))] below meth c Tj Lj 14 88) (hj : Heap) (ej : Tj.heap = hj) (Nj : Fr n0 Lj) (KQ : Keep h329 hj [b70, b129, b185, b236, b287]) (CHj : own_CH Z h329.size ed (1 : Int32) hj (own_c5 b70 b129 b185 b236 b287)), ownGo p.tables e below (Tj.setTop (mkF m 105 #[.val (.ref a), .val (.ref ow), .val (.ref pa), .val (.ref la), .val (.ref ls), .val (.ref ly), .val (.int (1 : Int32)), .val (.int (2 : Int32))] [])) (ownEnd below s (own_ctor_Q Z ed kd ca clc a ow pa la ls ly ko kp kl ky a2 a3 a4 o0 o1 h0 n0) ({ frames := 5, cells := 17, slots := 118, locals := 69 } : Room).cells ({ frames := 5, cells := 17, slots := 118, locals := 69 } : Room).slots) := by
    intro Tj Lj Xj hj ej Nj KQ CHj
    have KP841 : Keep h0 hj [a] := KP331.trans KQ (allS (Or.inr gh_b70) (allS (Or.inr gh_b129) (allS (Or.inr gh_b185) (allS (Or.inr gh_b236) (allS (Or.inr gh_b287) all0)))))
    refine ownStep (fun _ k => XS.iload Xj.here hx rfl (hb hby own_ctor_d105) rfl  k) ?_
    refine ownStep (fun _ k => XS.aloadN Xj.here hx rfl (hb hby own_ctor_d107) rfl rfl k) ?_
    show ownGo p.tables e below (Tj.setTop (mkF m 108 #[.val (.ref a), .val (.ref ow), .val (.ref pa), .val (.ref la), .val (.ref ls), .val (.ref ly), .val (.int (1 : Int32)), .val (.int (2 : Int32))] [(.ref pa), (.int (2 : Int32))])) _
    have Q843 : Arv Z hj pa kp .int (5 : Int32) [(.int (-1 : Int32)), (.int (0 : Int32)), (.int a2), (.int a3), (.int a4)] (.int (0 : Int32)) := (Q335.keep KQ (ninS ne123 (ninS ne180 (ninS ne232 (ninS ne283 (ninS ne334 nin0))))))
    have Vo842 := Q843
    obtain ⟨cl842, Ar842, q842, S842, N842, H842, G842⟩ := Vo842
    refine ownStep (Xj.arraylength hx (by rw [ej]; exact Ar842.1) (State.isArrayOf_alike hZ.alike Ar842.2.1) (g := (mkF m 108 #[.val (.ref a), .val (.ref ow), .val (.ref pa), .val (.ref la), .val (.ref ls), .val (.ref ly), .val (.int (1 : Int32)), .val (.int (2 : Int32))] [(.ref pa), (.int (2 : Int32))])) rfl rfl (hb hby own_ctor_d108)) ?_
    rw [len_of S842 N842]
    refine ownStep (fun _ k => XS.icmpNo Xj.here hx rfl (hb hby own_ctor_d109) rfl (tlt (by decide : (2 : Int32) < (5 : Int32))).2.1 k) ?_
    refine ownStep (fun _ k => XS.aloadN Xj.here hx rfl (hb hby own_ctor_d112) rfl rfl k) ?_
    show ownGo p.tables e below (Tj.setTop (mkF m 113 #[.val (.ref a), .val (.ref ow), .val (.ref pa), .val (.ref la), .val (.ref ls), .val (.ref ly), .val (.int (1 : Int32)), .val (.int (2 : Int32))] [(.ref a)])) _
    have Q844 : Fld Z hj a "com/example/adept_layout/adeptlayout/layout/Nesting" "children" "Ljava/util/List;" (.ref b2) := (Q380.keep KQ (ninS ne98 (ninS ne159 (ninS ne212 (ninS ne263 (ninS ne314 nin0))))))
    obtain ⟨T845, X845, e845, st845⟩ := getF Xj hx hZ hown (host := "") (Or.inl (hw _ (List.mem_of_getElem? (i := 36) rfl))) Via.refl ej Q844 (g := (mkF m 113 #[.val (.ref a), .val (.ref ow), .val (.ref pa), .val (.ref la), .val (.ref ls), .val (.ref ly), .val (.int (1 : Int32)), .val (.int (2 : Int32))] [(.ref a)])) rfl rfl (hb hby own_ctor_d113)
    refine ownStep st845 ?_
    refine ownStep (fun _ k => XS.aloadN X845.here hx rfl (hb hby own_ctor_d116) rfl rfl k) ?_
    refine ownStep (fun _ k => XS.iload X845.here hx rfl (hb hby own_ctor_d117) rfl  k) ?_
    show ownGo p.tables e below (T845.setTop (mkF m 119 #[.val (.ref a), .val (.ref ow), .val (.ref pa), .val (.ref la), .val (.ref ls), .val (.ref ly), .val (.int (1 : Int32)), .val (.int (2 : Int32))] [(.int (2 : Int32)), (.ref pa), (.ref b2)])) _
    have Vo846 := Q843
    obtain ⟨cl846, Ar846, q846, S846, N846, H846, G846⟩ := Vo846
    have hin846 : ¬ ((2 : Int32) < 0 ∨ cl846.slots.size ≤ ((2 : Int32)).toNatClampNeg) := inb_of S846 ⟨by decide, by decide⟩
    refine ownStep (X845.iaload hx (j := (2 : Int32)) (v := (.int a2)) (by rw [e845]; exact Ar846.1) (State.isArrayOf_alike hZ.alike Ar846.2.1) Ar846.2.2 hin846 (H846.at hin846 rfl) (g := (mkF m 119 #[.val (.ref a), .val (.ref ow), .val (.ref pa), .val (.ref la), .val (.ref ls), .val (.ref ly), .val (.int (1 : Int32)), .val (.int (2 : Int32))] [(.int (2 : Int32)), (.ref pa), (.ref b2)])) rfl rfl (hb hby own_ctor_d119)) ?_
    show ownGo p.tables e below (T845.setTop (mkF m 120 #[.val (.ref a), .val (.ref ow), .val (.ref pa), .val (.ref la), .val (.ref ls), .val (.ref ly), .val (.int (1 : Int32)), .val (.int (2 : Int32))] [(.int a2), (.ref b2)])) _
    rcases ra2 with rfl | rfl
    · skip
      show ownGo p.tables e below (T845.setTop (mkF m 120 #[.val (.ref a), .val (.ref ow), .val (.ref pa), .val (.ref la), .val (.ref ls), .val (.ref ly), .val (.int (1 : Int32)), .val (.int (2 : Int32))] [(.int (0 : Int32)), (.ref b2)])) _
      have Q847 : Exa Z hj b2 "java/util/ArrayList" := (Q379.keep KQ)
      have Q848 : Fld Z hj b2 "java/util/ArrayList" "elementData" "[Ljava/lang/Object;" (.ref dd_89) := (Q407.keep KQ (ninS ne85 (ninS ne144 (ninS ne199 (ninS ne250 (ninS ne301 nin0))))))
      have Q849 : Fld Z hj b2 "java/util/ArrayList" "size" "I" (.int (5 : Int32)) := (Q408.keep KQ (ninS ne85 (ninS ne144 (ninS ne199 (ninS ne250 (ninS ne301 nin0))))))
      have Q850 : Arv Z hj dd_89 kk_89 (.object "java/lang/Object") (10 : Int32) [(.ref b70), (.ref b129), (.ref b185), (.ref b236), (.ref b287), .null, .null, .null, .null, .null] .null := (Q410.keep KQ (ninS (Ne.symm ne361) (ninS ne150 (ninS ne203 (ninS ne254 (ninS ne305 nin0))))))
      have Zs852 : n0 ≤ hj.size := Nat.le_trans Z0 KP841.1
      obtain ⟨cq851, kq851, q851a, q851b, q851c⟩ := isOf hZ e845 Q847
      obtain ⟨_, _, ⟨T851, L851, k851, n851⟩, -, X851, ⟨Lc851, hQ851, l851, y851, z851⟩, st851⟩ := X845.interfaceBack hx (xi := (⟨"java/util/List", "get", "(I)Ljava/lang/Object;"⟩ : MethodName)) (y := (⟨"java/util/ArrayList", "get", "(I)Ljava/lang/Object;"⟩ : MethodName)) hown (mvT hZ (hw _ (List.mem_of_getElem? (i := 85) rfl))) (mvT hZ (hw _ (List.mem_of_getElem? (i := 86) rfl))) (mvT hZ (hw _ (List.mem_of_getElem? (i := 87) rfl))) (mvT hZ (hw _ (List.mem_of_getElem? (i := 88) rfl))) (mvT hZ (hw _ (List.mem_of_getElem? (i := 89) rfl))) (mvT hZ (hw _ (List.mem_of_getElem? (i := 90) rfl))) (mvT hZ (hw _ (List.mem_of_getElem? (i := 91) rfl))) (mvT hZ (hw _ (List.mem_of_getElem? (i := 57) rfl))) (by decide) (backOf (W := 0) (own_al_get_5_0 l Z a0 hw [] b2 dd_89 kk_89 (.ref b129) (.ref b185) (.ref b236) (.ref b287) b70 hj n0 Zs852 Q847 Q848 Q849 Q850) hZ (hw _ (List.mem_of_getElem? (i := 92) rfl)) (hw _ (List.mem_of_getElem? (i := 14) rfl)) (by decide) (by decide)) q851a q851b q851c (g := (mkF m 120 #[.val (.ref a), .val (.ref ow), .val (.ref pa), .val (.ref la), .val (.ref ls), .val (.ref ly), .val (.int (1 : Int32)), .val (.int (2 : Int32))] [(.int (0 : Int32)), (.ref b2)])) rfl (by rw [hml]; rfl) (Steps.refl _) (argsL := [(.int (0 : Int32))]) (rest := []) (lenOf own_ctor_pd3 rfl) rfl (by show 2 * 0 + _ ≤ _; exact Nat.le_of_eq rfl) (hb hby own_ctor_d120) (fun _ _ => ⟨rfl, e845, (by decide : 14 + 0 ≤ _), (by decide : 88 + 0 ≤ _)⟩)
      dsimp only [Pt.U, Pt.locs, Pt.cells, Pt.slots] at X851 l851 y851 z851 st851 hQ851
      obtain rfl : k851 = 14 := y851
      obtain rfl : n851 = 88 := z851
      obtain ⟨rfl, N851q, R851⟩ := hQ851
      have N851 : Fr n0 L851 := l851 ▸ Fr.app Nj N851q
      refine ownStep (fun _ k => st851.trans k) ?_
      show ownGo p.tables e below (T851.setTop (mkF m 125 #[.val (.ref a), .val (.ref ow), .val (.ref pa), .val (.ref la), .val (.ref ls), .val (.ref ly), .val (.int (1 : Int32)), .val (.int (2 : Int32))] [(.ref b70)])) _
      obtain ⟨dq, ⟨Eq, Feq, ⟨mq, Fmq⟩, Dq⟩, back⟩ := own_CH_at (m' := (2 : Int32)) CHj own_cs own_hb own_edh KQ.1 (own_mono (by decide)) (0 : Fin 5)
      have Eq' : Exa Z hj b70 "java/util/ArrayList" := Eq
      obtain ⟨T853, X853, e853, st853⟩ := castY X851 hx hZ hown (hw _ (List.mem_of_getElem? (i := 106) rfl)) R851 (Ins.of_exa Eq' (hw _ (List.mem_of_getElem? (i := 57) rfl))) (g := (mkF m 125 #[.val (.ref a), .val (.ref ow), .val (.ref pa), .val (.ref la), .val (.ref ls), .val (.ref ly), .val (.int (1 : Int32)), .val (.int (2 : Int32))] [(.ref b70)])) rfl rfl (hb hby own_ctor_d125)
      refine ownStep st853 ?_
      refine ownStep (fun _ k => XS.iload X853.here hx rfl (hb hby own_ctor_d128) rfl  k) ?_
      show ownGo p.tables e below (T853.setTop (mkF m 130 #[.val (.ref a), .val (.ref ow), .val (.ref pa), .val (.ref la), .val (.ref ls), .val (.ref ly), .val (.int (1 : Int32)), .val (.int (2 : Int32))] [(.int (2 : Int32)), (.ref b70)])) _
      have Q854 : Old Z n0 hj := (Q362.keep KQ (allS gn_b70 (allS gn_b129 (allS gn_b185 (allS gn_b236 (allS gn_b287 all0))))))
      have Zs856 : n0 ≤ hj.size := Nat.le_trans Z0 KP841.1
      obtain ⟨_, _, ⟨T855, L855, k855, n855⟩, -, X855, ⟨Lc855, hQ855, l855, y855, z855⟩, st855⟩ := Jvm.LawKit.callS X853 hx (y := (⟨"java/lang/Integer", "valueOf", "(I)Ljava/lang/Integer;"⟩ : MethodName)) hown (mvT hZ (hw _ (List.mem_of_getElem? (i := 107) rfl))) (mvT hZ (hw _ (List.mem_of_getElem? (i := 108) rfl))) (mvT hZ (hw _ (List.mem_of_getElem? (i := 109) rfl))) (mvT hZ (hw _ (List.mem_of_getElem? (i := 110) rfl))) (by decide) (backOf (W := 1) (own_val2 l Z a0 hw [] ed kd ca clc hj n0 Zs856 Q854 S V Sh Sc BX) hZ (hw _ (List.mem_of_getElem? (i := 110) rfl)) (hw _ (List.mem_of_getElem? (i := 109) rfl)) (by decide) (by decide)) (g := (mkF m 130 #[.val (.ref a), .val (.ref ow), .val (.ref pa), .val (.ref la), .val (.ref ls), .val (.ref ly), .val (.int (1 : Int32)), .val (.int (2 : Int32))] [(.int (2 : Int32)), (.ref b70)])) rfl (by rw [hml]; rfl) (argsL := [(.int (2 : Int32))]) (rest := [(.ref b70)]) (lenOf own_ctor_pd4 rfl) rfl (by show 2 * 0 + _ ≤ _; exact Nat.le_of_eq rfl) (hb hby own_ctor_d130) (fun _ _ => ⟨rfl, e853, (by decide : 14 + 0 ≤ _), (by decide : 88 + 0 ≤ _)⟩)
      dsimp only [Pt.U, Pt.locs, Pt.cells, Pt.slots] at X855 l855 y855 z855 st855 hQ855
      obtain rfl : k855 = 14 := y855
      obtain rfl : n855 = 88 := z855
      obtain ⟨r_855, rfl, N855q, R855, P857⟩ := hQ855
      have N855 : Fr n0 L855 := l855 ▸ Fr.app N851 N855q
      refine ownStep (fun _ k => st855 _ k) ?_
      rw [R855] at P857
      show ownGo p.tables e below (T855.setTop (mkF m 133 #[.val (.ref a), .val (.ref ow), .val (.ref pa), .val (.ref la), .val (.ref ls), .val (.ref ly), .val (.int (1 : Int32)), .val (.int (2 : Int32))] [(.ref r_855), (.ref b70)])) _
      rcases Dq with ⟨hdq, Fsq⟩ | ⟨gdq, nq, clq, Fsq, n1q, n2q, Aq, szq, Oq⟩
      · skip
        have Fmq' : Fld Z hj b70 "java/util/AbstractList" "modCount" "I" (.int mq) := Fmq
        have Feq' : Fld Z hj b70 "java/util/ArrayList" "elementData" "[Ljava/lang/Object;" (.ref ed) := hdq ▸ Feq
        have Fsq' : Fld Z hj b70 "java/util/ArrayList" "size" "I" (.int (0 : Int32)) := Fsq
        have Zs859 : n0 ≤ hj.size := Nat.le_trans Z0 KP841.1
        obtain ⟨cq858, kq858, q858a, q858b, q858c⟩ := isOf hZ R855 Eq'
        obtain ⟨_, _, ⟨T858, L858, k858, n858⟩, -, X858, ⟨Lc858, hQ858, l858, y858, z858⟩, st858⟩ := X855.interfaceBack hx (xi := (⟨"java/util/List", "add", "(Ljava/lang/Object;)Z"⟩ : MethodName)) (y := (⟨"java/util/ArrayList", "add", "(Ljava/lang/Object;)Z"⟩ : MethodName)) hown (mvT hZ (hw _ (List.mem_of_getElem? (i := 50) rfl))) (mvT hZ (hw _ (List.mem_of_getElem? (i := 51) rfl))) (mvT hZ (hw _ (List.mem_of_getElem? (i := 52) rfl))) (mvT hZ (hw _ (List.mem_of_getElem? (i := 53) rfl))) (mvT hZ (hw _ (List.mem_of_getElem? (i := 54) rfl))) (mvT hZ (hw _ (List.mem_of_getElem? (i := 55) rfl))) (mvT hZ (hw _ (List.mem_of_getElem? (i := 56) rfl))) (mvT hZ (hw _ (List.mem_of_getElem? (i := 57) rfl))) (by decide) (backOf (W := 0) (own_al_add_0 l Z a0 hw [] b70 ed kd mq r_855 hj n0 Zs859 Q854 S V Eq' Feq' Fsq' Fmq' gn_b70 (Ins.of_exa P857 (hw _ (List.mem_of_getElem? (i := 114) rfl)))) hZ (hw _ (List.mem_of_getElem? (i := 58) rfl)) (hw _ (List.mem_of_getElem? (i := 14) rfl)) (by decide) (by decide)) q858a q858b q858c (g := (mkF m 133 #[.val (.ref a), .val (.ref ow), .val (.ref pa), .val (.ref la), .val (.ref ls), .val (.ref ly), .val (.int (1 : Int32)), .val (.int (2 : Int32))] [(.ref r_855), (.ref b70)])) rfl (by rw [hml]; rfl) (Steps.refl _) (argsL := [(.ref r_855)]) (rest := []) (lenOf own_ctor_pd1 rfl) rfl (by show 2 * 0 + _ ≤ _; exact Nat.le_of_eq rfl) (hb hby own_ctor_d133) (fun _ _ => ⟨rfl, R855, (by decide : 14 + 1 ≤ _), (by decide : 88 + 10 ≤ _)⟩)
        dsimp only [Pt.U, Pt.locs, Pt.cells, Pt.slots] at X858 l858 y858 z858 st858 hQ858
        obtain rfl : k858 = 15 := y858
        obtain rfl : n858 = 98 := z858
        obtain ⟨dd_858, kk_858, rfl, N858q, R858, P860, P861, P862, P863, P864, P865⟩ := hQ858
        have N858 : Fr n0 L858 := l858 ▸ Fr.app N855 N858q
        have gh_dd_858 : h0.size ≤ dd_858 := Nat.le_trans KP841.1 P865
        have gn_dd_858 : n0 ≤ dd_858 := Nat.le_trans Z0 gh_dd_858
        refine ownStep (fun _ k => st858.trans k) ?_
        have KP866 : Keep h0 T858.heap [a] := KP841.trans R858 (allS (Or.inr gh_b70) all0)
        show ownGo p.tables e below (T858.setTop (mkF m 138 #[.val (.ref a), .val (.ref ow), .val (.ref pa), .val (.ref la), .val (.ref ls), .val (.ref ly), .val (.int (1 : Int32)), .val (.int (2 : Int32))] [(.int (1 : Int32))])) _
        have Q867 : Exa Z T858.heap b70 "java/util/ArrayList" := (Eq'.keep R858)
        have CH' := back _ dd_858 (Or.inl R858) (own_WL_first (by decide) (Nat.le_trans KQ.1 P865) Q867 P860 P862 P861 P863 P864) (Or.inr P865)
        have KQ' := KQ.trans R858 (allS (Or.inl (List.mem_of_getElem? (i := 0) rfl)) all0)
        refine ownStep (fun _ k => XS.pop X858.here hx rfl (hb hby own_ctor_d138) rfl rfl k) ?_
        refine ownStep (fun _ k => XS.iinc X858.here hx rfl (hb hby own_ctor_d139) rfl (l' := #[.val (.ref a), .val (.ref ow), .val (.ref pa), .val (.ref la), .val (.ref ls), .val (.ref ly), .val (.int (1 : Int32)), .val (.int (3 : Int32))]) rfl k) ?_
        refine ownStep (fun _ k => XS.goto X858.here hx rfl (pc0 := 142) (pc' := 105) rfl (hb hby own_ctor_d142) (by decide) (by decide) k) ?_
        show ownGo p.tables e below (T858.setTop (mkF m 105 #[.val (.ref a), .val (.ref ow), .val (.ref pa), .val (.ref la), .val (.ref ls), .val (.ref ly), .val (.int (1 : Int32)), .val (.int (3 : Int32))] [])) _
        exact J3 _ _ X858 _ rfl N858 KQ' CH'
      · skip
        have Fmq' : Fld Z hj b70 "java/util/AbstractList" "modCount" "I" (.int mq) := Fmq
        have Feq' : Fld Z hj b70 "java/util/ArrayList" "elementData" "[Ljava/lang/Object;" (.ref dq) := Feq
        have Fsq' : Fld Z hj b70 "java/util/ArrayList" "size" "I" (.int nq) := Fsq
        have gh_dq : h0.size ≤ dq := Nat.le_trans KP331.1 gdq
        have gn_dq : n0 ≤ dq := Nat.le_trans Z0 gh_dq
        have nadq : b70 ≠ dq := Nat.ne_of_lt (Nat.lt_of_lt_of_le (own_hb 0) gdq)
        have Zs869 : n0 ≤ hj.size := Nat.le_trans Z0 KP841.1
        obtain ⟨cq868, kq868, q868a, q868b, q868c⟩ := isOf hZ R855 Eq'
        obtain ⟨_, _, ⟨T868, L868, k868, n868⟩, -, X868, ⟨Lc868, hQ868, l868, y868, z868⟩, st868⟩ := X855.interfaceBack hx (xi := (⟨"java/util/List", "add", "(Ljava/lang/Object;)Z"⟩ : MethodName)) (y := (⟨"java/util/ArrayList", "add", "(Ljava/lang/Object;)Z"⟩ : MethodName)) hown (mvT hZ (hw _ (List.mem_of_getElem? (i := 50) rfl))) (mvT hZ (hw _ (List.mem_of_getElem? (i := 51) rfl))) (mvT hZ (hw _ (List.mem_of_getElem? (i := 52) rfl))) (mvT hZ (hw _ (List.mem_of_getElem? (i := 53) rfl))) (mvT hZ (hw _ (List.mem_of_getElem? (i := 54) rfl))) (mvT hZ (hw _ (List.mem_of_getElem? (i := 55) rfl))) (mvT hZ (hw _ (List.mem_of_getElem? (i := 56) rfl))) (mvT hZ (hw _ (List.mem_of_getElem? (i := 57) rfl))) (by decide) (backOf (W := 0) (own_al_addS l Z a0 hw [] b70 dq clq nq mq r_855 hj n0 Zs869 Eq' Feq' Fsq' Fmq' Aq szq Oq n1q (own_lt10 (by decide) n2q) gn_b70 gn_dq nadq (Ins.of_exa P857 (hw _ (List.mem_of_getElem? (i := 114) rfl)))) hZ (hw _ (List.mem_of_getElem? (i := 58) rfl)) (hw _ (List.mem_of_getElem? (i := 14) rfl)) (by decide) (by decide)) q868a q868b q868c (g := (mkF m 133 #[.val (.ref a), .val (.ref ow), .val (.ref pa), .val (.ref la), .val (.ref ls), .val (.ref ly), .val (.int (1 : Int32)), .val (.int (2 : Int32))] [(.ref r_855), (.ref b70)])) rfl (by rw [hml]; rfl) (Steps.refl _) (argsL := [(.ref r_855)]) (rest := []) (lenOf own_ctor_pd1 rfl) rfl (by show 2 * 0 + _ ≤ _; exact Nat.le_of_eq rfl) (hb hby own_ctor_d133) (fun _ _ => ⟨rfl, R855, (by decide : 14 + 1 ≤ _), (by decide : 88 + 10 ≤ _)⟩)
        dsimp only [Pt.U, Pt.locs, Pt.cells, Pt.slots] at X868 l868 y868 z868 st868 hQ868
        obtain rfl : k868 = 15 := y868
        obtain rfl : n868 = 98 := z868
        obtain ⟨rfl, N868q, R868, P870, P871, P872, P873⟩ := hQ868
        have N868 : Fr n0 L868 := l868 ▸ Fr.app N855 N868q
        refine ownStep (fun _ k => st868.trans k) ?_
        have KP874 : Keep h0 T868.heap [a] := KP841.trans R868 (allS (Or.inr gh_b70) (allS (Or.inr gh_dq) all0))
        show ownGo p.tables e below (T868.setTop (mkF m 138 #[.val (.ref a), .val (.ref ow), .val (.ref pa), .val (.ref la), .val (.ref ls), .val (.ref ly), .val (.int (1 : Int32)), .val (.int (2 : Int32))] [(.int (1 : Int32))])) _
        have Q875 : Exa Z T868.heap b70 "java/util/ArrayList" := (Eq'.keep R868)
        have CH' := back _ dq (Or.inr ⟨gdq, R868⟩) (own_WL_more n1q n2q (by decide) gdq szq Oq Q875 P870 P872 P871 P873) (Or.inl rfl)
        have KQ' := KQ.trans R868 (allS (Or.inl (List.mem_of_getElem? (i := 0) rfl)) (allS (Or.inr gdq) all0))
        refine ownStep (fun _ k => XS.pop X868.here hx rfl (hb hby own_ctor_d138) rfl rfl k) ?_
        refine ownStep (fun _ k => XS.iinc X868.here hx rfl (hb hby own_ctor_d139) rfl (l' := #[.val (.ref a), .val (.ref ow), .val (.ref pa), .val (.ref la), .val (.ref ls), .val (.ref ly), .val (.int (1 : Int32)), .val (.int (3 : Int32))]) rfl k) ?_
        refine ownStep (fun _ k => XS.goto X868.here hx rfl (pc0 := 142) (pc' := 105) rfl (hb hby own_ctor_d142) (by decide) (by decide) k) ?_
        show ownGo p.tables e below (T868.setTop (mkF m 105 #[.val (.ref a), .val (.ref ow), .val (.ref pa), .val (.ref la), .val (.ref ls), .val (.ref ly), .val (.int (1 : Int32)), .val (.int (3 : Int32))] [])) _
        exact J3 _ _ X868 _ rfl N868 KQ' CH'
    · skip
      show ownGo p.tables e below (T845.setTop (mkF m 120 #[.val (.ref a), .val (.ref ow), .val (.ref pa), .val (.ref la), .val (.ref ls), .val (.ref ly), .val (.int (1 : Int32)), .val (.int (2 : Int32))] [(.int (1 : Int32)), (.ref b2)])) _
      have Q876 : Exa Z hj b2 "java/util/ArrayList" := (Q379.keep KQ)
      have Q877 : Fld Z hj b2 "java/util/ArrayList" "elementData" "[Ljava/lang/Object;" (.ref dd_89) := (Q407.keep KQ (ninS ne85 (ninS ne144 (ninS ne199 (ninS ne250 (ninS ne301 nin0))))))
      have Q878 : Fld Z hj b2 "java/util/ArrayList" "size" "I" (.int (5 : Int32)) := (Q408.keep KQ (ninS ne85 (ninS ne144 (ninS ne199 (ninS ne250 (ninS ne301 nin0))))))
      have Q879 : Arv Z hj dd_89 kk_89 (.object "java/lang/Object") (10 : Int32) [(.ref b70), (.ref b129), (.ref b185), (.ref b236), (.ref b287), .null, .null, .null, .null, .null] .null := (Q410.keep KQ (ninS (Ne.symm ne361) (ninS ne150 (ninS ne203 (ninS ne254 (ninS ne305 nin0))))))
      have Zs881 : n0 ≤ hj.size := Nat.le_trans Z0 KP841.1
      obtain ⟨cq880, kq880, q880a, q880b, q880c⟩ := isOf hZ e845 Q876
      obtain ⟨_, _, ⟨T880, L880, k880, n880⟩, -, X880, ⟨Lc880, hQ880, l880, y880, z880⟩, st880⟩ := X845.interfaceBack hx (xi := (⟨"java/util/List", "get", "(I)Ljava/lang/Object;"⟩ : MethodName)) (y := (⟨"java/util/ArrayList", "get", "(I)Ljava/lang/Object;"⟩ : MethodName)) hown (mvT hZ (hw _ (List.mem_of_getElem? (i := 85) rfl))) (mvT hZ (hw _ (List.mem_of_getElem? (i := 86) rfl))) (mvT hZ (hw _ (List.mem_of_getElem? (i := 87) rfl))) (mvT hZ (hw _ (List.mem_of_getElem? (i := 88) rfl))) (mvT hZ (hw _ (List.mem_of_getElem? (i := 89) rfl))) (mvT hZ (hw _ (List.mem_of_getElem? (i := 90) rfl))) (mvT hZ (hw _ (List.mem_of_getElem? (i := 91) rfl))) (mvT hZ (hw _ (List.mem_of_getElem? (i := 57) rfl))) (by decide) (backOf (W := 0) (own_al_get_5_1 l Z a0 hw [] b2 dd_89 kk_89 (.ref b70) (.ref b185) (.ref b236) (.ref b287) b129 hj n0 Zs881 Q876 Q877 Q878 Q879) hZ (hw _ (List.mem_of_getElem? (i := 92) rfl)) (hw _ (List.mem_of_getElem? (i := 14) rfl)) (by decide) (by decide)) q880a q880b q880c (g := (mkF m 120 #[.val (.ref a), .val (.ref ow), .val (.ref pa), .val (.ref la), .val (.ref ls), .val (.ref ly), .val (.int (1 : Int32)), .val (.int (2 : Int32))] [(.int (1 : Int32)), (.ref b2)])) rfl (by rw [hml]; rfl) (Steps.refl _) (argsL := [(.int (1 : Int32))]) (rest := []) (lenOf own_ctor_pd3 rfl) rfl (by show 2 * 0 + _ ≤ _; exact Nat.le_of_eq rfl) (hb hby own_ctor_d120) (fun _ _ => ⟨rfl, e845, (by decide : 14 + 0 ≤ _), (by decide : 88 + 0 ≤ _)⟩)
      dsimp only [Pt.U, Pt.locs, Pt.cells, Pt.slots] at X880 l880 y880 z880 st880 hQ880
      obtain rfl : k880 = 14 := y880
      obtain rfl : n880 = 88 := z880
      obtain ⟨rfl, N880q, R880⟩ := hQ880
      have N880 : Fr n0 L880 := l880 ▸ Fr.app Nj N880q
      refine ownStep (fun _ k => st880.trans k) ?_
      show ownGo p.tables e below (T880.setTop (mkF m 125 #[.val (.ref a), .val (.ref ow), .val (.ref pa), .val (.ref la), .val (.ref ls), .val (.ref ly), .val (.int (1 : Int32)), .val (.int (2 : Int32))] [(.ref b129)])) _
      obtain ⟨dq, ⟨Eq, Feq, ⟨mq, Fmq⟩, Dq⟩, back⟩ := own_CH_at (m' := (2 : Int32)) CHj own_cs own_hb own_edh KQ.1 (own_mono (by decide)) (1 : Fin 5)
      have Eq' : Exa Z hj b129 "java/util/ArrayList" := Eq
      obtain ⟨T882, X882, e882, st882⟩ := castY X880 hx hZ hown (hw _ (List.mem_of_getElem? (i := 106) rfl)) R880 (Ins.of_exa Eq' (hw _ (List.mem_of_getElem? (i := 57) rfl))) (g := (mkF m 125 #[.val (.ref a), .val (.ref ow), .val (.ref pa), .val (.ref la), .val (.ref ls), .val (.ref ly), .val (.int (1 : Int32)), .val (.int (2 : Int32))] [(.ref b129)])) rfl rfl (hb hby own_ctor_d125)
      refine ownStep st882 ?_
      refine ownStep (fun _ k => XS.iload X882.here hx rfl (hb hby own_ctor_d128) rfl  k) ?_
      show ownGo p.tables e below (T882.setTop (mkF m 130 #[.val (.ref a), .val (.ref ow), .val (.ref pa), .val (.ref la), .val (.ref ls), .val (.ref ly), .val (.int (1 : Int32)), .val (.int (2 : Int32))] [(.int (2 : Int32)), (.ref b129)])) _
      have Q883 : Old Z n0 hj := (Q362.keep KQ (allS gn_b70 (allS gn_b129 (allS gn_b185 (allS gn_b236 (allS gn_b287 all0))))))
      have Zs885 : n0 ≤ hj.size := Nat.le_trans Z0 KP841.1
      obtain ⟨_, _, ⟨T884, L884, k884, n884⟩, -, X884, ⟨Lc884, hQ884, l884, y884, z884⟩, st884⟩ := Jvm.LawKit.callS X882 hx (y := (⟨"java/lang/Integer", "valueOf", "(I)Ljava/lang/Integer;"⟩ : MethodName)) hown (mvT hZ (hw _ (List.mem_of_getElem? (i := 107) rfl))) (mvT hZ (hw _ (List.mem_of_getElem? (i := 108) rfl))) (mvT hZ (hw _ (List.mem_of_getElem? (i := 109) rfl))) (mvT hZ (hw _ (List.mem_of_getElem? (i := 110) rfl))) (by decide) (backOf (W := 1) (own_val2 l Z a0 hw [] ed kd ca clc hj n0 Zs885 Q883 S V Sh Sc BX) hZ (hw _ (List.mem_of_getElem? (i := 110) rfl)) (hw _ (List.mem_of_getElem? (i := 109) rfl)) (by decide) (by decide)) (g := (mkF m 130 #[.val (.ref a), .val (.ref ow), .val (.ref pa), .val (.ref la), .val (.ref ls), .val (.ref ly), .val (.int (1 : Int32)), .val (.int (2 : Int32))] [(.int (2 : Int32)), (.ref b129)])) rfl (by rw [hml]; rfl) (argsL := [(.int (2 : Int32))]) (rest := [(.ref b129)]) (lenOf own_ctor_pd4 rfl) rfl (by show 2 * 0 + _ ≤ _; exact Nat.le_of_eq rfl) (hb hby own_ctor_d130) (fun _ _ => ⟨rfl, e882, (by decide : 14 + 0 ≤ _), (by decide : 88 + 0 ≤ _)⟩)
      dsimp only [Pt.U, Pt.locs, Pt.cells, Pt.slots] at X884 l884 y884 z884 st884 hQ884
      obtain rfl : k884 = 14 := y884
      obtain rfl : n884 = 88 := z884
      obtain ⟨r_884, rfl, N884q, R884, P886⟩ := hQ884
      have N884 : Fr n0 L884 := l884 ▸ Fr.app N880 N884q
      refine ownStep (fun _ k => st884 _ k) ?_
      rw [R884] at P886
      show ownGo p.tables e below (T884.setTop (mkF m 133 #[.val (.ref a), .val (.ref ow), .val (.ref pa), .val (.ref la), .val (.ref ls), .val (.ref ly), .val (.int (1 : Int32)), .val (.int (2 : Int32))] [(.ref r_884), (.ref b129)])) _
      rcases Dq with ⟨hdq, Fsq⟩ | ⟨gdq, nq, clq, Fsq, n1q, n2q, Aq, szq, Oq⟩
      · skip
        have Fmq' : Fld Z hj b129 "java/util/AbstractList" "modCount" "I" (.int mq) := Fmq
        have Feq' : Fld Z hj b129 "java/util/ArrayList" "elementData" "[Ljava/lang/Object;" (.ref ed) := hdq ▸ Feq
        have Fsq' : Fld Z hj b129 "java/util/ArrayList" "size" "I" (.int (0 : Int32)) := Fsq
        have Zs888 : n0 ≤ hj.size := Nat.le_trans Z0 KP841.1
        obtain ⟨cq887, kq887, q887a, q887b, q887c⟩ := isOf hZ R884 Eq'
        obtain ⟨_, _, ⟨T887, L887, k887, n887⟩, -, X887, ⟨Lc887, hQ887, l887, y887, z887⟩, st887⟩ := X884.interfaceBack hx (xi := (⟨"java/util/List", "add", "(Ljava/lang/Object;)Z"⟩ : MethodName)) (y := (⟨"java/util/ArrayList", "add", "(Ljava/lang/Object;)Z"⟩ : MethodName)) hown (mvT hZ (hw _ (List.mem_of_getElem? (i := 50) rfl))) (mvT hZ (hw _ (List.mem_of_getElem? (i := 51) rfl))) (mvT hZ (hw _ (List.mem_of_getElem? (i := 52) rfl))) (mvT hZ (hw _ (List.mem_of_getElem? (i := 53) rfl))) (mvT hZ (hw _ (List.mem_of_getElem? (i := 54) rfl))) (mvT hZ (hw _ (List.mem_of_getElem? (i := 55) rfl))) (mvT hZ (hw _ (List.mem_of_getElem? (i := 56) rfl))) (mvT hZ (hw _ (List.mem_of_getElem? (i := 57) rfl))) (by decide) (backOf (W := 0) (own_al_add_0 l Z a0 hw [] b129 ed kd mq r_884 hj n0 Zs888 Q883 S V Eq' Feq' Fsq' Fmq' gn_b129 (Ins.of_exa P886 (hw _ (List.mem_of_getElem? (i := 114) rfl)))) hZ (hw _ (List.mem_of_getElem? (i := 58) rfl)) (hw _ (List.mem_of_getElem? (i := 14) rfl)) (by decide) (by decide)) q887a q887b q887c (g := (mkF m 133 #[.val (.ref a), .val (.ref ow), .val (.ref pa), .val (.ref la), .val (.ref ls), .val (.ref ly), .val (.int (1 : Int32)), .val (.int (2 : Int32))] [(.ref r_884), (.ref b129)])) rfl (by rw [hml]; rfl) (Steps.refl _) (argsL := [(.ref r_884)]) (rest := []) (lenOf own_ctor_pd1 rfl) rfl (by show 2 * 0 + _ ≤ _; exact Nat.le_of_eq rfl) (hb hby own_ctor_d133) (fun _ _ => ⟨rfl, R884, (by decide : 14 + 1 ≤ _), (by decide : 88 + 10 ≤ _)⟩)
        dsimp only [Pt.U, Pt.locs, Pt.cells, Pt.slots] at X887 l887 y887 z887 st887 hQ887
        obtain rfl : k887 = 15 := y887
        obtain rfl : n887 = 98 := z887
        obtain ⟨dd_887, kk_887, rfl, N887q, R887, P889, P890, P891, P892, P893, P894⟩ := hQ887
        have N887 : Fr n0 L887 := l887 ▸ Fr.app N884 N887q
        have gh_dd_887 : h0.size ≤ dd_887 := Nat.le_trans KP841.1 P894
        have gn_dd_887 : n0 ≤ dd_887 := Nat.le_trans Z0 gh_dd_887
        refine ownStep (fun _ k => st887.trans k) ?_
        have KP895 : Keep h0 T887.heap [a] := KP841.trans R887 (allS (Or.inr gh_b129) all0)
        show ownGo p.tables e below (T887.setTop (mkF m 138 #[.val (.ref a), .val (.ref ow), .val (.ref pa), .val (.ref la), .val (.ref ls), .val (.ref ly), .val (.int (1 : Int32)), .val (.int (2 : Int32))] [(.int (1 : Int32))])) _
        have Q896 : Exa Z T887.heap b129 "java/util/ArrayList" := (Eq'.keep R887)
        have CH' := back _ dd_887 (Or.inl R887) (own_WL_first (by decide) (Nat.le_trans KQ.1 P894) Q896 P889 P891 P890 P892 P893) (Or.inr P894)
        have KQ' := KQ.trans R887 (allS (Or.inl (List.mem_of_getElem? (i := 1) rfl)) all0)
        refine ownStep (fun _ k => XS.pop X887.here hx rfl (hb hby own_ctor_d138) rfl rfl k) ?_
        refine ownStep (fun _ k => XS.iinc X887.here hx rfl (hb hby own_ctor_d139) rfl (l' := #[.val (.ref a), .val (.ref ow), .val (.ref pa), .val (.ref la), .val (.ref ls), .val (.ref ly), .val (.int (1 : Int32)), .val (.int (3 : Int32))]) rfl k) ?_
        refine ownStep (fun _ k => XS.goto X887.here hx rfl (pc0 := 142) (pc' := 105) rfl (hb hby own_ctor_d142) (by decide) (by decide) k) ?_
        show ownGo p.tables e below (T887.setTop (mkF m 105 #[.val (.ref a), .val (.ref ow), .val (.ref pa), .val (.ref la), .val (.ref ls), .val (.ref ly), .val (.int (1 : Int32)), .val (.int (3 : Int32))] [])) _
        exact J3 _ _ X887 _ rfl N887 KQ' CH'
      · skip
        have Fmq' : Fld Z hj b129 "java/util/AbstractList" "modCount" "I" (.int mq) := Fmq
        have Feq' : Fld Z hj b129 "java/util/ArrayList" "elementData" "[Ljava/lang/Object;" (.ref dq) := Feq
        have Fsq' : Fld Z hj b129 "java/util/ArrayList" "size" "I" (.int nq) := Fsq
        have gh_dq : h0.size ≤ dq := Nat.le_trans KP331.1 gdq
        have gn_dq : n0 ≤ dq := Nat.le_trans Z0 gh_dq
        have nadq : b129 ≠ dq := Nat.ne_of_lt (Nat.lt_of_lt_of_le (own_hb 1) gdq)
        have Zs898 : n0 ≤ hj.size := Nat.le_trans Z0 KP841.1
        obtain ⟨cq897, kq897, q897a, q897b, q897c⟩ := isOf hZ R884 Eq'
        obtain ⟨_, _, ⟨T897, L897, k897, n897⟩, -, X897, ⟨Lc897, hQ897, l897, y897, z897⟩, st897⟩ := X884.interfaceBack hx (xi := (⟨"java/util/List", "add", "(Ljava/lang/Object;)Z"⟩ : MethodName)) (y := (⟨"java/util/ArrayList", "add", "(Ljava/lang/Object;)Z"⟩ : MethodName)) hown (mvT hZ (hw _ (List.mem_of_getElem? (i := 50) rfl))) (mvT hZ (hw _ (List.mem_of_getElem? (i := 51) rfl))) (mvT hZ (hw _ (List.mem_of_getElem? (i := 52) rfl))) (mvT hZ (hw _ (List.mem_of_getElem? (i := 53) rfl))) (mvT hZ (hw _ (List.mem_of_getElem? (i := 54) rfl))) (mvT hZ (hw _ (List.mem_of_getElem? (i := 55) rfl))) (mvT hZ (hw _ (List.mem_of_getElem? (i := 56) rfl))) (mvT hZ (hw _ (List.mem_of_getElem? (i := 57) rfl))) (by decide) (backOf (W := 0) (own_al_addS l Z a0 hw [] b129 dq clq nq mq r_884 hj n0 Zs898 Eq' Feq' Fsq' Fmq' Aq szq Oq n1q (own_lt10 (by decide) n2q) gn_b129 gn_dq nadq (Ins.of_exa P886 (hw _ (List.mem_of_getElem? (i := 114) rfl)))) hZ (hw _ (List.mem_of_getElem? (i := 58) rfl)) (hw _ (List.mem_of_getElem? (i := 14) rfl)) (by decide) (by decide)) q897a q897b q897c (g := (mkF m 133 #[.val (.ref a), .val (.ref ow), .val (.ref pa), .val (.ref la), .val (.ref ls), .val (.ref ly), .val (.int (1 : Int32)), .val (.int (2 : Int32))] [(.ref r_884), (.ref b129)])) rfl (by rw [hml]; rfl) (Steps.refl _) (argsL := [(.ref r_884)]) (rest := []) (lenOf own_ctor_pd1 rfl) rfl (by show 2 * 0 + _ ≤ _; exact Nat.le_of_eq rfl) (hb hby own_ctor_d133) (fun _ _ => ⟨rfl, R884, (by decide : 14 + 1 ≤ _), (by decide : 88 + 10 ≤ _)⟩)
        dsimp only [Pt.U, Pt.locs, Pt.cells, Pt.slots] at X897 l897 y897 z897 st897 hQ897
        obtain rfl : k897 = 15 := y897
        obtain rfl : n897 = 98 := z897
        obtain ⟨rfl, N897q, R897, P899, P900, P901, P902⟩ := hQ897
        have N897 : Fr n0 L897 := l897 ▸ Fr.app N884 N897q
        refine ownStep (fun _ k => st897.trans k) ?_
        have KP903 : Keep h0 T897.heap [a] := KP841.trans R897 (allS (Or.inr gh_b129) (allS (Or.inr gh_dq) all0))
        show ownGo p.tables e below (T897.setTop (mkF m 138 #[.val (.ref a), .val (.ref ow), .val (.ref pa), .val (.ref la), .val (.ref ls), .val (.ref ly), .val (.int (1 : Int32)), .val (.int (2 : Int32))] [(.int (1 : Int32))])) _
        have Q904 : Exa Z T897.heap b129 "java/util/ArrayList" := (Eq'.keep R897)
        have CH' := back _ dq (Or.inr ⟨gdq, R897⟩) (own_WL_more n1q n2q (by decide) gdq szq Oq Q904 P899 P901 P900 P902) (Or.inl rfl)
        have KQ' := KQ.trans R897 (allS (Or.inl (List.mem_of_getElem? (i := 1) rfl)) (allS (Or.inr gdq) all0))
        refine ownStep (fun _ k => XS.pop X897.here hx rfl (hb hby own_ctor_d138) rfl rfl k) ?_
        refine ownStep (fun _ k => XS.iinc X897.here hx rfl (hb hby own_ctor_d139) rfl (l' := #[.val (.ref a), .val (.ref ow), .val (.ref pa), .val (.ref la), .val (.ref ls), .val (.ref ly), .val (.int (1 : Int32)), .val (.int (3 : Int32))]) rfl k) ?_
        refine ownStep (fun _ k => XS.goto X897.here hx rfl (pc0 := 142) (pc' := 105) rfl (hb hby own_ctor_d142) (by decide) (by decide) k) ?_
        show ownGo p.tables e below (T897.setTop (mkF m 105 #[.val (.ref a), .val (.ref ow), .val (.ref pa), .val (.ref la), .val (.ref ls), .val (.ref ly), .val (.int (1 : Int32)), .val (.int (3 : Int32))] [])) _
        exact J3 _ _ X897 _ rfl N897 KQ' CH'
  have J1 : ∀ (Tj : State) (Lj : List Loc) (Xj : Stand p l e ({ frames := 5, cells := 17, slots := 118, locals := 69 } : Room) s m #[(.ref a), (.ref ow), (.ref pa), (.ref la), (.ref ls), (.ref ly), (.int (1 : Int32))] below meth c Tj Lj 13 78) (hj : Heap) (ej : Tj.heap = hj) (Nj : Fr n0 Lj) (KQ : Keep h329 hj [b70, b129, b185, b236, b287]) (CHj : own_CH Z h329.size ed (0 : Int32) hj (own_c5 b70 b129 b185 b236 b287)), ownGo p.tables e below (Tj.setTop (mkF m 105 #[.val (.ref a), .val (.ref ow), .val (.ref pa), .val (.ref la), .val (.ref ls), .val (.ref ly), .val (.int (1 : Int32)), .val (.int (1 : Int32))] [])) (ownEnd below s (own_ctor_Q Z ed kd ca clc a ow pa la ls ly ko kp kl ky a2 a3 a4 o0 o1 h0 n0) ({ frames := 5, cells := 17, slots := 118, locals := 69 } : Room).cells ({ frames := 5, cells := 17, slots := 118, locals := 69 } : Room).slots) := by
    intro Tj Lj Xj hj ej Nj KQ CHj
    have KP905 : Keep h0 hj [a] := KP331.trans KQ (allS (Or.inr gh_b70) (allS (Or.inr gh_b129) (allS (Or.inr gh_b185) (allS (Or.inr gh_b236) (allS (Or.inr gh_b287) all0)))))
    refine ownStep (fun _ k => XS.iload Xj.here hx rfl (hb hby own_ctor_d105) rfl  k) ?_
    refine ownStep (fun _ k => XS.aloadN Xj.here hx rfl (hb hby own_ctor_d107) rfl rfl k) ?_
    show ownGo p.tables e below (Tj.setTop (mkF m 108 #[.val (.ref a), .val (.ref ow), .val (.ref pa), .val (.ref la), .val (.ref ls), .val (.ref ly), .val (.int (1 : Int32)), .val (.int (1 : Int32))] [(.ref pa), (.int (1 : Int32))])) _
    have Q907 : Arv Z hj pa kp .int (5 : Int32) [(.int (-1 : Int32)), (.int (0 : Int32)), (.int a2), (.int a3), (.int a4)] (.int (0 : Int32)) := (Q335.keep KQ (ninS ne123 (ninS ne180 (ninS ne232 (ninS ne283 (ninS ne334 nin0))))))
    have Vo906 := Q907
    obtain ⟨cl906, Ar906, q906, S906, N906, H906, G906⟩ := Vo906
    refine ownStep (Xj.arraylength hx (by rw [ej]; exact Ar906.1) (State.isArrayOf_alike hZ.alike Ar906.2.1) (g := (mkF m 108 #[.val (.ref a), .val (.ref ow), .val (.ref pa), .val (.ref la), .val (.ref ls), .val (.ref ly), .val (.int (1 : Int32)), .val (.int (1 : Int32))] [(.ref pa), (.int (1 : Int32))])) rfl rfl (hb hby own_ctor_d108)) ?_
    rw [len_of S906 N906]
    refine ownStep (fun _ k => XS.icmpNo Xj.here hx rfl (hb hby own_ctor_d109) rfl (tlt (by decide : (1 : Int32) < (5 : Int32))).2.1 k) ?_
    refine ownStep (fun _ k => XS.aloadN Xj.here hx rfl (hb hby own_ctor_d112) rfl rfl k) ?_
    show ownGo p.tables e below (Tj.setTop (mkF m 113 #[.val (.ref a), .val (.ref ow), .val (.ref pa), .val (.ref la), .val (.ref ls), .val (.ref ly), .val (.int (1 : Int32)), .val (.int (1 : Int32))] [(.ref a)])) _
    have Q908 : Fld Z hj a "com/example/adept_layout/adeptlayout/layout/Nesting" "children" "Ljava/util/List;" (.ref b2) := (Q380.keep KQ (ninS ne98 (ninS ne159 (ninS ne212 (ninS ne263 (ninS ne314 nin0))))))
    obtain ⟨T909, X909, e909, st909⟩ := getF Xj hx hZ hown (host := "") (Or.inl (hw _ (List.mem_of_getElem? (i := 36) rfl))) Via.refl ej Q908 (g := (mkF m 113 #[.val (.ref a), .val (.ref ow), .val (.ref pa), .val (.ref la), .val (.ref ls), .val (.ref ly), .val (.int (1 : Int32)), .val (.int (1 : Int32))] [(.ref a)])) rfl rfl (hb hby own_ctor_d113)
    refine ownStep st909 ?_
    refine ownStep (fun _ k => XS.aloadN X909.here hx rfl (hb hby own_ctor_d116) rfl rfl k) ?_
    refine ownStep (fun _ k => XS.iload X909.here hx rfl (hb hby own_ctor_d117) rfl  k) ?_
    show ownGo p.tables e below (T909.setTop (mkF m 119 #[.val (.ref a), .val (.ref ow), .val (.ref pa), .val (.ref la), .val (.ref ls), .val (.ref ly), .val (.int (1 : Int32)), .val (.int (1 : Int32))] [(.int (1 : Int32)), (.ref pa), (.ref b2)])) _
    have Vo910 := Q907
    obtain ⟨cl910, Ar910, q910, S910, N910, H910, G910⟩ := Vo910
    have hin910 : ¬ ((1 : Int32) < 0 ∨ cl910.slots.size ≤ ((1 : Int32)).toNatClampNeg) := inb_of S910 ⟨by decide, by decide⟩
    refine ownStep (X909.iaload hx (j := (1 : Int32)) (v := (.int (0 : Int32))) (by rw [e909]; exact Ar910.1) (State.isArrayOf_alike hZ.alike Ar910.2.1) Ar910.2.2 hin910 (H910.at hin910 rfl) (g := (mkF m 119 #[.val (.ref a), .val (.ref ow), .val (.ref pa), .val (.ref la), .val (.ref ls), .val (.ref ly), .val (.int (1 : Int32)), .val (.int (1 : Int32))] [(.int (1 : Int32)), (.ref pa), (.ref b2)])) rfl rfl (hb hby own_ctor_d119)) ?_
    show ownGo p.tables e below (T909.setTop (mkF m 120 #[.val (.ref a), .val (.ref ow), .val (.ref pa), .val (.ref la), .val (.ref ls), .val (.ref ly), .val (.int (1 : Int32)), .val (.int (1 : Int32))] [(.int (0 : Int32)), (.ref b2)])) _
    have Q911 : Exa Z hj b2 "java/util/ArrayList" := (Q379.keep KQ)
    have Q912 : Fld Z hj b2 "java/util/ArrayList" "elementData" "[Ljava/lang/Object;" (.ref dd_89) := (Q407.keep KQ (ninS ne85 (ninS ne144 (ninS ne199 (ninS ne250 (ninS ne301 nin0))))))
    have Q913 : Fld Z hj b2 "java/util/ArrayList" "size" "I" (.int (5 : Int32)) := (Q408.keep KQ (ninS ne85 (ninS ne144 (ninS ne199 (ninS ne250 (ninS ne301 nin0))))))
    have Q914 : Arv Z hj dd_89 kk_89 (.object "java/lang/Object") (10 : Int32) [(.ref b70), (.ref b129), (.ref b185), (.ref b236), (.ref b287), .null, .null, .null, .null, .null] .null := (Q410.keep KQ (ninS (Ne.symm ne361) (ninS ne150 (ninS ne203 (ninS ne254 (ninS ne305 nin0))))))
    have Zs916 : n0 ≤ hj.size := Nat.le_trans Z0 KP905.1
    obtain ⟨cq915, kq915, q915a, q915b, q915c⟩ := isOf hZ e909 Q911
    obtain ⟨_, _, ⟨T915, L915, k915, n915⟩, -, X915, ⟨Lc915, hQ915, l915, y915, z915⟩, st915⟩ := X909.interfaceBack hx (xi := (⟨"java/util/List", "get", "(I)Ljava/lang/Object;"⟩ : MethodName)) (y := (⟨"java/util/ArrayList", "get", "(I)Ljava/lang/Object;"⟩ : MethodName)) hown (mvT hZ (hw _ (List.mem_of_getElem? (i := 85) rfl))) (mvT hZ (hw _ (List.mem_of_getElem? (i := 86) rfl))) (mvT hZ (hw _ (List.mem_of_getElem? (i := 87) rfl))) (mvT hZ (hw _ (List.mem_of_getElem? (i := 88) rfl))) (mvT hZ (hw _ (List.mem_of_getElem? (i := 89) rfl))) (mvT hZ (hw _ (List.mem_of_getElem? (i := 90) rfl))) (mvT hZ (hw _ (List.mem_of_getElem? (i := 91) rfl))) (mvT hZ (hw _ (List.mem_of_getElem? (i := 57) rfl))) (by decide) (backOf (W := 0) (own_al_get_5_0 l Z a0 hw [] b2 dd_89 kk_89 (.ref b129) (.ref b185) (.ref b236) (.ref b287) b70 hj n0 Zs916 Q911 Q912 Q913 Q914) hZ (hw _ (List.mem_of_getElem? (i := 92) rfl)) (hw _ (List.mem_of_getElem? (i := 14) rfl)) (by decide) (by decide)) q915a q915b q915c (g := (mkF m 120 #[.val (.ref a), .val (.ref ow), .val (.ref pa), .val (.ref la), .val (.ref ls), .val (.ref ly), .val (.int (1 : Int32)), .val (.int (1 : Int32))] [(.int (0 : Int32)), (.ref b2)])) rfl (by rw [hml]; rfl) (Steps.refl _) (argsL := [(.int (0 : Int32))]) (rest := []) (lenOf own_ctor_pd3 rfl) rfl (by show 2 * 0 + _ ≤ _; exact Nat.le_of_eq rfl) (hb hby own_ctor_d120) (fun _ _ => ⟨rfl, e909, (by decide : 13 + 0 ≤ _), (by decide : 78 + 0 ≤ _)⟩)
    dsimp only [Pt.U, Pt.locs, Pt.cells, Pt.slots] at X915 l915 y915 z915 st915 hQ915
    obtain rfl : k915 = 13 := y915
    obtain rfl : n915 = 78 := z915
    obtain ⟨rfl, N915q, R915⟩ := hQ915
    have N915 : Fr n0 L915 := l915 ▸ Fr.app Nj N915q
    refine ownStep (fun _ k => st915.trans k) ?_
    show ownGo p.tables e below (T915.setTop (mkF m 125 #[.val (.ref a), .val (.ref ow), .val (.ref pa), .val (.ref la), .val (.ref ls), .val (.ref ly), .val (.int (1 : Int32)), .val (.int (1 : Int32))] [(.ref b70)])) _
    obtain ⟨dq, ⟨Eq, Feq, ⟨mq, Fmq⟩, Dq⟩, back⟩ := own_CH_at (m' := (1 : Int32)) CHj own_cs own_hb own_edh KQ.1 (own_mono (by decide)) (0 : Fin 5)
    have Eq' : Exa Z hj b70 "java/util/ArrayList" := Eq
    obtain ⟨T917, X917, e917, st917⟩ := castY X915 hx hZ hown (hw _ (List.mem_of_getElem? (i := 106) rfl)) R915 (Ins.of_exa Eq' (hw _ (List.mem_of_getElem? (i := 57) rfl))) (g := (mkF m 125 #[.val (.ref a), .val (.ref ow), .val (.ref pa), .val (.ref la), .val (.ref ls), .val (.ref ly), .val (.int (1 : Int32)), .val (.int (1 : Int32))] [(.ref b70)])) rfl rfl (hb hby own_ctor_d125)
    refine ownStep st917 ?_
    refine ownStep (fun _ k => XS.iload X917.here hx rfl (hb hby own_ctor_d128) rfl  k) ?_
    show ownGo p.tables e below (T917.setTop (mkF m 130 #[.val (.ref a), .val (.ref ow), .val (.ref pa), .val (.ref la), .val (.ref ls), .val (.ref ly), .val (.int (1 : Int32)), .val (.int (1 : Int32))] [(.int (1 : Int32)), (.ref b70)])) _
    have Q918 : Old Z n0 hj := (Q362.keep KQ (allS gn_b70 (allS gn_b129 (allS gn_b185 (allS gn_b236 (allS gn_b287 all0))))))
    have Zs920 : n0 ≤ hj.size := Nat.le_trans Z0 KP905.1
    obtain ⟨_, _, ⟨T919, L919, k919, n919⟩, -, X919, ⟨Lc919, hQ919, l919, y919, z919⟩, st919⟩ := Jvm.LawKit.callS X917 hx (y := (⟨"java/lang/Integer", "valueOf", "(I)Ljava/lang/Integer;"⟩ : MethodName)) hown (mvT hZ (hw _ (List.mem_of_getElem? (i := 107) rfl))) (mvT hZ (hw _ (List.mem_of_getElem? (i := 108) rfl))) (mvT hZ (hw _ (List.mem_of_getElem? (i := 109) rfl))) (mvT hZ (hw _ (List.mem_of_getElem? (i := 110) rfl))) (by decide) (backOf (W := 1) (own_val1 l Z a0 hw [] ed kd ca clc hj n0 Zs920 Q918 S V Sh Sc BX) hZ (hw _ (List.mem_of_getElem? (i := 110) rfl)) (hw _ (List.mem_of_getElem? (i := 109) rfl)) (by decide) (by decide)) (g := (mkF m 130 #[.val (.ref a), .val (.ref ow), .val (.ref pa), .val (.ref la), .val (.ref ls), .val (.ref ly), .val (.int (1 : Int32)), .val (.int (1 : Int32))] [(.int (1 : Int32)), (.ref b70)])) rfl (by rw [hml]; rfl) (argsL := [(.int (1 : Int32))]) (rest := [(.ref b70)]) (lenOf own_ctor_pd4 rfl) rfl (by show 2 * 0 + _ ≤ _; exact Nat.le_of_eq rfl) (hb hby own_ctor_d130) (fun _ _ => ⟨rfl, e917, (by decide : 13 + 0 ≤ _), (by decide : 78 + 0 ≤ _)⟩)
    dsimp only [Pt.U, Pt.locs, Pt.cells, Pt.slots] at X919 l919 y919 z919 st919 hQ919
    obtain rfl : k919 = 13 := y919
    obtain rfl : n919 = 78 := z919
    obtain ⟨r_919, rfl, N919q, R919, P921⟩ := hQ919
    have N919 : Fr n0 L919 := l919 ▸ Fr.app N915 N919q
    refine ownStep (fun _ k => st919 _ k) ?_
    rw [R919] at P921
    show ownGo p.tables e below (T919.setTop (mkF m 133 #[.val (.ref a), .val (.ref ow), .val (.ref pa), .val (.ref la), .val (.ref ls), .val (.ref ly), .val (.int (1 : Int32)), .val (.int (1 : Int32))] [(.ref r_919), (.ref b70)])) _
    rcases Dq with ⟨hdq, Fsq⟩ | ⟨gdq, nq, clq, Fsq, n1q, n2q, Aq, szq, Oq⟩
    · skip
      have Fmq' : Fld Z hj b70 "java/util/AbstractList" "modCount" "I" (.int mq) := Fmq
      have Feq' : Fld Z hj b70 "java/util/ArrayList" "elementData" "[Ljava/lang/Object;" (.ref ed) := hdq ▸ Feq
      have Fsq' : Fld Z hj b70 "java/util/ArrayList" "size" "I" (.int (0 : Int32)) := Fsq
      have Zs923 : n0 ≤ hj.size := Nat.le_trans Z0 KP905.1
      obtain ⟨cq922, kq922, q922a, q922b, q922c⟩ := isOf hZ R919 Eq'
      obtain ⟨_, _, ⟨T922, L922, k922, n922⟩, -, X922, ⟨Lc922, hQ922, l922, y922, z922⟩, st922⟩ := X919.interfaceBack hx (xi := (⟨"java/util/List", "add", "(Ljava/lang/Object;)Z"⟩ : MethodName)) (y := (⟨"java/util/ArrayList", "add", "(Ljava/lang/Object;)Z"⟩ : MethodName)) hown (mvT hZ (hw _ (List.mem_of_getElem? (i := 50) rfl))) (mvT hZ (hw _ (List.mem_of_getElem? (i := 51) rfl))) (mvT hZ (hw _ (List.mem_of_getElem? (i := 52) rfl))) (mvT hZ (hw _ (List.mem_of_getElem? (i := 53) rfl))) (mvT hZ (hw _ (List.mem_of_getElem? (i := 54) rfl))) (mvT hZ (hw _ (List.mem_of_getElem? (i := 55) rfl))) (mvT hZ (hw _ (List.mem_of_getElem? (i := 56) rfl))) (mvT hZ (hw _ (List.mem_of_getElem? (i := 57) rfl))) (by decide) (backOf (W := 0) (own_al_add_0 l Z a0 hw [] b70 ed kd mq r_919 hj n0 Zs923 Q918 S V Eq' Feq' Fsq' Fmq' gn_b70 (Ins.of_exa P921 (hw _ (List.mem_of_getElem? (i := 114) rfl)))) hZ (hw _ (List.mem_of_getElem? (i := 58) rfl)) (hw _ (List.mem_of_getElem? (i := 14) rfl)) (by decide) (by decide)) q922a q922b q922c (g := (mkF m 133 #[.val (.ref a), .val (.ref ow), .val (.ref pa), .val (.ref la), .val (.ref ls), .val (.ref ly), .val (.int (1 : Int32)), .val (.int (1 : Int32))] [(.ref r_919), (.ref b70)])) rfl (by rw [hml]; rfl) (Steps.refl _) (argsL := [(.ref r_919)]) (rest := []) (lenOf own_ctor_pd1 rfl) rfl (by show 2 * 0 + _ ≤ _; exact Nat.le_of_eq rfl) (hb hby own_ctor_d133) (fun _ _ => ⟨rfl, R919, (by decide : 13 + 1 ≤ _), (by decide : 78 + 10 ≤ _)⟩)
      dsimp only [Pt.U, Pt.locs, Pt.cells, Pt.slots] at X922 l922 y922 z922 st922 hQ922
      obtain rfl : k922 = 14 := y922
      obtain rfl : n922 = 88 := z922
      obtain ⟨dd_922, kk_922, rfl, N922q, R922, P924, P925, P926, P927, P928, P929⟩ := hQ922
      have N922 : Fr n0 L922 := l922 ▸ Fr.app N919 N922q
      have gh_dd_922 : h0.size ≤ dd_922 := Nat.le_trans KP905.1 P929
      have gn_dd_922 : n0 ≤ dd_922 := Nat.le_trans Z0 gh_dd_922
      refine ownStep (fun _ k => st922.trans k) ?_
      have KP930 : Keep h0 T922.heap [a] := KP905.trans R922 (allS (Or.inr gh_b70) all0)
      show ownGo p.tables e below (T922.setTop (mkF m 138 #[.val (.ref a), .val (.ref ow), .val (.ref pa), .val (.ref la), .val (.ref ls), .val (.ref ly), .val (.int (1 : Int32)), .val (.int (1 : Int32))] [(.int (1 : Int32))])) _
      have Q931 : Exa Z T922.heap b70 "java/util/ArrayList" := (Eq'.keep R922)
      have CH' := back _ dd_922 (Or.inl R922) (own_WL_first (by decide) (Nat.le_trans KQ.1 P929) Q931 P924 P926 P925 P927 P928) (Or.inr P929)
      have KQ' := KQ.trans R922 (allS (Or.inl (List.mem_of_getElem? (i := 0) rfl)) all0)
      refine ownStep (fun _ k => XS.pop X922.here hx rfl (hb hby own_ctor_d138) rfl rfl k) ?_
      refine ownStep (fun _ k => XS.iinc X922.here hx rfl (hb hby own_ctor_d139) rfl (l' := #[.val (.ref a), .val (.ref ow), .val (.ref pa), .val (.ref la), .val (.ref ls), .val (.ref ly), .val (.int (1 : Int32)), .val (.int (2 : Int32))]) rfl k) ?_
      refine ownStep (fun _ k => XS.goto X922.here hx rfl (pc0 := 142) (pc' := 105) rfl (hb hby own_ctor_d142) (by decide) (by decide) k) ?_
      show ownGo p.tables e below (T922.setTop (mkF m 105 #[.val (.ref a), .val (.ref ow), .val (.ref pa), .val (.ref la), .val (.ref ls), .val (.ref ly), .val (.int (1 : Int32)), .val (.int (2 : Int32))] [])) _
      exact J2 _ _ X922 _ rfl N922 KQ' CH'
    · skip
      have Fmq' : Fld Z hj b70 "java/util/AbstractList" "modCount" "I" (.int mq) := Fmq
      have Feq' : Fld Z hj b70 "java/util/ArrayList" "elementData" "[Ljava/lang/Object;" (.ref dq) := Feq
      have Fsq' : Fld Z hj b70 "java/util/ArrayList" "size" "I" (.int nq) := Fsq
      have gh_dq : h0.size ≤ dq := Nat.le_trans KP331.1 gdq
      have gn_dq : n0 ≤ dq := Nat.le_trans Z0 gh_dq
      have nadq : b70 ≠ dq := Nat.ne_of_lt (Nat.lt_of_lt_of_le (own_hb 0) gdq)
      have Zs933 : n0 ≤ hj.size := Nat.le_trans Z0 KP905.1
      obtain ⟨cq932, kq932, q932a, q932b, q932c⟩ := isOf hZ R919 Eq'
      obtain ⟨_, _, ⟨T932, L932, k932, n932⟩, -, X932, ⟨Lc932, hQ932, l932, y932, z932⟩, st932⟩ := X919.interfaceBack hx (xi := (⟨"java/util/List", "add", "(Ljava/lang/Object;)Z"⟩ : MethodName)) (y := (⟨"java/util/ArrayList", "add", "(Ljava/lang/Object;)Z"⟩ : MethodName)) hown (mvT hZ (hw _ (List.mem_of_getElem? (i := 50) rfl))) (mvT hZ (hw _ (List.mem_of_getElem? (i := 51) rfl))) (mvT hZ (hw _ (List.mem_of_getElem? (i := 52) rfl))) (mvT hZ (hw _ (List.mem_of_getElem? (i := 53) rfl))) (mvT hZ (hw _ (List.mem_of_getElem? (i := 54) rfl))) (mvT hZ (hw _ (List.mem_of_getElem? (i := 55) rfl))) (mvT hZ (hw _ (List.mem_of_getElem? (i := 56) rfl))) (mvT hZ (hw _ (List.mem_of_getElem? (i := 57) rfl))) (by decide) (backOf (W := 0) (own_al_addS l Z a0 hw [] b70 dq clq nq mq r_919 hj n0 Zs933 Eq' Feq' Fsq' Fmq' Aq szq Oq n1q (own_lt10 (by decide) n2q) gn_b70 gn_dq nadq (Ins.of_exa P921 (hw _ (List.mem_of_getElem? (i := 114) rfl)))) hZ (hw _ (List.mem_of_getElem? (i := 58) rfl)) (hw _ (List.mem_of_getElem? (i := 14) rfl)) (by decide) (by decide)) q932a q932b q932c (g := (mkF m 133 #[.val (.ref a), .val (.ref ow), .val (.ref pa), .val (.ref la), .val (.ref ls), .val (.ref ly), .val (.int (1 : Int32)), .val (.int (1 : Int32))] [(.ref r_919), (.ref b70)])) rfl (by rw [hml]; rfl) (Steps.refl _) (argsL := [(.ref r_919)]) (rest := []) (lenOf own_ctor_pd1 rfl) rfl (by show 2 * 0 + _ ≤ _; exact Nat.le_of_eq rfl) (hb hby own_ctor_d133) (fun _ _ => ⟨rfl, R919, (by decide : 13 + 1 ≤ _), (by decide : 78 + 10 ≤ _)⟩)
      dsimp only [Pt.U, Pt.locs, Pt.cells, Pt.slots] at X932 l932 y932 z932 st932 hQ932
      obtain rfl : k932 = 14 := y932
      obtain rfl : n932 = 88 := z932
      obtain ⟨rfl, N932q, R932, P934, P935, P936, P937⟩ := hQ932
      have N932 : Fr n0 L932 := l932 ▸ Fr.app N919 N932q
      refine ownStep (fun _ k => st932.trans k) ?_
      have KP938 : Keep h0 T932.heap [a] := KP905.trans R932 (allS (Or.inr gh_b70) (allS (Or.inr gh_dq) all0))
      show ownGo p.tables e below (T932.setTop (mkF m 138 #[.val (.ref a), .val (.ref ow), .val (.ref pa), .val (.ref la), .val (.ref ls), .val (.ref ly), .val (.int (1 : Int32)), .val (.int (1 : Int32))] [(.int (1 : Int32))])) _
      have Q939 : Exa Z T932.heap b70 "java/util/ArrayList" := (Eq'.keep R932)
      have CH' := back _ dq (Or.inr ⟨gdq, R932⟩) (own_WL_more n1q n2q (by decide) gdq szq Oq Q939 P934 P936 P935 P937) (Or.inl rfl)
      have KQ' := KQ.trans R932 (allS (Or.inl (List.mem_of_getElem? (i := 0) rfl)) (allS (Or.inr gdq) all0))
      refine ownStep (fun _ k => XS.pop X932.here hx rfl (hb hby own_ctor_d138) rfl rfl k) ?_
      refine ownStep (fun _ k => XS.iinc X932.here hx rfl (hb hby own_ctor_d139) rfl (l' := #[.val (.ref a), .val (.ref ow), .val (.ref pa), .val (.ref la), .val (.ref ls), .val (.ref ly), .val (.int (1 : Int32)), .val (.int (2 : Int32))]) rfl k) ?_
      refine ownStep (fun _ k => XS.goto X932.here hx rfl (pc0 := 142) (pc' := 105) rfl (hb hby own_ctor_d142) (by decide) (by decide) k) ?_
      show ownGo p.tables e below (T932.setTop (mkF m 105 #[.val (.ref a), .val (.ref ow), .val (.ref pa), .val (.ref la), .val (.ref ls), .val (.ref ly), .val (.int (1 : Int32)), .val (.int (2 : Int32))] [])) _
      exact J2 _ _ X932 _ rfl N932 KQ' CH'
  refine ownStep (fun _ k => XS.iconst X329.here hx rfl (hb hby own_ctor_d102) k) ?_
  refine ownStep (fun _ k => XS.istore X329.here hx rfl (hb hby own_ctor_d103) rfl (l' := #[.val (.ref a), .val (.ref ow), .val (.ref pa), .val (.ref la), .val (.ref ls), .val (.ref ly), .val (.int (1 : Int32)), .val (.int (1 : Int32))]) rfl k) ?_
  show ownGo p.tables e below (T329.setTop (mkF m 105 #[.val (.ref a), .val (.ref ow), .val (.ref pa), .val (.ref la), .val (.ref ls), .val (.ref ly), .val (.int (1 : Int32)), .val (.int (1 : Int32))] [])) _
  exact J1 _ _ X329 _ e329 N330 KQ0 CH0
def own_par (a2 a3 a4 c : Int32) : Int32 := if c = (0 : Int32) then (-1 : Int32) else if c = (1 : Int32) then (0 : Int32) else if c = (2 : Int32) then a2 else if c = (3 : Int32) then a3 else a4
def own_up (a2 a3 a4 c : Int32) : Int32 := if c < (0 : Int32) then (-1 : Int32) else own_par a2 a3 a4 c
theorem own_five {c : Int32} (h1 : ¬ c < (0 : Int32)) (h2 : c < (5 : Int32)) : c = (0 : Int32) ∨ c = (1 : Int32) ∨ c = (2 : Int32) ∨ c = (3 : Int32) ∨ c = (4 : Int32) := by
  have e0 : (0 : Int32).toInt = 0 := by decide
  have e1 : (1 : Int32).toInt = 1 := by decide
  have e2 : (2 : Int32).toInt = 2 := by decide
  have e3 : (3 : Int32).toInt = 3 := by decide
  have e4 : (4 : Int32).toInt = 4 := by decide
  have e5 : (5 : Int32).toInt = 5 := by decide
  rw [Int32.lt_iff_toInt_lt, e0] at h1
  rw [Int32.lt_iff_toInt_lt, e5] at h2
  simp only [← Int32.toInt_inj, e0, e1, e2, e3, e4]
  omega
theorem own_par_at (a2 a3 a4 : Int32) {c : Int32} (h1 : ¬ c < (0 : Int32)) (h2 : c < (5 : Int32)) : [Value.int (-1 : Int32), .int (0 : Int32), .int a2, .int a3, .int a4].getD c.toNatClampNeg (.int (0 : Int32)) = .int (own_par a2 a3 a4 c) := by
  rcases own_five h1 h2 with rfl | rfl | rfl | rfl | rfl <;> rfl
def own_ch (a2 a3 a4 g : Int32) : Nat → Int32 → Int32
  | 0, c => (-1 : Int32)
  | n + 1, c => if g < c then (if own_par a2 a3 a4 c = g then c else own_ch a2 a3 a4 g n (own_par a2 a3 a4 c)) else (-1 : Int32)
theorem own_par_lt {a2 a3 a4 c : Int32} (b2 : a2 = (0 : Int32) ∨ a2 = (1 : Int32)) (b3 : a3 = (0 : Int32) ∨ a3 = (1 : Int32) ∨ a3 = (2 : Int32)) (b4 : a4 = (0 : Int32) ∨ a4 = (1 : Int32) ∨ a4 = (2 : Int32) ∨ a4 = (3 : Int32)) (h1 : ¬ c < (0 : Int32)) (h2 : c < (5 : Int32)) : own_par a2 a3 a4 c < c ∧ own_par a2 a3 a4 c < (5 : Int32) ∧ ((0 : Int32) < c → ¬ own_par a2 a3 a4 c < (0 : Int32)) := by
  rcases own_five h1 h2 with rfl | rfl | rfl | rfl | rfl
  · show (-1 : Int32) < (0 : Int32) ∧ (-1 : Int32) < (5 : Int32) ∧ ((0 : Int32) < (0 : Int32) → ¬ (-1 : Int32) < (0 : Int32)); decide
  · show (0 : Int32) < (1 : Int32) ∧ (0 : Int32) < (5 : Int32) ∧ ((0 : Int32) < (1 : Int32) → ¬ (0 : Int32) < (0 : Int32)); decide
  · show a2 < (2 : Int32) ∧ a2 < (5 : Int32) ∧ ((0 : Int32) < (2 : Int32) → ¬ a2 < (0 : Int32)); rcases b2 with rfl | rfl <;> decide
  · show a3 < (3 : Int32) ∧ a3 < (5 : Int32) ∧ ((0 : Int32) < (3 : Int32) → ¬ a3 < (0 : Int32)); rcases b3 with rfl | rfl | rfl <;> decide
  · show a4 < (4 : Int32) ∧ a4 < (5 : Int32) ∧ ((0 : Int32) < (4 : Int32) → ¬ a4 < (0 : Int32)); rcases b4 with rfl | rfl | rfl | rfl <;> decide
theorem own_up_lt {a2 a3 a4 c : Int32} (b2 : a2 = (0 : Int32) ∨ a2 = (1 : Int32)) (b3 : a3 = (0 : Int32) ∨ a3 = (1 : Int32) ∨ a3 = (2 : Int32)) (b4 : a4 = (0 : Int32) ∨ a4 = (1 : Int32) ∨ a4 = (2 : Int32) ∨ a4 = (3 : Int32)) (h2 : c < (5 : Int32)) : own_up a2 a3 a4 c < (5 : Int32) := by
  unfold own_up
  split
  · decide
  · rename_i h1; exact (own_par_lt b2 b3 b4 h1 h2).2.1
theorem own_ltt {x y z : Int32} (h1 : x < y) (h2 : ¬ z < y) : x < z := by rw [Int32.lt_iff_toInt_lt] at *; omega
theorem own_ltt2 {x y z : Int32} (h1 : x < y) (h2 : y < z) : x < z := by rw [Int32.lt_iff_toInt_lt] at *; omega
theorem own_pos {g c : Int32} (h1 : ¬ g < (0 : Int32)) (h2 : g < c) : (0 : Int32) < c ∧ ¬ c < (0 : Int32) := by rw [Int32.lt_iff_toInt_lt] at *; rw [Int32.lt_iff_toInt_lt]; omega
/-- what the law says of it -/
def own_exp (a2 a3 a4 g c : Int32) : Int32 := if c = g then (-1 : Int32) else if own_up a2 a3 a4 c = g then c else if own_up a2 a3 a4 (own_up a2 a3 a4 c) = g then own_up a2 a3 a4 c else if own_up a2 a3 a4 (own_up a2 a3 a4 (own_up a2 a3 a4 c)) = g then own_up a2 a3 a4 (own_up a2 a3 a4 c) else if own_up a2 a3 a4 (own_up a2 a3 a4 (own_up a2 a3 a4 (own_up a2 a3 a4 c))) = g then own_up a2 a3 a4 (own_up a2 a3 a4 (own_up a2 a3 a4 c)) else own_ch a2 a3 a4 g 5 c
theorem own_says {a2 a3 a4 c g : Int32} (b2 : a2 = (0 : Int32) ∨ a2 = (1 : Int32)) (b3 : a3 = (0 : Int32) ∨ a3 = (1 : Int32) ∨ a3 = (2 : Int32)) (b4 : a4 = (0 : Int32) ∨ a4 = (1 : Int32) ∨ a4 = (2 : Int32) ∨ a4 = (3 : Int32)) (h1 : ¬ c < (0 : Int32)) (h2 : c < (5 : Int32)) (g1 : ¬ g < (0 : Int32)) (g2 : g < (5 : Int32)) :
    own_ch a2 a3 a4 g 5 c = own_exp a2 a3 a4 g c := by
  rcases b2 with rfl | rfl <;> rcases b3 with rfl | rfl | rfl <;> rcases b4 with rfl | rfl | rfl | rfl <;> rcases own_five h1 h2 with rfl | rfl | rfl | rfl | rfl <;> rcases own_five g1 g2 with rfl | rfl | rfl | rfl | rfl <;> decide +kernel
theorem own_up__d0 : decode method_2_code 0 = .ok (.iload_n 1, 1) := by decide +kernel
theorem own_up__d1 : decode method_2_code 1 = .ok (.ifCond .lt 9, 3) := by decide +kernel
theorem own_up__d4 : decode method_2_code 4 = .ok (.aload_n 0, 1) := by decide +kernel
theorem own_up__d5 : decode method_2_code 5 = .ok (.iload_n 1, 1) := by decide +kernel
theorem own_up__d6 : decode method_2_code 6 = .ok (.iaload, 1) := by decide +kernel
theorem own_up__d7 : decode method_2_code 7 = .ok (.goto 4, 3) := by decide +kernel
theorem own_up__d10 : decode method_2_code 10 = .ok (.iconst (-1), 1) := by decide +kernel
theorem own_up__d11 : decode method_2_code 11 = .ok (.ireturn, 1) := by decide +kernel
theorem own_up__pn : plainName "com/example/adept_layout/adeptlayout/layout/NestingChildHoldingPinLaw" = true := by first | (simp [plainName, overriddenIn]; done) | decide +kernel
theorem own_up__ef (m : MethodId) (x0 : Addr) (x1 : Int32) : entryFrame m #[(.ref x0), (.int x1)] 2 = mkF m 0 #[.val (.ref x0), .val (.int x1)] [] := by first | (simp [entryFrame, mkF, argsToLocals, Value.category]; done) | rfl
def own_up__Q (Z : State) (pa : Addr) (kp : ClassId) (a2 : Int32) (a3 : Int32) (a4 : Int32) (cc : Int32) (h0 : Heap) (n0 : Nat) (vv_ : Option Value) (hh_ : Heap) (LL_ : List Loc) : Prop := vv_ = some (.int (own_up a2 a3 a4 cc)) ∧ Fr n0 LL_ ∧ hh_ = h0
set_option maxRecDepth 65536 in
set_option maxHeartbeats 40000000 in
theorem own_up_ (l : Launch) (Z : State) (a0 : Array Value) (hw : ∀ d ∈ tables_1, d.before a0 Z = true) (ws : List Jvm.Cond) (pa : Addr) (kp : ClassId) (a2 : Int32) (a3 : Int32) (a4 : Int32) (cc : Int32) (h0 : Heap) (n0 : Nat) (Z0 : n0 ≤ h0.size) (VP : Arv Z h0 pa kp .int (5 : Int32) [(.int (-1 : Int32)), (.int (0 : Int32)), (.int a2), (.int a3), (.int a4)] (.int (0 : Int32))) (hc : cc < (5 : Int32)) :
    MetFree l (⟨"com/example/adept_layout/adeptlayout/layout/NestingChildHoldingPinLaw", "up", "([II)I"⟩ : MethodName) (head1 (Jvm.Cond.code (⟨"com/example/adept_layout/adeptlayout/layout/NestingChildHoldingPinLaw", "up", "([II)I"⟩ : MethodName) method_2_code 2 (some .int) :: ws) ({ frames := 0, cells := 0, slots := 0, locals := 0 } : Room)) (fun aa_ UU_ => aa_ = #[(.ref pa), (.int cc)] ∧ Z.Warmed39 UU_.vm ∧ UU_.heap = h0) (fun _ _ _ _ _ => True) (fun _ UU_ oo_ UV_ => ∃ vv_ LL_, oo_ = .returned vv_ ∧ own_up__Q Z pa kp a2 a3 a4 cc h0 n0 vv_ UV_.heap LL_ ∧ FrameEnd UU_ oo_ UV_ LL_ ({ frames := 0, cells := 0, slots := 0, locals := 0 } : Room).cells ({ frames := 0, cells := 0, slots := 0, locals := 0 } : Room).slots) := by
  refine MetFree.of_bodySF (plainFor_of_name own_up__pn) hisR ?_
  intro p e s m args below meth c s₁ Bd hml0 hP hK
  obtain ⟨rfl, hZ, hh⟩ := hP
  have hx := Bd.exec
  have hby := Bd.bytes
  have hml : c.maxLocals = 2 := hml0
  have hown : s.vm.findClass "com/example/adept_layout/adeptlayout/layout/NestingChildHoldingPinLaw" = some m.cls := findClass_of_methodNamed Bd.named
  have hnm := (name_of_methodNamed Bd.named Bd.method).1
  have X0 : Stand p l e ({ frames := 0, cells := 0, slots := 0, locals := 0 } : Room) s m #[(.ref pa), (.int cc)] below meth c s₁ [] 0 0 := Stand.of_body Bd
  have e0 : s₁.heap = h0 := by rw [← hh, Bd.state]; rfl
  have N0 := Fr.nil n0
  have KP0 : Keep h0 h0 [] := Keep.refl _ _
  refine ownFin (Q := own_up__Q Z pa kp a2 a3 a4 cc h0 n0) ?_
  refine ownStep (fun _ k => castTop (own_up__ef m pa cc) k) ?_
  show ownGo p.tables e below (s₁.setTop (mkF m 0 #[.val (.ref pa), .val (.int cc)] [])) _
  refine ownStep (fun _ k => XS.iloadN X0.here hx rfl (hb hby own_up__d0) rfl  k) ?_
  show ownGo p.tables e below (s₁.setTop (mkF m 1 #[.val (.ref pa), .val (.int cc)] [(.int cc)])) _
  by_cases hc1 : cc < (0 : Int32)
  · skip
    refine ownStep (fun _ k => XS.ifYes X0.here hx rfl (pc0 := 1) (pc' := 10) rfl (hb hby own_up__d1) rfl ((if0 _ _).trans (tlt (hc1 : cc < (0 : Int32))).1) (by decide) (by decide) k) ?_
    refine ownStep (fun _ k => XS.iconst X0.here hx rfl (hb hby own_up__d10) k) ?_
    show ownGo p.tables e below (s₁.setTop (mkF m 11 #[.val (.ref pa), .val (.int cc)] [(.int (-1 : Int32))])) _
    exact ownRet X0 (v := some (.int (-1 : Int32))) Bd.notSynchronized (fun h => by rw [Bd.returns] at h; cases h) (fun _ hr => retI X0 hx Bd.returns (hb hby own_up__d11) hr) (by rw [e0]; exact ⟨(by simp only [own_up]; rw [if_pos hc1]), N0, rfl⟩) (by decide) (by decide)
  · skip
    refine ownStep (fun _ k => XS.ifNo X0.here hx rfl (hb hby own_up__d1) rfl ((if0 _ _).trans (flt (hc1 : ¬ cc < (0 : Int32))).1) k) ?_
    refine ownStep (fun _ k => XS.aloadN X0.here hx rfl (hb hby own_up__d4) rfl rfl k) ?_
    refine ownStep (fun _ k => XS.iloadN X0.here hx rfl (hb hby own_up__d5) rfl  k) ?_
    show ownGo p.tables e below (s₁.setTop (mkF m 6 #[.val (.ref pa), .val (.int cc)] [(.int cc), (.ref pa)])) _
    have Vo1 := VP
    obtain ⟨cl1, Ar1, q1, S1, N1, H1, G1⟩ := Vo1
    have hin1 : ¬ (cc < 0 ∨ cl1.slots.size ≤ (cc).toNatClampNeg) := inb_of S1 ⟨hc1, hc⟩
    refine ownStep (X0.iaload hx (j := cc) (v := (.int (own_par a2 a3 a4 cc))) (by rw [e0]; exact Ar1.1) (State.isArrayOf_alike hZ.alike Ar1.2.1) Ar1.2.2 hin1 (H1.at hin1 (own_par_at a2 a3 a4 hc1 hc)) (g := (mkF m 6 #[.val (.ref pa), .val (.int cc)] [(.int cc), (.ref pa)])) rfl rfl (hb hby own_up__d6)) ?_
    refine ownStep (fun _ k => XS.goto X0.here hx rfl (pc0 := 7) (pc' := 11) rfl (hb hby own_up__d7) (by decide) (by decide) k) ?_
    show ownGo p.tables e below (s₁.setTop (mkF m 11 #[.val (.ref pa), .val (.int cc)] [(.int (own_par a2 a3 a4 cc))])) _
    exact ownRet X0 (v := some (.int (own_par a2 a3 a4 cc))) Bd.notSynchronized (fun h => by rw [Bd.returns] at h; cases h) (fun _ hr => retI X0 hx Bd.returns (hb hby own_up__d11) hr) (by rw [e0]; exact ⟨(by simp only [own_up]; rw [if_neg hc1]), N0, rfl⟩) (by decide) (by decide)
theorem own_chain {g c0 c1 c2 c3 c4 : Int32} (g1 : ¬ g < (0 : Int32)) (h : c0 < (5 : Int32)) (h1 : c1 < c0) (h2 : c2 < c1) (h3 : c3 < c2) (h4 : c4 < c3) : ¬ g < c4 := by
  have e0 : (0 : Int32).toInt = 0 := by decide
  have e5 : (5 : Int32).toInt = 5 := by decide
  rw [Int32.lt_iff_toInt_lt] at *
  omega
theorem own_chh_d0 : decode prog_15_method_15_code 0 = .ok (.aload_n 0, 1) := by decide +kernel
theorem own_chh_d1 : decode prog_15_method_15_code 1 = .ok (.getfield 16, 3) := by decide +kernel
theorem own_chh_d4 : decode prog_15_method_15_code 4 = .ok (.iload_n 2, 1) := by decide +kernel
theorem own_chh_d5 : decode prog_15_method_15_code 5 = .ok (.iaload, 1) := by decide +kernel
theorem own_chh_d6 : decode prog_15_method_15_code 6 = .ok (.istore_n 3, 1) := by decide +kernel
theorem own_chh_d7 : decode prog_15_method_15_code 7 = .ok (.iload_n 3, 1) := by decide +kernel
theorem own_chh_d8 : decode prog_15_method_15_code 8 = .ok (.iload_n 1, 1) := by decide +kernel
theorem own_chh_d9 : decode prog_15_method_15_code 9 = .ok (.if_icmp .le 23, 3) := by decide +kernel
theorem own_chh_d12 : decode prog_15_method_15_code 12 = .ok (.aload_n 0, 1) := by decide +kernel
theorem own_chh_d13 : decode prog_15_method_15_code 13 = .ok (.getfield 20, 3) := by decide +kernel
theorem own_chh_d16 : decode prog_15_method_15_code 16 = .ok (.iload_n 3, 1) := by decide +kernel
theorem own_chh_d17 : decode prog_15_method_15_code 17 = .ok (.iaload, 1) := by decide +kernel
theorem own_chh_d18 : decode prog_15_method_15_code 18 = .ok (.iload_n 1, 1) := by decide +kernel
theorem own_chh_d19 : decode prog_15_method_15_code 19 = .ok (.if_icmp .eq 13, 3) := by decide +kernel
theorem own_chh_d22 : decode prog_15_method_15_code 22 = .ok (.aload_n 0, 1) := by decide +kernel
theorem own_chh_d23 : decode prog_15_method_15_code 23 = .ok (.getfield 20, 3) := by decide +kernel
theorem own_chh_d26 : decode prog_15_method_15_code 26 = .ok (.iload_n 3, 1) := by decide +kernel
theorem own_chh_d27 : decode prog_15_method_15_code 27 = .ok (.iaload, 1) := by decide +kernel
theorem own_chh_d28 : decode prog_15_method_15_code 28 = .ok (.istore_n 3, 1) := by decide +kernel
theorem own_chh_d29 : decode prog_15_method_15_code 29 = .ok (.goto (-22), 3) := by decide +kernel
theorem own_chh_d32 : decode prog_15_method_15_code 32 = .ok (.iload_n 3, 1) := by decide +kernel
theorem own_chh_d33 : decode prog_15_method_15_code 33 = .ok (.iload_n 1, 1) := by decide +kernel
theorem own_chh_d34 : decode prog_15_method_15_code 34 = .ok (.if_icmp .le 7, 3) := by decide +kernel
theorem own_chh_d37 : decode prog_15_method_15_code 37 = .ok (.iload_n 3, 1) := by decide +kernel
theorem own_chh_d38 : decode prog_15_method_15_code 38 = .ok (.goto 4, 3) := by decide +kernel
theorem own_chh_d41 : decode prog_15_method_15_code 41 = .ok (.iconst (-1), 1) := by decide +kernel
theorem own_chh_d42 : decode prog_15_method_15_code 42 = .ok (.ireturn, 1) := by decide +kernel
theorem own_chh_pn : plainName "com/example/adept_layout/adeptlayout/layout/Nesting" = true := by first | (simp [plainName, overriddenIn]; done) | decide +kernel
theorem own_chh_ef (m : MethodId) (x0 : Addr) (x1 : Int32) (x2 : Int32) : entryFrame m #[(.ref x0), (.int x1), (.int x2)] 4 = mkF m 0 #[.val (.ref x0), .val (.int x1), .val (.int x2), .unset] [] := by first | (simp [entryFrame, mkF, argsToLocals, Value.category]; done) | rfl
def own_chh_Q (Z : State) (a : Addr) (ow : Addr) (clo : Cell) (pa : Addr) (kp : ClassId) (a2 : Int32) (a3 : Int32) (a4 : Int32) (vv : Int32) (c0 : Int32) (gg : Int32) (h0 : Heap) (n0 : Nat) (vv_ : Option Value) (hh_ : Heap) (LL_ : List Loc) : Prop := vv_ = some (.int (own_ch a2 a3 a4 gg 5 c0)) ∧ Fr n0 LL_ ∧ hh_ = h0
set_option maxRecDepth 65536 in
set_option maxHeartbeats 40000000 in
theorem own_chh (l : Launch) (Z : State) (a0 : Array Value) (hw : ∀ d ∈ tables_1, d.before a0 Z = true) (ws : List Jvm.Cond) (a : Addr) (ow : Addr) (clo : Cell) (pa : Addr) (kp : ClassId) (a2 : Int32) (a3 : Int32) (a4 : Int32) (vv : Int32) (c0 : Int32) (gg : Int32) (h0 : Heap) (n0 : Nat) (Z0 : n0 ≤ h0.size) (F1 : Fld Z h0 a "com/example/adept_layout/adeptlayout/layout/Nesting" "owner" "[I" (.ref ow)) (F2 : Fld Z h0 a "com/example/adept_layout/adeptlayout/layout/Nesting" "parent" "[I" (.ref pa)) (VP : Arv Z h0 pa kp .int (5 : Int32) [(.int (-1 : Int32)), (.int (0 : Int32)), (.int a2), (.int a3), (.int a4)] (.int (0 : Int32))) (AO : Arr Z h0 ow clo .int) (hin : ¬ (vv < 0 ∨ clo.slots.size ≤ vv.toNatClampNeg)) (hat : clo.slots[vv.toNatClampNeg]? = some (.int c0)) (ra2 : a2 = (0 : Int32) ∨ a2 = (1 : Int32)) (ra3 : a3 = (0 : Int32) ∨ a3 = (1 : Int32) ∨ a3 = (2 : Int32)) (ra4 : a4 = (0 : Int32) ∨ a4 = (1 : Int32) ∨ a4 = (2 : Int32) ∨ a4 = (3 : Int32)) (cl0 : ¬ c0 < (0 : Int32)) (ch0 : c0 < (5 : Int32)) (g1 : ¬ gg < (0 : Int32)) (g2 : gg < (5 : Int32)) :
    MetFree l (⟨"com/example/adept_layout/adeptlayout/layout/Nesting", "childHolding", "(II)I"⟩ : MethodName) (head1 (Jvm.Cond.code (⟨"com/example/adept_layout/adeptlayout/layout/Nesting", "childHolding", "(II)I"⟩ : MethodName) prog_15_method_15_code 4 (some .int) :: ws) ({ frames := 0, cells := 0, slots := 0, locals := 0 } : Room)) (fun aa_ UU_ => aa_ = #[(.ref a), (.int gg), (.int vv)] ∧ Z.Warmed39 UU_.vm ∧ UU_.heap = h0) (fun _ _ _ _ _ => True) (fun _ UU_ oo_ UV_ => ∃ vv_ LL_, oo_ = .returned vv_ ∧ own_chh_Q Z a ow clo pa kp a2 a3 a4 vv c0 gg h0 n0 vv_ UV_.heap LL_ ∧ FrameEnd UU_ oo_ UV_ LL_ ({ frames := 0, cells := 0, slots := 0, locals := 0 } : Room).cells ({ frames := 0, cells := 0, slots := 0, locals := 0 } : Room).slots) := by
  refine MetFree.of_bodySF (plainFor_of_name own_chh_pn) hisR ?_
  intro p e s m args below meth c s₁ Bd hml0 hP hK
  obtain ⟨rfl, hZ, hh⟩ := hP
  have hx := Bd.exec
  have hby := Bd.bytes
  have hml : c.maxLocals = 4 := hml0
  have hown : s.vm.findClass "com/example/adept_layout/adeptlayout/layout/Nesting" = some m.cls := findClass_of_methodNamed Bd.named
  have hnm := (name_of_methodNamed Bd.named Bd.method).1
  have X0 : Stand p l e ({ frames := 0, cells := 0, slots := 0, locals := 0 } : Room) s m #[(.ref a), (.int gg), (.int vv)] below meth c s₁ [] 0 0 := Stand.of_body Bd
  have e0 : s₁.heap = h0 := by rw [← hh, Bd.state]; rfl
  have N0 := Fr.nil n0
  have KP0 : Keep h0 h0 [] := Keep.refl _ _
  refine ownFin (Q := own_chh_Q Z a ow clo pa kp a2 a3 a4 vv c0 gg h0 n0) ?_
  refine ownStep (fun _ k => castTop (own_chh_ef m a gg vv) k) ?_
  show ownGo p.tables e below (s₁.setTop (mkF m 0 #[.val (.ref a), .val (.int gg), .val (.int vv), .unset] [])) _
  refine ownStep (fun _ k => XS.aloadN X0.here hx rfl (hb hby own_chh_d0) rfl rfl k) ?_
  show ownGo p.tables e below (s₁.setTop (mkF m 1 #[.val (.ref a), .val (.int gg), .val (.int vv), .unset] [(.ref a)])) _
  obtain ⟨T1, X1, e1, st1⟩ := getF X0 hx hZ hown (host := "") (Or.inl (hw _ (List.mem_of_getElem? (i := 38) rfl))) Via.refl e0 F1 (g := (mkF m 1 #[.val (.ref a), .val (.int gg), .val (.int vv), .unset] [(.ref a)])) rfl rfl (hb hby own_chh_d1)
  refine ownStep st1 ?_
  refine ownStep (fun _ k => XS.iloadN X1.here hx rfl (hb hby own_chh_d4) rfl  k) ?_
  show ownGo p.tables e below (T1.setTop (mkF m 5 #[.val (.ref a), .val (.int gg), .val (.int vv), .unset] [(.int vv), (.ref ow)])) _
  refine ownStep (X1.iaload hx (j := vv) (v := (.int c0)) (by rw [e1]; exact AO.1) (State.isArrayOf_alike hZ.alike AO.2.1) AO.2.2 hin hat (g := (mkF m 5 #[.val (.ref a), .val (.int gg), .val (.int vv), .unset] [(.int vv), (.ref ow)])) rfl rfl (hb hby own_chh_d5)) ?_
  refine ownStep (fun _ k => XS.istoreN X1.here hx rfl (hb hby own_chh_d6) rfl (l' := #[.val (.ref a), .val (.int gg), .val (.int vv), .val (.int c0)]) rfl k) ?_
  refine ownStep (fun _ k => XS.iloadN X1.here hx rfl (hb hby own_chh_d7) rfl  k) ?_
  refine ownStep (fun _ k => XS.iloadN X1.here hx rfl (hb hby own_chh_d8) rfl  k) ?_
  show ownGo p.tables e below (T1.setTop (mkF m 9 #[.val (.ref a), .val (.int gg), .val (.int vv), .val (.int c0)] [(.int gg), (.int c0)])) _
  by_cases hg0 : gg < c0
  · skip
    refine ownStep (fun _ k => XS.icmpNo X1.here hx rfl (hb hby own_chh_d9) rfl (tlt (hg0 : gg < c0)).2.2.2 k) ?_
    refine ownStep (fun _ k => XS.aloadN X1.here hx rfl (hb hby own_chh_d12) rfl rfl k) ?_
    show ownGo p.tables e below (T1.setTop (mkF m 13 #[.val (.ref a), .val (.int gg), .val (.int vv), .val (.int c0)] [(.ref a)])) _
    obtain ⟨T2, X2, e2, st2⟩ := getF X1 hx hZ hown (host := "") (Or.inl (hw _ (List.mem_of_getElem? (i := 40) rfl))) Via.refl e1 F2 (g := (mkF m 13 #[.val (.ref a), .val (.int gg), .val (.int vv), .val (.int c0)] [(.ref a)])) rfl rfl (hb hby own_chh_d13)
    refine ownStep st2 ?_
    refine ownStep (fun _ k => XS.iloadN X2.here hx rfl (hb hby own_chh_d16) rfl  k) ?_
    show ownGo p.tables e below (T2.setTop (mkF m 17 #[.val (.ref a), .val (.int gg), .val (.int vv), .val (.int c0)] [(.int c0), (.ref pa)])) _
    have Vo3 := VP
    obtain ⟨cl3, Ar3, q3, S3, N3, H3, G3⟩ := Vo3
    have hin3 : ¬ (c0 < 0 ∨ cl3.slots.size ≤ (c0).toNatClampNeg) := inb_of S3 ⟨cl0, ch0⟩
    refine ownStep (X2.iaload hx (j := c0) (v := (.int (own_par a2 a3 a4 c0))) (by rw [e2]; exact Ar3.1) (State.isArrayOf_alike hZ.alike Ar3.2.1) Ar3.2.2 hin3 (H3.at hin3 (own_par_at a2 a3 a4 cl0 ch0)) (g := (mkF m 17 #[.val (.ref a), .val (.int gg), .val (.int vv), .val (.int c0)] [(.int c0), (.ref pa)])) rfl rfl (hb hby own_chh_d17)) ?_
    refine ownStep (fun _ k => XS.iloadN X2.here hx rfl (hb hby own_chh_d18) rfl  k) ?_
    show ownGo p.tables e below (T2.setTop (mkF m 19 #[.val (.ref a), .val (.int gg), .val (.int vv), .val (.int c0)] [(.int gg), (.int (own_par a2 a3 a4 c0))])) _
    by_cases hp0 : (own_par a2 a3 a4 c0) = gg
    · skip
      refine ownStep (fun _ k => XS.icmpYes X2.here hx rfl (pc0 := 19) (pc' := 32) rfl (hb hby own_chh_d19) rfl (teq (hp0 : (own_par a2 a3 a4 c0) = gg)).1 (by decide) (by decide) k) ?_
      refine ownStep (fun _ k => XS.iloadN X2.here hx rfl (hb hby own_chh_d32) rfl  k) ?_
      refine ownStep (fun _ k => XS.iloadN X2.here hx rfl (hb hby own_chh_d33) rfl  k) ?_
      refine ownStep (fun _ k => XS.icmpNo X2.here hx rfl (hb hby own_chh_d34) rfl (tlt (hg0 : gg < c0)).2.2.2 k) ?_
      refine ownStep (fun _ k => XS.iloadN X2.here hx rfl (hb hby own_chh_d37) rfl  k) ?_
      show ownGo p.tables e below (T2.setTop (mkF m 38 #[.val (.ref a), .val (.int gg), .val (.int vv), .val (.int c0)] [(.int c0)])) _
      refine ownStep (fun _ k => XS.goto X2.here hx rfl (pc0 := 38) (pc' := 42) rfl (hb hby own_chh_d38) (by decide) (by decide) k) ?_
      show ownGo p.tables e below (T2.setTop (mkF m 42 #[.val (.ref a), .val (.int gg), .val (.int vv), .val (.int c0)] [(.int c0)])) _
      exact ownRet X2 (v := some (.int c0)) Bd.notSynchronized (fun h => by rw [Bd.returns] at h; cases h) (fun _ hr => retI X2 hx Bd.returns (hb hby own_chh_d42) hr) (by rw [e2]; exact ⟨(by simp [own_ch, hg0, hp0]), N0, rfl⟩) (by decide) (by decide)
    · skip
      refine ownStep (fun _ k => XS.icmpNo X2.here hx rfl (hb hby own_chh_d19) rfl (feq (hp0 : ¬ (own_par a2 a3 a4 c0) = gg)).1 k) ?_
      refine ownStep (fun _ k => XS.aloadN X2.here hx rfl (hb hby own_chh_d22) rfl rfl k) ?_
      show ownGo p.tables e below (T2.setTop (mkF m 23 #[.val (.ref a), .val (.int gg), .val (.int vv), .val (.int c0)] [(.ref a)])) _
      obtain ⟨T4, X4, e4, st4⟩ := getF X2 hx hZ hown (host := "") (Or.inl (hw _ (List.mem_of_getElem? (i := 40) rfl))) Via.refl e2 F2 (g := (mkF m 23 #[.val (.ref a), .val (.int gg), .val (.int vv), .val (.int c0)] [(.ref a)])) rfl rfl (hb hby own_chh_d23)
      refine ownStep st4 ?_
      refine ownStep (fun _ k => XS.iloadN X4.here hx rfl (hb hby own_chh_d26) rfl  k) ?_
      show ownGo p.tables e below (T4.setTop (mkF m 27 #[.val (.ref a), .val (.int gg), .val (.int vv), .val (.int c0)] [(.int c0), (.ref pa)])) _
      have Vo5 := VP
      obtain ⟨cl5, Ar5, q5, S5, N5, H5, G5⟩ := Vo5
      have hin5 : ¬ (c0 < 0 ∨ cl5.slots.size ≤ (c0).toNatClampNeg) := inb_of S5 ⟨cl0, ch0⟩
      refine ownStep (X4.iaload hx (j := c0) (v := (.int (own_par a2 a3 a4 c0))) (by rw [e4]; exact Ar5.1) (State.isArrayOf_alike hZ.alike Ar5.2.1) Ar5.2.2 hin5 (H5.at hin5 (own_par_at a2 a3 a4 cl0 ch0)) (g := (mkF m 27 #[.val (.ref a), .val (.int gg), .val (.int vv), .val (.int c0)] [(.int c0), (.ref pa)])) rfl rfl (hb hby own_chh_d27)) ?_
      refine ownStep (fun _ k => XS.istoreN X4.here hx rfl (hb hby own_chh_d28) rfl (l' := #[.val (.ref a), .val (.int gg), .val (.int vv), .val (.int (own_par a2 a3 a4 c0))]) rfl k) ?_
      show ownGo p.tables e below (T4.setTop (mkF m 29 #[.val (.ref a), .val (.int gg), .val (.int vv), .val (.int (own_par a2 a3 a4 c0))] [])) _
      have pl0 := own_par_lt ra2 ra3 ra4 cl0 ch0
      have lo1 := pl0.2.2 (own_pos g1 hg0).1
      have hi1 := pl0.2.1
      refine ownStep (fun _ k => XS.goto X4.here hx rfl (pc0 := 29) (pc' := 7) rfl (hb hby own_chh_d29) (by decide) (by decide) k) ?_
      refine ownStep (fun _ k => XS.iloadN X4.here hx rfl (hb hby own_chh_d7) rfl  k) ?_
      refine ownStep (fun _ k => XS.iloadN X4.here hx rfl (hb hby own_chh_d8) rfl  k) ?_
      show ownGo p.tables e below (T4.setTop (mkF m 9 #[.val (.ref a), .val (.int gg), .val (.int vv), .val (.int (own_par a2 a3 a4 c0))] [(.int gg), (.int (own_par a2 a3 a4 c0))])) _
      by_cases hg1 : gg < (own_par a2 a3 a4 c0)
      · skip
        refine ownStep (fun _ k => XS.icmpNo X4.here hx rfl (hb hby own_chh_d9) rfl (tlt (hg1 : gg < (own_par a2 a3 a4 c0))).2.2.2 k) ?_
        refine ownStep (fun _ k => XS.aloadN X4.here hx rfl (hb hby own_chh_d12) rfl rfl k) ?_
        show ownGo p.tables e below (T4.setTop (mkF m 13 #[.val (.ref a), .val (.int gg), .val (.int vv), .val (.int (own_par a2 a3 a4 c0))] [(.ref a)])) _
        obtain ⟨T6, X6, e6, st6⟩ := getF X4 hx hZ hown (host := "") (Or.inl (hw _ (List.mem_of_getElem? (i := 40) rfl))) Via.refl e4 F2 (g := (mkF m 13 #[.val (.ref a), .val (.int gg), .val (.int vv), .val (.int (own_par a2 a3 a4 c0))] [(.ref a)])) rfl rfl (hb hby own_chh_d13)
        refine ownStep st6 ?_
        refine ownStep (fun _ k => XS.iloadN X6.here hx rfl (hb hby own_chh_d16) rfl  k) ?_
        show ownGo p.tables e below (T6.setTop (mkF m 17 #[.val (.ref a), .val (.int gg), .val (.int vv), .val (.int (own_par a2 a3 a4 c0))] [(.int (own_par a2 a3 a4 c0)), (.ref pa)])) _
        have Vo7 := VP
        obtain ⟨cl7, Ar7, q7, S7, N7, H7, G7⟩ := Vo7
        have hin7 : ¬ ((own_par a2 a3 a4 c0) < 0 ∨ cl7.slots.size ≤ ((own_par a2 a3 a4 c0)).toNatClampNeg) := inb_of S7 ⟨lo1, hi1⟩
        refine ownStep (X6.iaload hx (j := (own_par a2 a3 a4 c0)) (v := (.int (own_par a2 a3 a4 (own_par a2 a3 a4 c0)))) (by rw [e6]; exact Ar7.1) (State.isArrayOf_alike hZ.alike Ar7.2.1) Ar7.2.2 hin7 (H7.at hin7 (own_par_at a2 a3 a4 lo1 hi1)) (g := (mkF m 17 #[.val (.ref a), .val (.int gg), .val (.int vv), .val (.int (own_par a2 a3 a4 c0))] [(.int (own_par a2 a3 a4 c0)), (.ref pa)])) rfl rfl (hb hby own_chh_d17)) ?_
        refine ownStep (fun _ k => XS.iloadN X6.here hx rfl (hb hby own_chh_d18) rfl  k) ?_
        show ownGo p.tables e below (T6.setTop (mkF m 19 #[.val (.ref a), .val (.int gg), .val (.int vv), .val (.int (own_par a2 a3 a4 c0))] [(.int gg), (.int (own_par a2 a3 a4 (own_par a2 a3 a4 c0)))])) _
        by_cases hp1 : (own_par a2 a3 a4 (own_par a2 a3 a4 c0)) = gg
        · skip
          refine ownStep (fun _ k => XS.icmpYes X6.here hx rfl (pc0 := 19) (pc' := 32) rfl (hb hby own_chh_d19) rfl (teq (hp1 : (own_par a2 a3 a4 (own_par a2 a3 a4 c0)) = gg)).1 (by decide) (by decide) k) ?_
          refine ownStep (fun _ k => XS.iloadN X6.here hx rfl (hb hby own_chh_d32) rfl  k) ?_
          refine ownStep (fun _ k => XS.iloadN X6.here hx rfl (hb hby own_chh_d33) rfl  k) ?_
          refine ownStep (fun _ k => XS.icmpNo X6.here hx rfl (hb hby own_chh_d34) rfl (tlt (hg1 : gg < (own_par a2 a3 a4 c0))).2.2.2 k) ?_
          refine ownStep (fun _ k => XS.iloadN X6.here hx rfl (hb hby own_chh_d37) rfl  k) ?_
          show ownGo p.tables e below (T6.setTop (mkF m 38 #[.val (.ref a), .val (.int gg), .val (.int vv), .val (.int (own_par a2 a3 a4 c0))] [(.int (own_par a2 a3 a4 c0))])) _
          refine ownStep (fun _ k => XS.goto X6.here hx rfl (pc0 := 38) (pc' := 42) rfl (hb hby own_chh_d38) (by decide) (by decide) k) ?_
          show ownGo p.tables e below (T6.setTop (mkF m 42 #[.val (.ref a), .val (.int gg), .val (.int vv), .val (.int (own_par a2 a3 a4 c0))] [(.int (own_par a2 a3 a4 c0))])) _
          exact ownRet X6 (v := some (.int (own_par a2 a3 a4 c0))) Bd.notSynchronized (fun h => by rw [Bd.returns] at h; cases h) (fun _ hr => retI X6 hx Bd.returns (hb hby own_chh_d42) hr) (by rw [e6]; exact ⟨(by simp [own_ch, hg0, hg1, hp0, hp1]), N0, rfl⟩) (by decide) (by decide)
        · skip
          refine ownStep (fun _ k => XS.icmpNo X6.here hx rfl (hb hby own_chh_d19) rfl (feq (hp1 : ¬ (own_par a2 a3 a4 (own_par a2 a3 a4 c0)) = gg)).1 k) ?_
          refine ownStep (fun _ k => XS.aloadN X6.here hx rfl (hb hby own_chh_d22) rfl rfl k) ?_
          show ownGo p.tables e below (T6.setTop (mkF m 23 #[.val (.ref a), .val (.int gg), .val (.int vv), .val (.int (own_par a2 a3 a4 c0))] [(.ref a)])) _
          obtain ⟨T8, X8, e8, st8⟩ := getF X6 hx hZ hown (host := "") (Or.inl (hw _ (List.mem_of_getElem? (i := 40) rfl))) Via.refl e6 F2 (g := (mkF m 23 #[.val (.ref a), .val (.int gg), .val (.int vv), .val (.int (own_par a2 a3 a4 c0))] [(.ref a)])) rfl rfl (hb hby own_chh_d23)
          refine ownStep st8 ?_
          refine ownStep (fun _ k => XS.iloadN X8.here hx rfl (hb hby own_chh_d26) rfl  k) ?_
          show ownGo p.tables e below (T8.setTop (mkF m 27 #[.val (.ref a), .val (.int gg), .val (.int vv), .val (.int (own_par a2 a3 a4 c0))] [(.int (own_par a2 a3 a4 c0)), (.ref pa)])) _
          have Vo9 := VP
          obtain ⟨cl9, Ar9, q9, S9, N9, H9, G9⟩ := Vo9
          have hin9 : ¬ ((own_par a2 a3 a4 c0) < 0 ∨ cl9.slots.size ≤ ((own_par a2 a3 a4 c0)).toNatClampNeg) := inb_of S9 ⟨lo1, hi1⟩
          refine ownStep (X8.iaload hx (j := (own_par a2 a3 a4 c0)) (v := (.int (own_par a2 a3 a4 (own_par a2 a3 a4 c0)))) (by rw [e8]; exact Ar9.1) (State.isArrayOf_alike hZ.alike Ar9.2.1) Ar9.2.2 hin9 (H9.at hin9 (own_par_at a2 a3 a4 lo1 hi1)) (g := (mkF m 27 #[.val (.ref a), .val (.int gg), .val (.int vv), .val (.int (own_par a2 a3 a4 c0))] [(.int (own_par a2 a3 a4 c0)), (.ref pa)])) rfl rfl (hb hby own_chh_d27)) ?_
          refine ownStep (fun _ k => XS.istoreN X8.here hx rfl (hb hby own_chh_d28) rfl (l' := #[.val (.ref a), .val (.int gg), .val (.int vv), .val (.int (own_par a2 a3 a4 (own_par a2 a3 a4 c0)))]) rfl k) ?_
          show ownGo p.tables e below (T8.setTop (mkF m 29 #[.val (.ref a), .val (.int gg), .val (.int vv), .val (.int (own_par a2 a3 a4 (own_par a2 a3 a4 c0)))] [])) _
          have pl1 := own_par_lt ra2 ra3 ra4 lo1 hi1
          have lo2 := pl1.2.2 (own_pos g1 hg1).1
          have hi2 := pl1.2.1
          refine ownStep (fun _ k => XS.goto X8.here hx rfl (pc0 := 29) (pc' := 7) rfl (hb hby own_chh_d29) (by decide) (by decide) k) ?_
          refine ownStep (fun _ k => XS.iloadN X8.here hx rfl (hb hby own_chh_d7) rfl  k) ?_
          refine ownStep (fun _ k => XS.iloadN X8.here hx rfl (hb hby own_chh_d8) rfl  k) ?_
          show ownGo p.tables e below (T8.setTop (mkF m 9 #[.val (.ref a), .val (.int gg), .val (.int vv), .val (.int (own_par a2 a3 a4 (own_par a2 a3 a4 c0)))] [(.int gg), (.int (own_par a2 a3 a4 (own_par a2 a3 a4 c0)))])) _
          by_cases hg2 : gg < (own_par a2 a3 a4 (own_par a2 a3 a4 c0))
          · skip
            refine ownStep (fun _ k => XS.icmpNo X8.here hx rfl (hb hby own_chh_d9) rfl (tlt (hg2 : gg < (own_par a2 a3 a4 (own_par a2 a3 a4 c0)))).2.2.2 k) ?_
            refine ownStep (fun _ k => XS.aloadN X8.here hx rfl (hb hby own_chh_d12) rfl rfl k) ?_
            show ownGo p.tables e below (T8.setTop (mkF m 13 #[.val (.ref a), .val (.int gg), .val (.int vv), .val (.int (own_par a2 a3 a4 (own_par a2 a3 a4 c0)))] [(.ref a)])) _
            obtain ⟨T10, X10, e10, st10⟩ := getF X8 hx hZ hown (host := "") (Or.inl (hw _ (List.mem_of_getElem? (i := 40) rfl))) Via.refl e8 F2 (g := (mkF m 13 #[.val (.ref a), .val (.int gg), .val (.int vv), .val (.int (own_par a2 a3 a4 (own_par a2 a3 a4 c0)))] [(.ref a)])) rfl rfl (hb hby own_chh_d13)
            refine ownStep st10 ?_
            refine ownStep (fun _ k => XS.iloadN X10.here hx rfl (hb hby own_chh_d16) rfl  k) ?_
            show ownGo p.tables e below (T10.setTop (mkF m 17 #[.val (.ref a), .val (.int gg), .val (.int vv), .val (.int (own_par a2 a3 a4 (own_par a2 a3 a4 c0)))] [(.int (own_par a2 a3 a4 (own_par a2 a3 a4 c0))), (.ref pa)])) _
            have Vo11 := VP
            obtain ⟨cl11, Ar11, q11, S11, N11, H11, G11⟩ := Vo11
            have hin11 : ¬ ((own_par a2 a3 a4 (own_par a2 a3 a4 c0)) < 0 ∨ cl11.slots.size ≤ ((own_par a2 a3 a4 (own_par a2 a3 a4 c0))).toNatClampNeg) := inb_of S11 ⟨lo2, hi2⟩
            refine ownStep (X10.iaload hx (j := (own_par a2 a3 a4 (own_par a2 a3 a4 c0))) (v := (.int (own_par a2 a3 a4 (own_par a2 a3 a4 (own_par a2 a3 a4 c0))))) (by rw [e10]; exact Ar11.1) (State.isArrayOf_alike hZ.alike Ar11.2.1) Ar11.2.2 hin11 (H11.at hin11 (own_par_at a2 a3 a4 lo2 hi2)) (g := (mkF m 17 #[.val (.ref a), .val (.int gg), .val (.int vv), .val (.int (own_par a2 a3 a4 (own_par a2 a3 a4 c0)))] [(.int (own_par a2 a3 a4 (own_par a2 a3 a4 c0))), (.ref pa)])) rfl rfl (hb hby own_chh_d17)) ?_
            refine ownStep (fun _ k => XS.iloadN X10.here hx rfl (hb hby own_chh_d18) rfl  k) ?_
            show ownGo p.tables e below (T10.setTop (mkF m 19 #[.val (.ref a), .val (.int gg), .val (.int vv), .val (.int (own_par a2 a3 a4 (own_par a2 a3 a4 c0)))] [(.int gg), (.int (own_par a2 a3 a4 (own_par a2 a3 a4 (own_par a2 a3 a4 c0))))])) _
            by_cases hp2 : (own_par a2 a3 a4 (own_par a2 a3 a4 (own_par a2 a3 a4 c0))) = gg
            · skip
              refine ownStep (fun _ k => XS.icmpYes X10.here hx rfl (pc0 := 19) (pc' := 32) rfl (hb hby own_chh_d19) rfl (teq (hp2 : (own_par a2 a3 a4 (own_par a2 a3 a4 (own_par a2 a3 a4 c0))) = gg)).1 (by decide) (by decide) k) ?_
              refine ownStep (fun _ k => XS.iloadN X10.here hx rfl (hb hby own_chh_d32) rfl  k) ?_
              refine ownStep (fun _ k => XS.iloadN X10.here hx rfl (hb hby own_chh_d33) rfl  k) ?_
              refine ownStep (fun _ k => XS.icmpNo X10.here hx rfl (hb hby own_chh_d34) rfl (tlt (hg2 : gg < (own_par a2 a3 a4 (own_par a2 a3 a4 c0)))).2.2.2 k) ?_
              refine ownStep (fun _ k => XS.iloadN X10.here hx rfl (hb hby own_chh_d37) rfl  k) ?_
              show ownGo p.tables e below (T10.setTop (mkF m 38 #[.val (.ref a), .val (.int gg), .val (.int vv), .val (.int (own_par a2 a3 a4 (own_par a2 a3 a4 c0)))] [(.int (own_par a2 a3 a4 (own_par a2 a3 a4 c0)))])) _
              refine ownStep (fun _ k => XS.goto X10.here hx rfl (pc0 := 38) (pc' := 42) rfl (hb hby own_chh_d38) (by decide) (by decide) k) ?_
              show ownGo p.tables e below (T10.setTop (mkF m 42 #[.val (.ref a), .val (.int gg), .val (.int vv), .val (.int (own_par a2 a3 a4 (own_par a2 a3 a4 c0)))] [(.int (own_par a2 a3 a4 (own_par a2 a3 a4 c0)))])) _
              exact ownRet X10 (v := some (.int (own_par a2 a3 a4 (own_par a2 a3 a4 c0)))) Bd.notSynchronized (fun h => by rw [Bd.returns] at h; cases h) (fun _ hr => retI X10 hx Bd.returns (hb hby own_chh_d42) hr) (by rw [e10]; exact ⟨(by simp [own_ch, hg0, hg1, hg2, hp0, hp1, hp2]), N0, rfl⟩) (by decide) (by decide)
            · skip
              refine ownStep (fun _ k => XS.icmpNo X10.here hx rfl (hb hby own_chh_d19) rfl (feq (hp2 : ¬ (own_par a2 a3 a4 (own_par a2 a3 a4 (own_par a2 a3 a4 c0))) = gg)).1 k) ?_
              refine ownStep (fun _ k => XS.aloadN X10.here hx rfl (hb hby own_chh_d22) rfl rfl k) ?_
              show ownGo p.tables e below (T10.setTop (mkF m 23 #[.val (.ref a), .val (.int gg), .val (.int vv), .val (.int (own_par a2 a3 a4 (own_par a2 a3 a4 c0)))] [(.ref a)])) _
              obtain ⟨T12, X12, e12, st12⟩ := getF X10 hx hZ hown (host := "") (Or.inl (hw _ (List.mem_of_getElem? (i := 40) rfl))) Via.refl e10 F2 (g := (mkF m 23 #[.val (.ref a), .val (.int gg), .val (.int vv), .val (.int (own_par a2 a3 a4 (own_par a2 a3 a4 c0)))] [(.ref a)])) rfl rfl (hb hby own_chh_d23)
              refine ownStep st12 ?_
              refine ownStep (fun _ k => XS.iloadN X12.here hx rfl (hb hby own_chh_d26) rfl  k) ?_
              show ownGo p.tables e below (T12.setTop (mkF m 27 #[.val (.ref a), .val (.int gg), .val (.int vv), .val (.int (own_par a2 a3 a4 (own_par a2 a3 a4 c0)))] [(.int (own_par a2 a3 a4 (own_par a2 a3 a4 c0))), (.ref pa)])) _
              have Vo13 := VP
              obtain ⟨cl13, Ar13, q13, S13, N13, H13, G13⟩ := Vo13
              have hin13 : ¬ ((own_par a2 a3 a4 (own_par a2 a3 a4 c0)) < 0 ∨ cl13.slots.size ≤ ((own_par a2 a3 a4 (own_par a2 a3 a4 c0))).toNatClampNeg) := inb_of S13 ⟨lo2, hi2⟩
              refine ownStep (X12.iaload hx (j := (own_par a2 a3 a4 (own_par a2 a3 a4 c0))) (v := (.int (own_par a2 a3 a4 (own_par a2 a3 a4 (own_par a2 a3 a4 c0))))) (by rw [e12]; exact Ar13.1) (State.isArrayOf_alike hZ.alike Ar13.2.1) Ar13.2.2 hin13 (H13.at hin13 (own_par_at a2 a3 a4 lo2 hi2)) (g := (mkF m 27 #[.val (.ref a), .val (.int gg), .val (.int vv), .val (.int (own_par a2 a3 a4 (own_par a2 a3 a4 c0)))] [(.int (own_par a2 a3 a4 (own_par a2 a3 a4 c0))), (.ref pa)])) rfl rfl (hb hby own_chh_d27)) ?_
              refine ownStep (fun _ k => XS.istoreN X12.here hx rfl (hb hby own_chh_d28) rfl (l' := #[.val (.ref a), .val (.int gg), .val (.int vv), .val (.int (own_par a2 a3 a4 (own_par a2 a3 a4 (own_par a2 a3 a4 c0))))]) rfl k) ?_
              show ownGo p.tables e below (T12.setTop (mkF m 29 #[.val (.ref a), .val (.int gg), .val (.int vv), .val (.int (own_par a2 a3 a4 (own_par a2 a3 a4 (own_par a2 a3 a4 c0))))] [])) _
              have pl2 := own_par_lt ra2 ra3 ra4 lo2 hi2
              have lo3 := pl2.2.2 (own_pos g1 hg2).1
              have hi3 := pl2.2.1
              refine ownStep (fun _ k => XS.goto X12.here hx rfl (pc0 := 29) (pc' := 7) rfl (hb hby own_chh_d29) (by decide) (by decide) k) ?_
              refine ownStep (fun _ k => XS.iloadN X12.here hx rfl (hb hby own_chh_d7) rfl  k) ?_
              refine ownStep (fun _ k => XS.iloadN X12.here hx rfl (hb hby own_chh_d8) rfl  k) ?_
              show ownGo p.tables e below (T12.setTop (mkF m 9 #[.val (.ref a), .val (.int gg), .val (.int vv), .val (.int (own_par a2 a3 a4 (own_par a2 a3 a4 (own_par a2 a3 a4 c0))))] [(.int gg), (.int (own_par a2 a3 a4 (own_par a2 a3 a4 (own_par a2 a3 a4 c0))))])) _
              by_cases hg3 : gg < (own_par a2 a3 a4 (own_par a2 a3 a4 (own_par a2 a3 a4 c0)))
              · skip
                refine ownStep (fun _ k => XS.icmpNo X12.here hx rfl (hb hby own_chh_d9) rfl (tlt (hg3 : gg < (own_par a2 a3 a4 (own_par a2 a3 a4 (own_par a2 a3 a4 c0))))).2.2.2 k) ?_
                refine ownStep (fun _ k => XS.aloadN X12.here hx rfl (hb hby own_chh_d12) rfl rfl k) ?_
                show ownGo p.tables e below (T12.setTop (mkF m 13 #[.val (.ref a), .val (.int gg), .val (.int vv), .val (.int (own_par a2 a3 a4 (own_par a2 a3 a4 (own_par a2 a3 a4 c0))))] [(.ref a)])) _
                obtain ⟨T14, X14, e14, st14⟩ := getF X12 hx hZ hown (host := "") (Or.inl (hw _ (List.mem_of_getElem? (i := 40) rfl))) Via.refl e12 F2 (g := (mkF m 13 #[.val (.ref a), .val (.int gg), .val (.int vv), .val (.int (own_par a2 a3 a4 (own_par a2 a3 a4 (own_par a2 a3 a4 c0))))] [(.ref a)])) rfl rfl (hb hby own_chh_d13)
                refine ownStep st14 ?_
                refine ownStep (fun _ k => XS.iloadN X14.here hx rfl (hb hby own_chh_d16) rfl  k) ?_
                show ownGo p.tables e below (T14.setTop (mkF m 17 #[.val (.ref a), .val (.int gg), .val (.int vv), .val (.int (own_par a2 a3 a4 (own_par a2 a3 a4 (own_par a2 a3 a4 c0))))] [(.int (own_par a2 a3 a4 (own_par a2 a3 a4 (own_par a2 a3 a4 c0)))), (.ref pa)])) _
                have Vo15 := VP
                obtain ⟨cl15, Ar15, q15, S15, N15, H15, G15⟩ := Vo15
                have hin15 : ¬ ((own_par a2 a3 a4 (own_par a2 a3 a4 (own_par a2 a3 a4 c0))) < 0 ∨ cl15.slots.size ≤ ((own_par a2 a3 a4 (own_par a2 a3 a4 (own_par a2 a3 a4 c0)))).toNatClampNeg) := inb_of S15 ⟨lo3, hi3⟩
                refine ownStep (X14.iaload hx (j := (own_par a2 a3 a4 (own_par a2 a3 a4 (own_par a2 a3 a4 c0)))) (v := (.int (own_par a2 a3 a4 (own_par a2 a3 a4 (own_par a2 a3 a4 (own_par a2 a3 a4 c0)))))) (by rw [e14]; exact Ar15.1) (State.isArrayOf_alike hZ.alike Ar15.2.1) Ar15.2.2 hin15 (H15.at hin15 (own_par_at a2 a3 a4 lo3 hi3)) (g := (mkF m 17 #[.val (.ref a), .val (.int gg), .val (.int vv), .val (.int (own_par a2 a3 a4 (own_par a2 a3 a4 (own_par a2 a3 a4 c0))))] [(.int (own_par a2 a3 a4 (own_par a2 a3 a4 (own_par a2 a3 a4 c0)))), (.ref pa)])) rfl rfl (hb hby own_chh_d17)) ?_
                refine ownStep (fun _ k => XS.iloadN X14.here hx rfl (hb hby own_chh_d18) rfl  k) ?_
                show ownGo p.tables e below (T14.setTop (mkF m 19 #[.val (.ref a), .val (.int gg), .val (.int vv), .val (.int (own_par a2 a3 a4 (own_par a2 a3 a4 (own_par a2 a3 a4 c0))))] [(.int gg), (.int (own_par a2 a3 a4 (own_par a2 a3 a4 (own_par a2 a3 a4 (own_par a2 a3 a4 c0)))))])) _
                by_cases hp3 : (own_par a2 a3 a4 (own_par a2 a3 a4 (own_par a2 a3 a4 (own_par a2 a3 a4 c0)))) = gg
                · skip
                  refine ownStep (fun _ k => XS.icmpYes X14.here hx rfl (pc0 := 19) (pc' := 32) rfl (hb hby own_chh_d19) rfl (teq (hp3 : (own_par a2 a3 a4 (own_par a2 a3 a4 (own_par a2 a3 a4 (own_par a2 a3 a4 c0)))) = gg)).1 (by decide) (by decide) k) ?_
                  refine ownStep (fun _ k => XS.iloadN X14.here hx rfl (hb hby own_chh_d32) rfl  k) ?_
                  refine ownStep (fun _ k => XS.iloadN X14.here hx rfl (hb hby own_chh_d33) rfl  k) ?_
                  refine ownStep (fun _ k => XS.icmpNo X14.here hx rfl (hb hby own_chh_d34) rfl (tlt (hg3 : gg < (own_par a2 a3 a4 (own_par a2 a3 a4 (own_par a2 a3 a4 c0))))).2.2.2 k) ?_
                  refine ownStep (fun _ k => XS.iloadN X14.here hx rfl (hb hby own_chh_d37) rfl  k) ?_
                  show ownGo p.tables e below (T14.setTop (mkF m 38 #[.val (.ref a), .val (.int gg), .val (.int vv), .val (.int (own_par a2 a3 a4 (own_par a2 a3 a4 (own_par a2 a3 a4 c0))))] [(.int (own_par a2 a3 a4 (own_par a2 a3 a4 (own_par a2 a3 a4 c0))))])) _
                  refine ownStep (fun _ k => XS.goto X14.here hx rfl (pc0 := 38) (pc' := 42) rfl (hb hby own_chh_d38) (by decide) (by decide) k) ?_
                  show ownGo p.tables e below (T14.setTop (mkF m 42 #[.val (.ref a), .val (.int gg), .val (.int vv), .val (.int (own_par a2 a3 a4 (own_par a2 a3 a4 (own_par a2 a3 a4 c0))))] [(.int (own_par a2 a3 a4 (own_par a2 a3 a4 (own_par a2 a3 a4 c0))))])) _
                  exact ownRet X14 (v := some (.int (own_par a2 a3 a4 (own_par a2 a3 a4 (own_par a2 a3 a4 c0))))) Bd.notSynchronized (fun h => by rw [Bd.returns] at h; cases h) (fun _ hr => retI X14 hx Bd.returns (hb hby own_chh_d42) hr) (by rw [e14]; exact ⟨(by simp [own_ch, hg0, hg1, hg2, hg3, hp0, hp1, hp2, hp3]), N0, rfl⟩) (by decide) (by decide)
                · skip
                  refine ownStep (fun _ k => XS.icmpNo X14.here hx rfl (hb hby own_chh_d19) rfl (feq (hp3 : ¬ (own_par a2 a3 a4 (own_par a2 a3 a4 (own_par a2 a3 a4 (own_par a2 a3 a4 c0)))) = gg)).1 k) ?_
                  refine ownStep (fun _ k => XS.aloadN X14.here hx rfl (hb hby own_chh_d22) rfl rfl k) ?_
                  show ownGo p.tables e below (T14.setTop (mkF m 23 #[.val (.ref a), .val (.int gg), .val (.int vv), .val (.int (own_par a2 a3 a4 (own_par a2 a3 a4 (own_par a2 a3 a4 c0))))] [(.ref a)])) _
                  obtain ⟨T16, X16, e16, st16⟩ := getF X14 hx hZ hown (host := "") (Or.inl (hw _ (List.mem_of_getElem? (i := 40) rfl))) Via.refl e14 F2 (g := (mkF m 23 #[.val (.ref a), .val (.int gg), .val (.int vv), .val (.int (own_par a2 a3 a4 (own_par a2 a3 a4 (own_par a2 a3 a4 c0))))] [(.ref a)])) rfl rfl (hb hby own_chh_d23)
                  refine ownStep st16 ?_
                  refine ownStep (fun _ k => XS.iloadN X16.here hx rfl (hb hby own_chh_d26) rfl  k) ?_
                  show ownGo p.tables e below (T16.setTop (mkF m 27 #[.val (.ref a), .val (.int gg), .val (.int vv), .val (.int (own_par a2 a3 a4 (own_par a2 a3 a4 (own_par a2 a3 a4 c0))))] [(.int (own_par a2 a3 a4 (own_par a2 a3 a4 (own_par a2 a3 a4 c0)))), (.ref pa)])) _
                  have Vo17 := VP
                  obtain ⟨cl17, Ar17, q17, S17, N17, H17, G17⟩ := Vo17
                  have hin17 : ¬ ((own_par a2 a3 a4 (own_par a2 a3 a4 (own_par a2 a3 a4 c0))) < 0 ∨ cl17.slots.size ≤ ((own_par a2 a3 a4 (own_par a2 a3 a4 (own_par a2 a3 a4 c0)))).toNatClampNeg) := inb_of S17 ⟨lo3, hi3⟩
                  refine ownStep (X16.iaload hx (j := (own_par a2 a3 a4 (own_par a2 a3 a4 (own_par a2 a3 a4 c0)))) (v := (.int (own_par a2 a3 a4 (own_par a2 a3 a4 (own_par a2 a3 a4 (own_par a2 a3 a4 c0)))))) (by rw [e16]; exact Ar17.1) (State.isArrayOf_alike hZ.alike Ar17.2.1) Ar17.2.2 hin17 (H17.at hin17 (own_par_at a2 a3 a4 lo3 hi3)) (g := (mkF m 27 #[.val (.ref a), .val (.int gg), .val (.int vv), .val (.int (own_par a2 a3 a4 (own_par a2 a3 a4 (own_par a2 a3 a4 c0))))] [(.int (own_par a2 a3 a4 (own_par a2 a3 a4 (own_par a2 a3 a4 c0)))), (.ref pa)])) rfl rfl (hb hby own_chh_d27)) ?_
                  refine ownStep (fun _ k => XS.istoreN X16.here hx rfl (hb hby own_chh_d28) rfl (l' := #[.val (.ref a), .val (.int gg), .val (.int vv), .val (.int (own_par a2 a3 a4 (own_par a2 a3 a4 (own_par a2 a3 a4 (own_par a2 a3 a4 c0)))))]) rfl k) ?_
                  show ownGo p.tables e below (T16.setTop (mkF m 29 #[.val (.ref a), .val (.int gg), .val (.int vv), .val (.int (own_par a2 a3 a4 (own_par a2 a3 a4 (own_par a2 a3 a4 (own_par a2 a3 a4 c0)))))] [])) _
                  have pl3 := own_par_lt ra2 ra3 ra4 lo3 hi3
                  have lo4 := pl3.2.2 (own_pos g1 hg3).1
                  have hi4 := pl3.2.1
                  have hg4 := own_chain g1 ch0 pl0.1 pl1.1 pl2.1 pl3.1
                  refine ownStep (fun _ k => XS.goto X16.here hx rfl (pc0 := 29) (pc' := 7) rfl (hb hby own_chh_d29) (by decide) (by decide) k) ?_
                  refine ownStep (fun _ k => XS.iloadN X16.here hx rfl (hb hby own_chh_d7) rfl  k) ?_
                  refine ownStep (fun _ k => XS.iloadN X16.here hx rfl (hb hby own_chh_d8) rfl  k) ?_
                  refine ownStep (fun _ k => XS.icmpYes X16.here hx rfl (pc0 := 9) (pc' := 32) rfl (hb hby own_chh_d9) rfl (flt (hg4 : ¬ gg < (own_par a2 a3 a4 (own_par a2 a3 a4 (own_par a2 a3 a4 (own_par a2 a3 a4 c0)))))).2.2.2 (by decide) (by decide) k) ?_
                  refine ownStep (fun _ k => XS.iloadN X16.here hx rfl (hb hby own_chh_d32) rfl  k) ?_
                  show ownGo p.tables e below (T16.setTop (mkF m 33 #[.val (.ref a), .val (.int gg), .val (.int vv), .val (.int (own_par a2 a3 a4 (own_par a2 a3 a4 (own_par a2 a3 a4 (own_par a2 a3 a4 c0)))))] [(.int (own_par a2 a3 a4 (own_par a2 a3 a4 (own_par a2 a3 a4 (own_par a2 a3 a4 c0)))))])) _
                  refine ownStep (fun _ k => XS.iloadN X16.here hx rfl (hb hby own_chh_d33) rfl  k) ?_
                  refine ownStep (fun _ k => XS.icmpYes X16.here hx rfl (pc0 := 34) (pc' := 41) rfl (hb hby own_chh_d34) rfl (flt (hg4 : ¬ gg < (own_par a2 a3 a4 (own_par a2 a3 a4 (own_par a2 a3 a4 (own_par a2 a3 a4 c0)))))).2.2.2 (by decide) (by decide) k) ?_
                  refine ownStep (fun _ k => XS.iconst X16.here hx rfl (hb hby own_chh_d41) k) ?_
                  show ownGo p.tables e below (T16.setTop (mkF m 42 #[.val (.ref a), .val (.int gg), .val (.int vv), .val (.int (own_par a2 a3 a4 (own_par a2 a3 a4 (own_par a2 a3 a4 (own_par a2 a3 a4 c0)))))] [(.int (-1 : Int32))])) _
                  exact ownRet X16 (v := some (.int (-1 : Int32))) Bd.notSynchronized (fun h => by rw [Bd.returns] at h; cases h) (fun _ hr => retI X16 hx Bd.returns (hb hby own_chh_d42) hr) (by rw [e16]; exact ⟨(by simp [own_ch, hg0, hg1, hg2, hg3, hg4, hp0, hp1, hp2, hp3]), N0, rfl⟩) (by decide) (by decide)
              · skip
                refine ownStep (fun _ k => XS.icmpYes X12.here hx rfl (pc0 := 9) (pc' := 32) rfl (hb hby own_chh_d9) rfl (flt (hg3 : ¬ gg < (own_par a2 a3 a4 (own_par a2 a3 a4 (own_par a2 a3 a4 c0))))).2.2.2 (by decide) (by decide) k) ?_
                refine ownStep (fun _ k => XS.iloadN X12.here hx rfl (hb hby own_chh_d32) rfl  k) ?_
                refine ownStep (fun _ k => XS.iloadN X12.here hx rfl (hb hby own_chh_d33) rfl  k) ?_
                refine ownStep (fun _ k => XS.icmpYes X12.here hx rfl (pc0 := 34) (pc' := 41) rfl (hb hby own_chh_d34) rfl (flt (hg3 : ¬ gg < (own_par a2 a3 a4 (own_par a2 a3 a4 (own_par a2 a3 a4 c0))))).2.2.2 (by decide) (by decide) k) ?_
                refine ownStep (fun _ k => XS.iconst X12.here hx rfl (hb hby own_chh_d41) k) ?_
                show ownGo p.tables e below (T12.setTop (mkF m 42 #[.val (.ref a), .val (.int gg), .val (.int vv), .val (.int (own_par a2 a3 a4 (own_par a2 a3 a4 (own_par a2 a3 a4 c0))))] [(.int (-1 : Int32))])) _
                exact ownRet X12 (v := some (.int (-1 : Int32))) Bd.notSynchronized (fun h => by rw [Bd.returns] at h; cases h) (fun _ hr => retI X12 hx Bd.returns (hb hby own_chh_d42) hr) (by rw [e12]; exact ⟨(by simp [own_ch, hg0, hg1, hg2, hg3, hp0, hp1, hp2]), N0, rfl⟩) (by decide) (by decide)
          · skip
            refine ownStep (fun _ k => XS.icmpYes X8.here hx rfl (pc0 := 9) (pc' := 32) rfl (hb hby own_chh_d9) rfl (flt (hg2 : ¬ gg < (own_par a2 a3 a4 (own_par a2 a3 a4 c0)))).2.2.2 (by decide) (by decide) k) ?_
            refine ownStep (fun _ k => XS.iloadN X8.here hx rfl (hb hby own_chh_d32) rfl  k) ?_
            refine ownStep (fun _ k => XS.iloadN X8.here hx rfl (hb hby own_chh_d33) rfl  k) ?_
            refine ownStep (fun _ k => XS.icmpYes X8.here hx rfl (pc0 := 34) (pc' := 41) rfl (hb hby own_chh_d34) rfl (flt (hg2 : ¬ gg < (own_par a2 a3 a4 (own_par a2 a3 a4 c0)))).2.2.2 (by decide) (by decide) k) ?_
            refine ownStep (fun _ k => XS.iconst X8.here hx rfl (hb hby own_chh_d41) k) ?_
            show ownGo p.tables e below (T8.setTop (mkF m 42 #[.val (.ref a), .val (.int gg), .val (.int vv), .val (.int (own_par a2 a3 a4 (own_par a2 a3 a4 c0)))] [(.int (-1 : Int32))])) _
            exact ownRet X8 (v := some (.int (-1 : Int32))) Bd.notSynchronized (fun h => by rw [Bd.returns] at h; cases h) (fun _ hr => retI X8 hx Bd.returns (hb hby own_chh_d42) hr) (by rw [e8]; exact ⟨(by simp [own_ch, hg0, hg1, hg2, hp0, hp1]), N0, rfl⟩) (by decide) (by decide)
      · skip
        refine ownStep (fun _ k => XS.icmpYes X4.here hx rfl (pc0 := 9) (pc' := 32) rfl (hb hby own_chh_d9) rfl (flt (hg1 : ¬ gg < (own_par a2 a3 a4 c0))).2.2.2 (by decide) (by decide) k) ?_
        refine ownStep (fun _ k => XS.iloadN X4.here hx rfl (hb hby own_chh_d32) rfl  k) ?_
        refine ownStep (fun _ k => XS.iloadN X4.here hx rfl (hb hby own_chh_d33) rfl  k) ?_
        refine ownStep (fun _ k => XS.icmpYes X4.here hx rfl (pc0 := 34) (pc' := 41) rfl (hb hby own_chh_d34) rfl (flt (hg1 : ¬ gg < (own_par a2 a3 a4 c0))).2.2.2 (by decide) (by decide) k) ?_
        refine ownStep (fun _ k => XS.iconst X4.here hx rfl (hb hby own_chh_d41) k) ?_
        show ownGo p.tables e below (T4.setTop (mkF m 42 #[.val (.ref a), .val (.int gg), .val (.int vv), .val (.int (own_par a2 a3 a4 c0))] [(.int (-1 : Int32))])) _
        exact ownRet X4 (v := some (.int (-1 : Int32))) Bd.notSynchronized (fun h => by rw [Bd.returns] at h; cases h) (fun _ hr => retI X4 hx Bd.returns (hb hby own_chh_d42) hr) (by rw [e4]; exact ⟨(by simp [own_ch, hg0, hg1, hp0]), N0, rfl⟩) (by decide) (by decide)
  · skip
    refine ownStep (fun _ k => XS.icmpYes X1.here hx rfl (pc0 := 9) (pc' := 32) rfl (hb hby own_chh_d9) rfl (flt (hg0 : ¬ gg < c0)).2.2.2 (by decide) (by decide) k) ?_
    refine ownStep (fun _ k => XS.iloadN X1.here hx rfl (hb hby own_chh_d32) rfl  k) ?_
    refine ownStep (fun _ k => XS.iloadN X1.here hx rfl (hb hby own_chh_d33) rfl  k) ?_
    refine ownStep (fun _ k => XS.icmpYes X1.here hx rfl (pc0 := 34) (pc' := 41) rfl (hb hby own_chh_d34) rfl (flt (hg0 : ¬ gg < c0)).2.2.2 (by decide) (by decide) k) ?_
    refine ownStep (fun _ k => XS.iconst X1.here hx rfl (hb hby own_chh_d41) k) ?_
    show ownGo p.tables e below (T1.setTop (mkF m 42 #[.val (.ref a), .val (.int gg), .val (.int vv), .val (.int c0)] [(.int (-1 : Int32))])) _
    exact ownRet X1 (v := some (.int (-1 : Int32))) Bd.notSynchronized (fun h => by rw [Bd.returns] at h; cases h) (fun _ hr => retI X1 hx Bd.returns (hb hby own_chh_d42) hr) (by rw [e1]; exact ⟨(by simp [own_ch, hg0]), N0, rfl⟩) (by decide) (by decide)
theorem own_two {cl : Cell} {o0 o1 : Int32} {d : Value} (S : cl.slots.size = (2 : Int32).toNatClampNeg) (H : Has cl [.int o0, .int o1] d) (r0 : ¬ o0 < (0 : Int32) ∧ o0 < (5 : Int32)) (r1 : ¬ o1 < (0 : Int32) ∧ o1 < (5 : Int32)) (x : Int32) :
    ∃ c0, ¬ ((x &&& (1 : Int32)) < 0 ∨ cl.slots.size ≤ (x &&& (1 : Int32)).toNatClampNeg) ∧ cl.slots[(x &&& (1 : Int32)).toNatClampNeg]? = some (.int c0) ∧ (¬ c0 < (0 : Int32) ∧ c0 < (5 : Int32)) := by
  rcases and_one x with hv | hv
  · rw [show x &&& (1 : Int32) = (0 : Int32) from hv]
    have q : ¬ ((0 : Int32) < 0 ∨ cl.slots.size ≤ (0 : Int32).toNatClampNeg) := inb_of S ⟨by decide, by decide⟩
    exact ⟨o0, q, H.at q rfl, r0⟩
  · rw [show x &&& (1 : Int32) = (1 : Int32) from hv]
    have q : ¬ ((1 : Int32) < 0 ∨ cl.slots.size ≤ (1 : Int32).toNatClampNeg) := inb_of S ⟨by decide, by decide⟩
    exact ⟨o1, q, H.at q rfl, r1⟩
theorem own_r2 (x : Int32) : (x &&& (1 : Int32)) = (0 : Int32) ∨ (x &&& (1 : Int32)) = (1 : Int32) := and_one x
theorem own_r3 (x : Int32) : (((x.toUInt32 >>> ((1 : Int32) &&& 31).toUInt32).toInt32) % (3 : Int32)) = (0 : Int32) ∨ (((x.toUInt32 >>> ((1 : Int32) &&& 31).toUInt32).toInt32) % (3 : Int32)) = (1 : Int32) ∨ (((x.toUInt32 >>> ((1 : Int32) &&& 31).toUInt32).toInt32) % (3 : Int32)) = (2 : Int32) := by
  have h1 := c_iushr x (1 : Int32) 1 (by decide) (by decide)
  generalize ((x.toUInt32 >>> ((1 : Int32) &&& 31).toUInt32).toInt32) = y at *
  have h2 := (c_irem y (3 : Int32) 3 (by decide)).1 (by omega)
  have e0 : (0 : Int32).toInt = 0 := by decide
  have e1 : (1 : Int32).toInt = 1 := by decide
  have e2 : (2 : Int32).toInt = 2 := by decide
  simp only [← Int32.toInt_inj, h2, e0, e1, e2]
  omega
theorem own_r4 (x : Int32) : ((x &&& (2147483647 : Int32)) % (4 : Int32)) = (0 : Int32) ∨ ((x &&& (2147483647 : Int32)) % (4 : Int32)) = (1 : Int32) ∨ ((x &&& (2147483647 : Int32)) % (4 : Int32)) = (2 : Int32) ∨ ((x &&& (2147483647 : Int32)) % (4 : Int32)) = (3 : Int32) := by
  have h1 := (c_and x (2147483647 : Int32) (by decide)).1
  have h2 := (c_irem (x &&& (2147483647 : Int32)) (4 : Int32) 4 (by decide)).1 h1
  have e0 : (0 : Int32).toInt = 0 := by decide
  have e1 : (1 : Int32).toInt = 1 := by decide
  have e2 : (2 : Int32).toInt = 2 := by decide
  have e3 : (3 : Int32).toInt = 3 := by decide
  simp only [← Int32.toInt_inj, h2, e0, e1, e2, e3]
  omega
theorem own_r5 (x : Int32) : ¬ ((x &&& (2147483647 : Int32)) % (5 : Int32)) < (0 : Int32) ∧ ((x &&& (2147483647 : Int32)) % (5 : Int32)) < (5 : Int32) := by
  have h1 := (c_and x (2147483647 : Int32) (by decide)).1
  have h2 := (c_irem (x &&& (2147483647 : Int32)) (5 : Int32) 5 (by decide)).1 h1
  have e0 : (0 : Int32).toInt = 0 := by decide
  have e5 : (5 : Int32).toInt = 5 := by decide
  rw [Int32.lt_iff_toInt_lt, Int32.lt_iff_toInt_lt, h2, e0, e5]
  omega
theorem own_law_pn : plainName "com/example/adept_layout/adeptlayout/layout/NestingChildHoldingPinLaw" = true := by first | (simp [plainName, overriddenIn]; done) | decide +kernel
theorem own_law_pd0 : parseMethodDescriptor "([I[I[Z[I[II)V" = some ⟨[(.array .int), (.array .int), (.array .boolean), (.array .int), (.array .int), .int], none⟩ := by decide +kernel
theorem own_law_pd1 : parseMethodDescriptor "([II)I" = some ⟨[(.array .int), .int], some .int⟩ := by decide +kernel
theorem own_law_pd2 : parseMethodDescriptor "(II)I" = some ⟨[.int, .int], some .int⟩ := by decide +kernel
theorem own_law_ef (m : MethodId) (x0 : Int32) (x1 : Int32) (x2 : Int32) (x3 : Int32) (x4 : Int32) (x5 : Int32) : entryFrame m #[(.int x0), (.int x1), (.int x2), (.int x3), (.int x4), (.int x5)] maxLocals = mkF m 0 #[.val (.int x0), .val (.int x1), .val (.int x2), .val (.int x3), .val (.int x4), .val (.int x5), .unset, .unset, .unset, .unset, .unset, .unset, .unset, .unset, .unset, .unset, .unset, .unset, .unset, .unset] [] := by first | (simp [entryFrame, mkF, argsToLocals, Value.category, maxLocals]; done) | rfl
def own_law_Q (Z : State) (pa_ : Int32) (pb_ : Int32) (oa_ : Int32) (ob_ : Int32) (gr_ : Int32) (vx_ : Int32) (ed : Addr) (kd : ClassId) (ca : Addr) (clc : Cell) (h0 : Heap) (n0 : Nat) (vv_ : Option Value) (hh_ : Heap) (LL_ : List Loc) : Prop := vv_ = some (.int (1 : Int32)) ∧ Fr n0 LL_ ∧ Ext h0 hh_
set_option maxRecDepth 65536 in
set_option maxHeartbeats 40000000 in
theorem own_law (l : Launch) (Z : State) (a0 : Array Value) (hw : ∀ d ∈ tables_1, d.before a0 Z = true) (ws : List Jvm.Cond) (pa_ : Int32) (pb_ : Int32) (oa_ : Int32) (ob_ : Int32) (gr_ : Int32) (vx_ : Int32) (ed : Addr) (kd : ClassId) (ca : Addr) (clc : Cell) (h0 : Heap) (n0 : Nat) (Z0 : n0 ≤ h0.size) (hOld : Old Z n0 h0) (S : Sta Z Z.heap "java/util/ArrayList" "DEFAULTCAPACITY_EMPTY_ELEMENTDATA" "[Ljava/lang/Object;" (.ref ed)) (V : Arv Z Z.heap ed kd (.object "java/lang/Object") (0 : Int32) [] .null) (Sh : Sta Z Z.heap "java/lang/Integer$IntegerCache" "high" "I" (.int (127 : Int32))) (Sc : Sta Z Z.heap "java/lang/Integer$IntegerCache" "cache" "[Ljava/lang/Integer;" (.ref ca)) (BX : Bxs Z ca clc "java/lang/Integer" "I" (256 : Int32) (fun j => .int (j - (128 : Int32)))) :
    MetFree l x (head1 (Jvm.Cond.code x code maxLocals ret :: ws) room_1) (fun aa_ UU_ => aa_ = #[(.int pa_), (.int pb_), (.int oa_), (.int ob_), (.int gr_), (.int vx_)] ∧ Z.Warmed39 UU_.vm ∧ UU_.heap = h0) (fun _ _ _ _ _ => True) (fun _ UU_ oo_ UV_ => ∃ vv_ LL_, oo_ = .returned vv_ ∧ own_law_Q Z pa_ pb_ oa_ ob_ gr_ vx_ ed kd ca clc h0 n0 vv_ UV_.heap LL_ ∧ FrameEnd UU_ oo_ UV_ LL_ room_1.cells room_1.slots) := by
  refine MetFree.of_bodySF (plainFor_of_name own_law_pn) hisR ?_
  intro p e s m args below meth c s₁ Bd hml0 hP hK
  obtain ⟨rfl, hZ, hh⟩ := hP
  have hx := Bd.exec
  have hby := Bd.bytes
  have hml : c.maxLocals = 20 := hml0
  have hown : s.vm.findClass "com/example/adept_layout/adeptlayout/layout/NestingChildHoldingPinLaw" = some m.cls := findClass_of_methodNamed Bd.named
  have hnm := (name_of_methodNamed Bd.named Bd.method).1
  have X0 : Stand p l e room_1 s m #[(.int pa_), (.int pb_), (.int oa_), (.int ob_), (.int gr_), (.int vx_)] below meth c s₁ [] 0 0 := Stand.of_body Bd
  have e0 : s₁.heap = h0 := by rw [← hh, Bd.state]; rfl
  have N0 := Fr.nil n0
  have KP0 : Keep h0 h0 [] := Keep.refl _ _
  refine ownFin (Q := own_law_Q Z pa_ pb_ oa_ ob_ gr_ vx_ ed kd ca clc h0 n0) ?_
  refine ownStep (fun _ k => castTop (own_law_ef m pa_ pb_ oa_ ob_ gr_ vx_) k) ?_
  show ownGo p.tables e below (s₁.setTop (mkF m 0 #[.val (.int pa_), .val (.int pb_), .val (.int oa_), .val (.int ob_), .val (.int gr_), .val (.int vx_), .unset, .unset, .unset, .unset, .unset, .unset, .unset, .unset, .unset, .unset, .unset, .unset, .unset, .unset] [])) _
  obtain ⟨a2, h_a2⟩ : ∃ z, z = (pa_ &&& (1 : Int32)) := ⟨_, rfl⟩
  obtain ⟨a3, h_a3⟩ : ∃ z, z = (((pa_.toUInt32 >>> ((1 : Int32) &&& 31).toUInt32).toInt32) % (3 : Int32)) := ⟨_, rfl⟩
  obtain ⟨a4, h_a4⟩ : ∃ z, z = ((pb_ &&& (2147483647 : Int32)) % (4 : Int32)) := ⟨_, rfl⟩
  obtain ⟨o0, h_o0⟩ : ∃ z, z = ((oa_ &&& (2147483647 : Int32)) % (5 : Int32)) := ⟨_, rfl⟩
  obtain ⟨o1, h_o1⟩ : ∃ z, z = ((ob_ &&& (2147483647 : Int32)) % (5 : Int32)) := ⟨_, rfl⟩
  obtain ⟨gg, h_gg⟩ : ∃ z, z = ((gr_ &&& (2147483647 : Int32)) % (5 : Int32)) := ⟨_, rfl⟩
  have ra2 := own_r2 pa_
  rw [← h_a2] at ra2
  have ra3 := own_r3 pa_
  rw [← h_a3] at ra3
  have ra4 := own_r4 pb_
  rw [← h_a4] at ra4
  have r0 := own_r5 oa_
  rw [← h_o0] at r0
  have r1 := own_r5 ob_
  rw [← h_o1] at r1
  have rg := own_r5 gr_
  rw [← h_gg] at rg
  refine ownStep (fun _ k => XS.iconst X0.here hx rfl (hb hby at_0) k) ?_
  show ownGo p.tables e below (s₁.setTop (mkF m 1 #[.val (.int pa_), .val (.int pb_), .val (.int oa_), .val (.int ob_), .val (.int gr_), .val (.int vx_), .unset, .unset, .unset, .unset, .unset, .unset, .unset, .unset, .unset, .unset, .unset, .unset, .unset, .unset] [(.int (5 : Int32))])) _
  obtain ⟨T1, h1, k1, X1, e1, E1, A1, st1⟩ := newP X0 hx hZ (hw _ (List.mem_of_getElem? (i := 0) rfl)) e0 (g := (mkF m 1 #[.val (.int pa_), .val (.int pb_), .val (.int oa_), .val (.int ob_), .val (.int gr_), .val (.int vx_), .unset, .unset, .unset, .unset, .unset, .unset, .unset, .unset, .unset, .unset, .unset, .unset, .unset, .unset] [(.int (5 : Int32))])) rfl (hb hby at_1) rfl (by decide) (cap := 5) (by decide) (by decide) (by decide) (by decide)
  obtain ⟨b1, g1⟩ : ∃ z, z = h0.size := ⟨_, rfl⟩
  rw [← g1] at A1 st1
  have gh_b1 : h0.size ≤ b1 := Nat.le_trans KP0.1 (Nat.le_of_eq g1.symm)
  have gn_b1 : n0 ≤ b1 := Nat.le_trans Z0 gh_b1
  have KP2 : Keep h0 h1 [] := KP0.ext E1
  have V1 : Arv Z h1 b1 k1 .int (5 : Int32) [(.int (0 : Int32)), (.int (0 : Int32)), (.int (0 : Int32)), (.int (0 : Int32)), (.int (0 : Int32))] (.int (0 : Int32)) := (Arv.new A1 (by decide)).pad (pad_rep [] (.int (0 : Int32)) 5)
  refine ownStep st1 ?_
  refine ownStep (fun _ k => XS.astore X1.here hx rfl (hb hby at_3) rfl rfl (l' := #[.val (.int pa_), .val (.int pb_), .val (.int oa_), .val (.int ob_), .val (.int gr_), .val (.int vx_), .val (.ref b1), .unset, .unset, .unset, .unset, .unset, .unset, .unset, .unset, .unset, .unset, .unset, .unset, .unset]) rfl k) ?_
  refine ownStep (fun _ k => XS.aload X1.here hx rfl (hb hby at_5) rfl rfl k) ?_
  refine ownStep (fun _ k => XS.iconst X1.here hx rfl (hb hby at_7) k) ?_
  refine ownStep (fun _ k => XS.iconst X1.here hx rfl (hb hby at_8) k) ?_
  show ownGo p.tables e below (T1.setTop (mkF m 9 #[.val (.int pa_), .val (.int pb_), .val (.int oa_), .val (.int ob_), .val (.int gr_), .val (.int vx_), .val (.ref b1), .unset, .unset, .unset, .unset, .unset, .unset, .unset, .unset, .unset, .unset, .unset, .unset, .unset] [(.int (-1 : Int32)), (.int (0 : Int32)), (.ref b1)])) _
  have Vo3 := V1
  obtain ⟨cl3, Ar3, q3, S3, N3, H3, G3⟩ := Vo3
  have hin3 : ¬ ((0 : Int32) < 0 ∨ cl3.slots.size ≤ ((0 : Int32)).toNatClampNeg) := inb_of S3 ⟨by decide, by decide⟩
  obtain ⟨T4, h4, X4, e4, W4, st4⟩ := stI X1 hx hZ e1 Ar3 (j := (0 : Int32)) hin3 (g := (mkF m 9 #[.val (.int pa_), .val (.int pb_), .val (.int oa_), .val (.int ob_), .val (.int gr_), .val (.int vx_), .val (.ref b1), .unset, .unset, .unset, .unset, .unset, .unset, .unset, .unset, .unset, .unset, .unset, .unset, .unset] [(.int (-1 : Int32)), (.int (0 : Int32)), (.ref b1)])) rfl rfl (hb hby at_9)
  have N5 := Fr.snoc X4 N0 gn_b1
  have KP6 : Keep h0 h4 [] := KP2.wr W4 (Or.inr gh_b1)
  have V7 : Arv Z h4 b1 k1 .int (5 : Int32) [(.int (-1 : Int32)), (.int (0 : Int32)), (.int (0 : Int32)), (.int (0 : Int32)), (.int (0 : Int32))] (.int (0 : Int32)) := Arv.set Ar3 q3 S3 N3 H3 G3 rfl W4 0 rfl (Nat.le_of_ble_eq_true rfl)
  refine ownStep st4 ?_
  refine ownStep (fun _ k => XS.aload X4.here hx rfl (hb hby at_10) rfl rfl k) ?_
  refine ownStep (fun _ k => XS.iconst X4.here hx rfl (hb hby at_12) k) ?_
  refine ownStep (fun _ k => XS.iconst X4.here hx rfl (hb hby at_13) k) ?_
  show ownGo p.tables e below (T4.setTop (mkF m 14 #[.val (.int pa_), .val (.int pb_), .val (.int oa_), .val (.int ob_), .val (.int gr_), .val (.int vx_), .val (.ref b1), .unset, .unset, .unset, .unset, .unset, .unset, .unset, .unset, .unset, .unset, .unset, .unset, .unset] [(.int (0 : Int32)), (.int (1 : Int32)), (.ref b1)])) _
  have Vo8 := V7
  obtain ⟨cl8, Ar8, q8, S8, N8, H8, G8⟩ := Vo8
  have hin8 : ¬ ((1 : Int32) < 0 ∨ cl8.slots.size ≤ ((1 : Int32)).toNatClampNeg) := inb_of S8 ⟨by decide, by decide⟩
  obtain ⟨T9, h9, X9, e9, W9, st9⟩ := stI X4 hx hZ e4 Ar8 (j := (1 : Int32)) hin8 (g := (mkF m 14 #[.val (.int pa_), .val (.int pb_), .val (.int oa_), .val (.int ob_), .val (.int gr_), .val (.int vx_), .val (.ref b1), .unset, .unset, .unset, .unset, .unset, .unset, .unset, .unset, .unset, .unset, .unset, .unset, .unset] [(.int (0 : Int32)), (.int (1 : Int32)), (.ref b1)])) rfl rfl (hb hby at_14)
  have N10 := Fr.snoc X9 N5 gn_b1
  have KP11 : Keep h0 h9 [] := KP6.wr W9 (Or.inr gh_b1)
  have V12 : Arv Z h9 b1 k1 .int (5 : Int32) [(.int (-1 : Int32)), (.int (0 : Int32)), (.int (0 : Int32)), (.int (0 : Int32)), (.int (0 : Int32))] (.int (0 : Int32)) := Arv.set Ar8 q8 S8 N8 H8 G8 rfl W9 1 rfl (Nat.le_of_ble_eq_true rfl)
  refine ownStep st9 ?_
  refine ownStep (fun _ k => XS.aload X9.here hx rfl (hb hby at_15) rfl rfl k) ?_
  refine ownStep (fun _ k => XS.iconst X9.here hx rfl (hb hby at_17) k) ?_
  refine ownStep (fun _ k => XS.iloadN X9.here hx rfl (hb hby at_18) rfl  k) ?_
  refine ownStep (fun _ k => XS.iconst X9.here hx rfl (hb hby at_19) k) ?_
  show ownGo p.tables e below (T9.setTop (mkF m 20 #[.val (.int pa_), .val (.int pb_), .val (.int oa_), .val (.int ob_), .val (.int gr_), .val (.int vx_), .val (.ref b1), .unset, .unset, .unset, .unset, .unset, .unset, .unset, .unset, .unset, .unset, .unset, .unset, .unset] [(.int (1 : Int32)), (.int pa_), (.int (2 : Int32)), (.ref b1)])) _
  refine ownStep (fun _ k => XS.iand X9.here hx rfl (hb hby at_20) rfl k) ?_
  show ownGo p.tables e below (T9.setTop (mkF m 21 #[.val (.int pa_), .val (.int pb_), .val (.int oa_), .val (.int ob_), .val (.int gr_), .val (.int vx_), .val (.ref b1), .unset, .unset, .unset, .unset, .unset, .unset, .unset, .unset, .unset, .unset, .unset, .unset, .unset] [(.int (pa_ &&& (1 : Int32))), (.int (2 : Int32)), (.ref b1)])) _
  rw [← h_a2]
  show ownGo p.tables e below (T9.setTop (mkF m 21 #[.val (.int pa_), .val (.int pb_), .val (.int oa_), .val (.int ob_), .val (.int gr_), .val (.int vx_), .val (.ref b1), .unset, .unset, .unset, .unset, .unset, .unset, .unset, .unset, .unset, .unset, .unset, .unset, .unset] [(.int a2), (.int (2 : Int32)), (.ref b1)])) _
  have Vo13 := V12
  obtain ⟨cl13, Ar13, q13, S13, N13, H13, G13⟩ := Vo13
  have hin13 : ¬ ((2 : Int32) < 0 ∨ cl13.slots.size ≤ ((2 : Int32)).toNatClampNeg) := inb_of S13 ⟨by decide, by decide⟩
  obtain ⟨T14, h14, X14, e14, W14, st14⟩ := stI X9 hx hZ e9 Ar13 (j := (2 : Int32)) hin13 (g := (mkF m 21 #[.val (.int pa_), .val (.int pb_), .val (.int oa_), .val (.int ob_), .val (.int gr_), .val (.int vx_), .val (.ref b1), .unset, .unset, .unset, .unset, .unset, .unset, .unset, .unset, .unset, .unset, .unset, .unset, .unset] [(.int a2), (.int (2 : Int32)), (.ref b1)])) rfl rfl (hb hby at_21)
  have N15 := Fr.snoc X14 N10 gn_b1
  have KP16 : Keep h0 h14 [] := KP11.wr W14 (Or.inr gh_b1)
  have V17 : Arv Z h14 b1 k1 .int (5 : Int32) [(.int (-1 : Int32)), (.int (0 : Int32)), (.int a2), (.int (0 : Int32)), (.int (0 : Int32))] (.int (0 : Int32)) := Arv.set Ar13 q13 S13 N13 H13 G13 rfl W14 2 rfl (Nat.le_of_ble_eq_true rfl)
  refine ownStep st14 ?_
  refine ownStep (fun _ k => XS.aload X14.here hx rfl (hb hby at_22) rfl rfl k) ?_
  refine ownStep (fun _ k => XS.iconst X14.here hx rfl (hb hby at_24) k) ?_
  refine ownStep (fun _ k => XS.iloadN X14.here hx rfl (hb hby at_25) rfl  k) ?_
  refine ownStep (fun _ k => XS.iconst X14.here hx rfl (hb hby at_26) k) ?_
  show ownGo p.tables e below (T14.setTop (mkF m 27 #[.val (.int pa_), .val (.int pb_), .val (.int oa_), .val (.int ob_), .val (.int gr_), .val (.int vx_), .val (.ref b1), .unset, .unset, .unset, .unset, .unset, .unset, .unset, .unset, .unset, .unset, .unset, .unset, .unset] [(.int (1 : Int32)), (.int pa_), (.int (3 : Int32)), (.ref b1)])) _
  refine ownStep (fun _ k => XS.iushr X14.here hx rfl (hb hby at_27) rfl k) ?_
  refine ownStep (fun _ k => XS.iconst X14.here hx rfl (hb hby at_28) k) ?_
  show ownGo p.tables e below (T14.setTop (mkF m 29 #[.val (.int pa_), .val (.int pb_), .val (.int oa_), .val (.int ob_), .val (.int gr_), .val (.int vx_), .val (.ref b1), .unset, .unset, .unset, .unset, .unset, .unset, .unset, .unset, .unset, .unset, .unset, .unset, .unset] [(.int (3 : Int32)), (.int ((pa_.toUInt32 >>> ((1 : Int32) &&& 31).toUInt32).toInt32)), (.int (3 : Int32)), (.ref b1)])) _
  refine ownStep (fun _ k => iremM X14 hx rfl (hb hby at_29) rfl (by decide) k) ?_
  show ownGo p.tables e below (T14.setTop (mkF m 30 #[.val (.int pa_), .val (.int pb_), .val (.int oa_), .val (.int ob_), .val (.int gr_), .val (.int vx_), .val (.ref b1), .unset, .unset, .unset, .unset, .unset, .unset, .unset, .unset, .unset, .unset, .unset, .unset, .unset] [(.int (((pa_.toUInt32 >>> ((1 : Int32) &&& 31).toUInt32).toInt32) % (3 : Int32))), (.int (3 : Int32)), (.ref b1)])) _
  rw [← h_a3]
  show ownGo p.tables e below (T14.setTop (mkF m 30 #[.val (.int pa_), .val (.int pb_), .val (.int oa_), .val (.int ob_), .val (.int gr_), .val (.int vx_), .val (.ref b1), .unset, .unset, .unset, .unset, .unset, .unset, .unset, .unset, .unset, .unset, .unset, .unset, .unset] [(.int a3), (.int (3 : Int32)), (.ref b1)])) _
  have Vo18 := V17
  obtain ⟨cl18, Ar18, q18, S18, N18, H18, G18⟩ := Vo18
  have hin18 : ¬ ((3 : Int32) < 0 ∨ cl18.slots.size ≤ ((3 : Int32)).toNatClampNeg) := inb_of S18 ⟨by decide, by decide⟩
  obtain ⟨T19, h19, X19, e19, W19, st19⟩ := stI X14 hx hZ e14 Ar18 (j := (3 : Int32)) hin18 (g := (mkF m 30 #[.val (.int pa_), .val (.int pb_), .val (.int oa_), .val (.int ob_), .val (.int gr_), .val (.int vx_), .val (.ref b1), .unset, .unset, .unset, .unset, .unset, .unset, .unset, .unset, .unset, .unset, .unset, .unset, .unset] [(.int a3), (.int (3 : Int32)), (.ref b1)])) rfl rfl (hb hby at_30)
  have N20 := Fr.snoc X19 N15 gn_b1
  have KP21 : Keep h0 h19 [] := KP16.wr W19 (Or.inr gh_b1)
  have V22 : Arv Z h19 b1 k1 .int (5 : Int32) [(.int (-1 : Int32)), (.int (0 : Int32)), (.int a2), (.int a3), (.int (0 : Int32))] (.int (0 : Int32)) := Arv.set Ar18 q18 S18 N18 H18 G18 rfl W19 3 rfl (Nat.le_of_ble_eq_true rfl)
  refine ownStep st19 ?_
  refine ownStep (fun _ k => XS.aload X19.here hx rfl (hb hby at_31) rfl rfl k) ?_
  refine ownStep (fun _ k => XS.iconst X19.here hx rfl (hb hby at_33) k) ?_
  refine ownStep (fun _ k => XS.iloadN X19.here hx rfl (hb hby at_34) rfl  k) ?_
  show ownGo p.tables e below (T19.setTop (mkF m 35 #[.val (.int pa_), .val (.int pb_), .val (.int oa_), .val (.int ob_), .val (.int gr_), .val (.int vx_), .val (.ref b1), .unset, .unset, .unset, .unset, .unset, .unset, .unset, .unset, .unset, .unset, .unset, .unset, .unset] [(.int pb_), (.int (4 : Int32)), (.ref b1)])) _
  refine ownStep (X19.ldcInt hx hown (mvT hZ (hw _ (List.mem_of_getElem? (i := 1) rfl))) (g := (mkF m 35 #[.val (.int pa_), .val (.int pb_), .val (.int oa_), .val (.int ob_), .val (.int gr_), .val (.int vx_), .val (.ref b1), .unset, .unset, .unset, .unset, .unset, .unset, .unset, .unset, .unset, .unset, .unset, .unset, .unset] [(.int pb_), (.int (4 : Int32)), (.ref b1)])) rfl (hb hby at_35)) ?_
  refine ownStep (fun _ k => XS.iand X19.here hx rfl (hb hby at_37) rfl k) ?_
  refine ownStep (fun _ k => XS.iconst X19.here hx rfl (hb hby at_38) k) ?_
  show ownGo p.tables e below (T19.setTop (mkF m 39 #[.val (.int pa_), .val (.int pb_), .val (.int oa_), .val (.int ob_), .val (.int gr_), .val (.int vx_), .val (.ref b1), .unset, .unset, .unset, .unset, .unset, .unset, .unset, .unset, .unset, .unset, .unset, .unset, .unset] [(.int (4 : Int32)), (.int (pb_ &&& (2147483647 : Int32))), (.int (4 : Int32)), (.ref b1)])) _
  refine ownStep (fun _ k => iremM X19 hx rfl (hb hby at_39) rfl (by decide) k) ?_
  show ownGo p.tables e below (T19.setTop (mkF m 40 #[.val (.int pa_), .val (.int pb_), .val (.int oa_), .val (.int ob_), .val (.int gr_), .val (.int vx_), .val (.ref b1), .unset, .unset, .unset, .unset, .unset, .unset, .unset, .unset, .unset, .unset, .unset, .unset, .unset] [(.int ((pb_ &&& (2147483647 : Int32)) % (4 : Int32))), (.int (4 : Int32)), (.ref b1)])) _
  rw [← h_a4]
  show ownGo p.tables e below (T19.setTop (mkF m 40 #[.val (.int pa_), .val (.int pb_), .val (.int oa_), .val (.int ob_), .val (.int gr_), .val (.int vx_), .val (.ref b1), .unset, .unset, .unset, .unset, .unset, .unset, .unset, .unset, .unset, .unset, .unset, .unset, .unset] [(.int a4), (.int (4 : Int32)), (.ref b1)])) _
  have Vo23 := V22
  obtain ⟨cl23, Ar23, q23, S23, N23, H23, G23⟩ := Vo23
  have hin23 : ¬ ((4 : Int32) < 0 ∨ cl23.slots.size ≤ ((4 : Int32)).toNatClampNeg) := inb_of S23 ⟨by decide, by decide⟩
  obtain ⟨T24, h24, X24, e24, W24, st24⟩ := stI X19 hx hZ e19 Ar23 (j := (4 : Int32)) hin23 (g := (mkF m 40 #[.val (.int pa_), .val (.int pb_), .val (.int oa_), .val (.int ob_), .val (.int gr_), .val (.int vx_), .val (.ref b1), .unset, .unset, .unset, .unset, .unset, .unset, .unset, .unset, .unset, .unset, .unset, .unset, .unset] [(.int a4), (.int (4 : Int32)), (.ref b1)])) rfl rfl (hb hby at_40)
  have N25 := Fr.snoc X24 N20 gn_b1
  have KP26 : Keep h0 h24 [] := KP21.wr W24 (Or.inr gh_b1)
  have V27 : Arv Z h24 b1 k1 .int (5 : Int32) [(.int (-1 : Int32)), (.int (0 : Int32)), (.int a2), (.int a3), (.int a4)] (.int (0 : Int32)) := Arv.set Ar23 q23 S23 N23 H23 G23 rfl W24 4 rfl (Nat.le_of_ble_eq_true rfl)
  refine ownStep st24 ?_
  refine ownStep (fun _ k => XS.iconst X24.here hx rfl (hb hby at_41) k) ?_
  show ownGo p.tables e below (T24.setTop (mkF m 42 #[.val (.int pa_), .val (.int pb_), .val (.int oa_), .val (.int ob_), .val (.int gr_), .val (.int vx_), .val (.ref b1), .unset, .unset, .unset, .unset, .unset, .unset, .unset, .unset, .unset, .unset, .unset, .unset, .unset] [(.int (2 : Int32))])) _
  obtain ⟨T28, h28, k28, X28, e28, E28, A28, st28⟩ := newP X24 hx hZ (hw _ (List.mem_of_getElem? (i := 0) rfl)) e24 (g := (mkF m 42 #[.val (.int pa_), .val (.int pb_), .val (.int oa_), .val (.int ob_), .val (.int gr_), .val (.int vx_), .val (.ref b1), .unset, .unset, .unset, .unset, .unset, .unset, .unset, .unset, .unset, .unset, .unset, .unset, .unset] [(.int (2 : Int32))])) rfl (hb hby at_42) rfl (by decide) (cap := 2) (by decide) (by decide) (by decide) (by decide)
  obtain ⟨b28, g28⟩ : ∃ z, z = h24.size := ⟨_, rfl⟩
  rw [← g28] at A28 st28
  have gh_b28 : h0.size ≤ b28 := Nat.le_trans KP26.1 (Nat.le_of_eq g28.symm)
  have gn_b28 : n0 ≤ b28 := Nat.le_trans Z0 gh_b28
  have KP29 : Keep h0 h28 [] := KP26.ext E28
  have V28 : Arv Z h28 b28 k28 .int (2 : Int32) [(.int (0 : Int32)), (.int (0 : Int32))] (.int (0 : Int32)) := (Arv.new A28 (by decide)).pad (pad_rep [] (.int (0 : Int32)) 2)
  refine ownStep st28 ?_
  refine ownStep (fun _ k => XS.astore X28.here hx rfl (hb hby at_44) rfl rfl (l' := #[.val (.int pa_), .val (.int pb_), .val (.int oa_), .val (.int ob_), .val (.int gr_), .val (.int vx_), .val (.ref b1), .val (.ref b28), .unset, .unset, .unset, .unset, .unset, .unset, .unset, .unset, .unset, .unset, .unset, .unset]) rfl k) ?_
  refine ownStep (fun _ k => XS.aload X28.here hx rfl (hb hby at_46) rfl rfl k) ?_
  refine ownStep (fun _ k => XS.iconst X28.here hx rfl (hb hby at_48) k) ?_
  refine ownStep (fun _ k => XS.iloadN X28.here hx rfl (hb hby at_49) rfl  k) ?_
  show ownGo p.tables e below (T28.setTop (mkF m 50 #[.val (.int pa_), .val (.int pb_), .val (.int oa_), .val (.int ob_), .val (.int gr_), .val (.int vx_), .val (.ref b1), .val (.ref b28), .unset, .unset, .unset, .unset, .unset, .unset, .unset, .unset, .unset, .unset, .unset, .unset] [(.int oa_), (.int (0 : Int32)), (.ref b28)])) _
  refine ownStep (X28.ldcInt hx hown (mvT hZ (hw _ (List.mem_of_getElem? (i := 1) rfl))) (g := (mkF m 50 #[.val (.int pa_), .val (.int pb_), .val (.int oa_), .val (.int ob_), .val (.int gr_), .val (.int vx_), .val (.ref b1), .val (.ref b28), .unset, .unset, .unset, .unset, .unset, .unset, .unset, .unset, .unset, .unset, .unset, .unset] [(.int oa_), (.int (0 : Int32)), (.ref b28)])) rfl (hb hby at_50)) ?_
  refine ownStep (fun _ k => XS.iand X28.here hx rfl (hb hby at_52) rfl k) ?_
  refine ownStep (fun _ k => XS.iconst X28.here hx rfl (hb hby at_53) k) ?_
  show ownGo p.tables e below (T28.setTop (mkF m 54 #[.val (.int pa_), .val (.int pb_), .val (.int oa_), .val (.int ob_), .val (.int gr_), .val (.int vx_), .val (.ref b1), .val (.ref b28), .unset, .unset, .unset, .unset, .unset, .unset, .unset, .unset, .unset, .unset, .unset, .unset] [(.int (5 : Int32)), (.int (oa_ &&& (2147483647 : Int32))), (.int (0 : Int32)), (.ref b28)])) _
  refine ownStep (fun _ k => iremM X28 hx rfl (hb hby at_54) rfl (by decide) k) ?_
  show ownGo p.tables e below (T28.setTop (mkF m 55 #[.val (.int pa_), .val (.int pb_), .val (.int oa_), .val (.int ob_), .val (.int gr_), .val (.int vx_), .val (.ref b1), .val (.ref b28), .unset, .unset, .unset, .unset, .unset, .unset, .unset, .unset, .unset, .unset, .unset, .unset] [(.int ((oa_ &&& (2147483647 : Int32)) % (5 : Int32))), (.int (0 : Int32)), (.ref b28)])) _
  rw [← h_o0]
  show ownGo p.tables e below (T28.setTop (mkF m 55 #[.val (.int pa_), .val (.int pb_), .val (.int oa_), .val (.int ob_), .val (.int gr_), .val (.int vx_), .val (.ref b1), .val (.ref b28), .unset, .unset, .unset, .unset, .unset, .unset, .unset, .unset, .unset, .unset, .unset, .unset] [(.int o0), (.int (0 : Int32)), (.ref b28)])) _
  have Vo30 := V28
  obtain ⟨cl30, Ar30, q30, S30, N30, H30, G30⟩ := Vo30
  have hin30 : ¬ ((0 : Int32) < 0 ∨ cl30.slots.size ≤ ((0 : Int32)).toNatClampNeg) := inb_of S30 ⟨by decide, by decide⟩
  obtain ⟨T31, h31, X31, e31, W31, st31⟩ := stI X28 hx hZ e28 Ar30 (j := (0 : Int32)) hin30 (g := (mkF m 55 #[.val (.int pa_), .val (.int pb_), .val (.int oa_), .val (.int ob_), .val (.int gr_), .val (.int vx_), .val (.ref b1), .val (.ref b28), .unset, .unset, .unset, .unset, .unset, .unset, .unset, .unset, .unset, .unset, .unset, .unset] [(.int o0), (.int (0 : Int32)), (.ref b28)])) rfl rfl (hb hby at_55)
  have N32 := Fr.snoc X31 N25 gn_b28
  have KP33 : Keep h0 h31 [] := KP29.wr W31 (Or.inr gh_b28)
  have V34 : Arv Z h31 b28 k28 .int (2 : Int32) [(.int o0), (.int (0 : Int32))] (.int (0 : Int32)) := Arv.set Ar30 q30 S30 N30 H30 G30 rfl W31 0 rfl (Nat.le_of_ble_eq_true rfl)
  refine ownStep st31 ?_
  refine ownStep (fun _ k => XS.aload X31.here hx rfl (hb hby at_56) rfl rfl k) ?_
  refine ownStep (fun _ k => XS.iconst X31.here hx rfl (hb hby at_58) k) ?_
  refine ownStep (fun _ k => XS.iloadN X31.here hx rfl (hb hby at_59) rfl  k) ?_
  show ownGo p.tables e below (T31.setTop (mkF m 60 #[.val (.int pa_), .val (.int pb_), .val (.int oa_), .val (.int ob_), .val (.int gr_), .val (.int vx_), .val (.ref b1), .val (.ref b28), .unset, .unset, .unset, .unset, .unset, .unset, .unset, .unset, .unset, .unset, .unset, .unset] [(.int ob_), (.int (1 : Int32)), (.ref b28)])) _
  refine ownStep (X31.ldcInt hx hown (mvT hZ (hw _ (List.mem_of_getElem? (i := 1) rfl))) (g := (mkF m 60 #[.val (.int pa_), .val (.int pb_), .val (.int oa_), .val (.int ob_), .val (.int gr_), .val (.int vx_), .val (.ref b1), .val (.ref b28), .unset, .unset, .unset, .unset, .unset, .unset, .unset, .unset, .unset, .unset, .unset, .unset] [(.int ob_), (.int (1 : Int32)), (.ref b28)])) rfl (hb hby at_60)) ?_
  refine ownStep (fun _ k => XS.iand X31.here hx rfl (hb hby at_62) rfl k) ?_
  refine ownStep (fun _ k => XS.iconst X31.here hx rfl (hb hby at_63) k) ?_
  show ownGo p.tables e below (T31.setTop (mkF m 64 #[.val (.int pa_), .val (.int pb_), .val (.int oa_), .val (.int ob_), .val (.int gr_), .val (.int vx_), .val (.ref b1), .val (.ref b28), .unset, .unset, .unset, .unset, .unset, .unset, .unset, .unset, .unset, .unset, .unset, .unset] [(.int (5 : Int32)), (.int (ob_ &&& (2147483647 : Int32))), (.int (1 : Int32)), (.ref b28)])) _
  refine ownStep (fun _ k => iremM X31 hx rfl (hb hby at_64) rfl (by decide) k) ?_
  show ownGo p.tables e below (T31.setTop (mkF m 65 #[.val (.int pa_), .val (.int pb_), .val (.int oa_), .val (.int ob_), .val (.int gr_), .val (.int vx_), .val (.ref b1), .val (.ref b28), .unset, .unset, .unset, .unset, .unset, .unset, .unset, .unset, .unset, .unset, .unset, .unset] [(.int ((ob_ &&& (2147483647 : Int32)) % (5 : Int32))), (.int (1 : Int32)), (.ref b28)])) _
  rw [← h_o1]
  show ownGo p.tables e below (T31.setTop (mkF m 65 #[.val (.int pa_), .val (.int pb_), .val (.int oa_), .val (.int ob_), .val (.int gr_), .val (.int vx_), .val (.ref b1), .val (.ref b28), .unset, .unset, .unset, .unset, .unset, .unset, .unset, .unset, .unset, .unset, .unset, .unset] [(.int o1), (.int (1 : Int32)), (.ref b28)])) _
  have Vo35 := V34
  obtain ⟨cl35, Ar35, q35, S35, N35, H35, G35⟩ := Vo35
  have hin35 : ¬ ((1 : Int32) < 0 ∨ cl35.slots.size ≤ ((1 : Int32)).toNatClampNeg) := inb_of S35 ⟨by decide, by decide⟩
  obtain ⟨T36, h36, X36, e36, W36, st36⟩ := stI X31 hx hZ e31 Ar35 (j := (1 : Int32)) hin35 (g := (mkF m 65 #[.val (.int pa_), .val (.int pb_), .val (.int oa_), .val (.int ob_), .val (.int gr_), .val (.int vx_), .val (.ref b1), .val (.ref b28), .unset, .unset, .unset, .unset, .unset, .unset, .unset, .unset, .unset, .unset, .unset, .unset] [(.int o1), (.int (1 : Int32)), (.ref b28)])) rfl rfl (hb hby at_65)
  have N37 := Fr.snoc X36 N32 gn_b28
  have KP38 : Keep h0 h36 [] := KP33.wr W36 (Or.inr gh_b28)
  have V39 : Arv Z h36 b28 k28 .int (2 : Int32) [(.int o0), (.int o1)] (.int (0 : Int32)) := Arv.set Ar35 q35 S35 N35 H35 G35 rfl W36 1 rfl (Nat.le_of_ble_eq_true rfl)
  refine ownStep st36 ?_
  refine ownStep (fun _ k => XS.iconst X36.here hx rfl (hb hby at_66) k) ?_
  show ownGo p.tables e below (T36.setTop (mkF m 67 #[.val (.int pa_), .val (.int pb_), .val (.int oa_), .val (.int ob_), .val (.int gr_), .val (.int vx_), .val (.ref b1), .val (.ref b28), .unset, .unset, .unset, .unset, .unset, .unset, .unset, .unset, .unset, .unset, .unset, .unset] [(.int (5 : Int32))])) _
  obtain ⟨T40, h40, k40, X40, e40, E40, A40, st40⟩ := newP X36 hx hZ (hw _ (List.mem_of_getElem? (i := 2) rfl)) e36 (g := (mkF m 67 #[.val (.int pa_), .val (.int pb_), .val (.int oa_), .val (.int ob_), .val (.int gr_), .val (.int vx_), .val (.ref b1), .val (.ref b28), .unset, .unset, .unset, .unset, .unset, .unset, .unset, .unset, .unset, .unset, .unset, .unset] [(.int (5 : Int32))])) rfl (hb hby at_67) rfl (by decide) (cap := 5) (by decide) (by decide) (by decide) (by decide)
  obtain ⟨b40, g40⟩ : ∃ z, z = h36.size := ⟨_, rfl⟩
  rw [← g40] at A40 st40
  have gh_b40 : h0.size ≤ b40 := Nat.le_trans KP38.1 (Nat.le_of_eq g40.symm)
  have gn_b40 : n0 ≤ b40 := Nat.le_trans Z0 gh_b40
  have KP41 : Keep h0 h40 [] := KP38.ext E40
  have V40 : Arv Z h40 b40 k40 .boolean (5 : Int32) [(.int (0 : Int32)), (.int (0 : Int32)), (.int (0 : Int32)), (.int (0 : Int32)), (.int (0 : Int32))] (.int (0 : Int32)) := (Arv.new A40 (by decide)).pad (pad_rep [] (.int (0 : Int32)) 5)
  refine ownStep st40 ?_
  refine ownStep (fun _ k => XS.astore X40.here hx rfl (hb hby at_69) rfl rfl (l' := #[.val (.int pa_), .val (.int pb_), .val (.int oa_), .val (.int ob_), .val (.int gr_), .val (.int vx_), .val (.ref b1), .val (.ref b28), .val (.ref b40), .unset, .unset, .unset, .unset, .unset, .unset, .unset, .unset, .unset, .unset, .unset]) rfl k) ?_
  refine ownStep (fun _ k => XS.iconst X40.here hx rfl (hb hby at_71) k) ?_
  show ownGo p.tables e below (T40.setTop (mkF m 72 #[.val (.int pa_), .val (.int pb_), .val (.int oa_), .val (.int ob_), .val (.int gr_), .val (.int vx_), .val (.ref b1), .val (.ref b28), .val (.ref b40), .unset, .unset, .unset, .unset, .unset, .unset, .unset, .unset, .unset, .unset, .unset] [(.int (2 : Int32))])) _
  obtain ⟨T42, h42, k42, X42, e42, E42, A42, st42⟩ := newP X40 hx hZ (hw _ (List.mem_of_getElem? (i := 0) rfl)) e40 (g := (mkF m 72 #[.val (.int pa_), .val (.int pb_), .val (.int oa_), .val (.int ob_), .val (.int gr_), .val (.int vx_), .val (.ref b1), .val (.ref b28), .val (.ref b40), .unset, .unset, .unset, .unset, .unset, .unset, .unset, .unset, .unset, .unset, .unset] [(.int (2 : Int32))])) rfl (hb hby at_72) rfl (by decide) (cap := 2) (by decide) (by decide) (by decide) (by decide)
  obtain ⟨b42, g42⟩ : ∃ z, z = h40.size := ⟨_, rfl⟩
  rw [← g42] at A42 st42
  have gh_b42 : h0.size ≤ b42 := Nat.le_trans KP41.1 (Nat.le_of_eq g42.symm)
  have gn_b42 : n0 ≤ b42 := Nat.le_trans Z0 gh_b42
  have KP43 : Keep h0 h42 [] := KP41.ext E42
  have V42 : Arv Z h42 b42 k42 .int (2 : Int32) [(.int (0 : Int32)), (.int (0 : Int32))] (.int (0 : Int32)) := (Arv.new A42 (by decide)).pad (pad_rep [] (.int (0 : Int32)) 2)
  refine ownStep st42 ?_
  refine ownStep (fun _ k => XS.astore X42.here hx rfl (hb hby at_74) rfl rfl (l' := #[.val (.int pa_), .val (.int pb_), .val (.int oa_), .val (.int ob_), .val (.int gr_), .val (.int vx_), .val (.ref b1), .val (.ref b28), .val (.ref b40), .val (.ref b42), .unset, .unset, .unset, .unset, .unset, .unset, .unset, .unset, .unset, .unset]) rfl k) ?_
  refine ownStep (fun _ k => XS.iconst X42.here hx rfl (hb hby at_76) k) ?_
  show ownGo p.tables e below (T42.setTop (mkF m 77 #[.val (.int pa_), .val (.int pb_), .val (.int oa_), .val (.int ob_), .val (.int gr_), .val (.int vx_), .val (.ref b1), .val (.ref b28), .val (.ref b40), .val (.ref b42), .unset, .unset, .unset, .unset, .unset, .unset, .unset, .unset, .unset, .unset] [(.int (2 : Int32))])) _
  obtain ⟨T44, h44, k44, X44, e44, E44, A44, st44⟩ := newP X42 hx hZ (hw _ (List.mem_of_getElem? (i := 0) rfl)) e42 (g := (mkF m 77 #[.val (.int pa_), .val (.int pb_), .val (.int oa_), .val (.int ob_), .val (.int gr_), .val (.int vx_), .val (.ref b1), .val (.ref b28), .val (.ref b40), .val (.ref b42), .unset, .unset, .unset, .unset, .unset, .unset, .unset, .unset, .unset, .unset] [(.int (2 : Int32))])) rfl (hb hby at_77) rfl (by decide) (cap := 2) (by decide) (by decide) (by decide) (by decide)
  obtain ⟨b44, g44⟩ : ∃ z, z = h42.size := ⟨_, rfl⟩
  rw [← g44] at A44 st44
  have gh_b44 : h0.size ≤ b44 := Nat.le_trans KP43.1 (Nat.le_of_eq g44.symm)
  have gn_b44 : n0 ≤ b44 := Nat.le_trans Z0 gh_b44
  have KP45 : Keep h0 h44 [] := KP43.ext E44
  have V44 : Arv Z h44 b44 k44 .int (2 : Int32) [(.int (0 : Int32)), (.int (0 : Int32))] (.int (0 : Int32)) := (Arv.new A44 (by decide)).pad (pad_rep [] (.int (0 : Int32)) 2)
  refine ownStep st44 ?_
  refine ownStep (fun _ k => XS.astore X44.here hx rfl (hb hby at_79) rfl rfl (l' := #[.val (.int pa_), .val (.int pb_), .val (.int oa_), .val (.int ob_), .val (.int gr_), .val (.int vx_), .val (.ref b1), .val (.ref b28), .val (.ref b40), .val (.ref b42), .val (.ref b44), .unset, .unset, .unset, .unset, .unset, .unset, .unset, .unset, .unset]) rfl k) ?_
  show ownGo p.tables e below (T44.setTop (mkF m 81 #[.val (.int pa_), .val (.int pb_), .val (.int oa_), .val (.int ob_), .val (.int gr_), .val (.int vx_), .val (.ref b1), .val (.ref b28), .val (.ref b40), .val (.ref b42), .val (.ref b44), .unset, .unset, .unset, .unset, .unset, .unset, .unset, .unset, .unset] [])) _
  obtain ⟨T46, h46, X46, e46, E46, A46, D46, U46, st46⟩ := newO X44 hx hZ hown (hw _ (List.mem_of_getElem? (i := 3) rfl)) (hw _ (List.mem_of_getElem? (i := 4) rfl)) (hw _ (List.mem_of_getElem? (i := 5) rfl)) e44 (g := (mkF m 81 #[.val (.int pa_), .val (.int pb_), .val (.int oa_), .val (.int ob_), .val (.int gr_), .val (.int vx_), .val (.ref b1), .val (.ref b28), .val (.ref b40), .val (.ref b42), .val (.ref b44), .unset, .unset, .unset, .unset, .unset, .unset, .unset, .unset, .unset] [])) rfl (hb hby at_81) (by decide) (by decide)
  obtain ⟨b46, g46⟩ : ∃ z, z = h44.size := ⟨_, rfl⟩
  rw [← g46] at A46 D46 U46 st46
  have gh_b46 : h0.size ≤ b46 := Nat.le_trans KP45.1 (Nat.le_of_eq g46.symm)
  have gn_b46 : n0 ≤ b46 := Nat.le_trans Z0 gh_b46
  have KP47 : Keep h0 h46 [] := KP45.ext E46
  have F48 : Fld Z h46 b46 "com/example/adept_layout/adeptlayout/layout/Nesting" "children" "Ljava/util/List;" .null := D46 (Or.inr (hw _ (List.mem_of_getElem? (i := 37) rfl))) (ty := (.object "java/util/List")) (by decide)
  have F49 : Fld Z h46 b46 "com/example/adept_layout/adeptlayout/layout/Nesting" "owner" "[I" .null := D46 (Or.inr (hw _ (List.mem_of_getElem? (i := 39) rfl))) (ty := (.array .int)) (by decide)
  have F50 : Fld Z h46 b46 "com/example/adept_layout/adeptlayout/layout/Nesting" "parent" "[I" .null := D46 (Or.inr (hw _ (List.mem_of_getElem? (i := 41) rfl))) (ty := (.array .int)) (by decide)
  have F51 : Fld Z h46 b46 "com/example/adept_layout/adeptlayout/layout/Nesting" "lane" "[Z" .null := D46 (Or.inr (hw _ (List.mem_of_getElem? (i := 43) rfl))) (ty := (.array .boolean)) (by decide)
  have F52 : Fld Z h46 b46 "com/example/adept_layout/adeptlayout/layout/Nesting" "listedSide" "[I" .null := D46 (Or.inr (hw _ (List.mem_of_getElem? (i := 45) rfl))) (ty := (.array .int)) (by decide)
  have F53 : Fld Z h46 b46 "com/example/adept_layout/adeptlayout/layout/Nesting" "first" "[I" .null := D46 (Or.inr (hw _ (List.mem_of_getElem? (i := 47) rfl))) (ty := (.array .int)) (by decide)
  have F54 : Fld Z h46 b46 "com/example/adept_layout/adeptlayout/layout/Nesting" "last" "[I" .null := D46 (Or.inr (hw _ (List.mem_of_getElem? (i := 49) rfl))) (ty := (.array .int)) (by decide)
  refine ownStep st46 ?_
  refine ownStep (fun _ k => XS.dup X46.here hx rfl (hb hby at_84) rfl rfl k) ?_
  refine ownStep (fun _ k => XS.aload X46.here hx rfl (hb hby at_85) rfl rfl k) ?_
  refine ownStep (fun _ k => XS.aload X46.here hx rfl (hb hby at_87) rfl rfl k) ?_
  refine ownStep (fun _ k => XS.aload X46.here hx rfl (hb hby at_89) rfl rfl k) ?_
  show ownGo p.tables e below (T46.setTop (mkF m 91 #[.val (.int pa_), .val (.int pb_), .val (.int oa_), .val (.int ob_), .val (.int gr_), .val (.int vx_), .val (.ref b1), .val (.ref b28), .val (.ref b40), .val (.ref b42), .val (.ref b44), .unset, .unset, .unset, .unset, .unset, .unset, .unset, .unset, .unset] [(.ref b40), (.ref b1), (.ref b28), (.ref b46), (.ref b46)])) _
  refine ownStep (fun _ k => XS.aload X46.here hx rfl (hb hby at_91) rfl rfl k) ?_
  refine ownStep (fun _ k => XS.aload X46.here hx rfl (hb hby at_93) rfl rfl k) ?_
  refine ownStep (fun _ k => XS.iconst X46.here hx rfl (hb hby at_95) k) ?_
  show ownGo p.tables e below (T46.setTop (mkF m 96 #[.val (.int pa_), .val (.int pb_), .val (.int oa_), .val (.int ob_), .val (.int gr_), .val (.int vx_), .val (.ref b1), .val (.ref b28), .val (.ref b40), .val (.ref b42), .val (.ref b44), .unset, .unset, .unset, .unset, .unset, .unset, .unset, .unset, .unset] [(.int (1 : Int32)), (.ref b44), (.ref b42), (.ref b40), (.ref b1), (.ref b28), (.ref b46), (.ref b46)])) _
  have ne55 : b1 ≠ b46 := Nat.ne_of_lt (Nat.lt_of_lt_of_le (Nat.lt_of_lt_of_le V27.lt (Nat.le_trans (Nat.le_trans (Nat.le_trans (Nat.le_trans (Nat.le_trans (Nat.le_trans (Nat.le_refl _) E28.1) (Keep.of_wr W31).1) (Keep.of_wr W36).1) E40.1) E42.1) E44.1)) (Nat.le_of_eq g46.symm))
  have ne56 : b28 ≠ b46 := Nat.ne_of_lt (Nat.lt_of_lt_of_le (Nat.lt_of_lt_of_le V39.lt (Nat.le_trans (Nat.le_trans (Nat.le_trans (Nat.le_refl _) E40.1) E42.1) E44.1)) (Nat.le_of_eq g46.symm))
  have ne57 : b40 ≠ b46 := Nat.ne_of_lt (Nat.lt_of_lt_of_le (Nat.lt_of_lt_of_le V40.lt (Nat.le_trans (Nat.le_trans (Nat.le_refl _) E42.1) E44.1)) (Nat.le_of_eq g46.symm))
  have ne58 : b44 ≠ b46 := Nat.ne_of_lt (Nat.lt_of_lt_of_le (Nat.lt_of_lt_of_le V44.lt (Nat.le_refl _)) (Nat.le_of_eq g46.symm))
  have Q59 : Old Z n0 h46 := (((((((((((((hOld.ext E1).wr W4 gn_b1).wr W9 gn_b1).wr W14 gn_b1).wr W19 gn_b1).wr W24 gn_b1).ext E28).wr W31 gn_b28).wr W36 gn_b28).ext E40).ext E42).ext E44).ext E46)
  have ne60 : b1 ≠ b28 := Nat.ne_of_lt (Nat.lt_of_lt_of_le (Nat.lt_of_lt_of_le V27.lt (Nat.le_refl _)) (Nat.le_of_eq g28.symm))
  have Q61 : Arv Z h46 b1 k1 .int (5 : Int32) [(.int (-1 : Int32)), (.int (0 : Int32)), (.int a2), (.int a3), (.int a4)] (.int (0 : Int32)) := (((((((V27.ext E28).other W31 ne60).other W36 ne60).ext E40).ext E42).ext E44).ext E46)
  have Q62 : Arv Z h46 b28 k28 .int (2 : Int32) [(.int o0), (.int o1)] (.int (0 : Int32)) := ((((V39.ext E40).ext E42).ext E44).ext E46)
  have Q63 : Arv Z h46 b40 k40 .boolean (5 : Int32) [(.int (0 : Int32)), (.int (0 : Int32)), (.int (0 : Int32)), (.int (0 : Int32)), (.int (0 : Int32))] (.int (0 : Int32)) := (((V40.ext E42).ext E44).ext E46)
  have Q64 : Arv Z h46 b44 k44 .int (2 : Int32) [(.int (0 : Int32)), (.int (0 : Int32))] (.int (0 : Int32)) := (V44.ext E46)
  have Zs66 : n0 ≤ h46.size := Nat.le_trans Z0 KP47.1
  obtain ⟨_, _, ⟨T65, L65, k65, n65⟩, -, X65, ⟨Lc65, hQ65, l65, y65, z65⟩, st65⟩ := X46.specialBack hx (y := (⟨"com/example/adept_layout/adeptlayout/layout/Nesting", "<init>", "([I[I[Z[I[II)V"⟩ : MethodName)) rfl hown (mvT hZ (hw _ (List.mem_of_getElem? (i := 6) rfl))) (mvT hZ (hw _ (List.mem_of_getElem? (i := 7) rfl))) (mvT hZ (hw _ (List.mem_of_getElem? (i := 8) rfl))) (by decide) (backOf (W := 1) (own_ctor l Z a0 hw [] ed kd ca clc b46 b28 b1 b40 b42 b44 k28 k1 k40 k44 a2 a3 a4 o0 o1 h46 n0 Zs66 Q59 S V Sh Sc BX A46 gn_b46 F48 F49 F50 F51 F52 F53 F54 Q61 Q62 Q63 Q64 ra2 ra3 ra4 r0.1 r0.2 r1.1 r1.2 ne55 ne56 ne57 ne58) hZ (hw _ (List.mem_of_getElem? (i := 8) rfl)) (hw _ (List.mem_of_getElem? (i := 5) rfl)) (by decide) (by decide)) (g := (mkF m 96 #[.val (.int pa_), .val (.int pb_), .val (.int oa_), .val (.int ob_), .val (.int gr_), .val (.int vx_), .val (.ref b1), .val (.ref b28), .val (.ref b40), .val (.ref b42), .val (.ref b44), .unset, .unset, .unset, .unset, .unset, .unset, .unset, .unset, .unset] [(.int (1 : Int32)), (.ref b44), (.ref b42), (.ref b40), (.ref b1), (.ref b28), (.ref b46), (.ref b46)])) rfl (by rw [hml]; rfl) (Steps.refl _) (a := b46) (argsL := [(.ref b28), (.ref b1), (.ref b40), (.ref b42), (.ref b44), (.int (1 : Int32))]) (rest := [(.ref b46)]) (lenOf own_law_pd0 rfl) rfl (by show 2 * 0 + _ ≤ _; exact Nat.le_of_eq rfl) (hb hby at_96) (fun _ _ => ⟨rfl, e46, (by decide : 6 + 17 ≤ _), (by decide : 23 + 118 ≤ _)⟩)
  dsimp only [Pt.U, Pt.locs, Pt.cells, Pt.slots] at X65 l65 y65 z65 st65 hQ65
  obtain rfl : k65 = 23 := y65
  obtain rfl : n65 = 141 := z65
  obtain ⟨rfl, N65q, R65, P67, P68⟩ := hQ65
  have N65 : Fr n0 L65 := l65 ▸ Fr.app N37 N65q
  refine ownStep (fun _ k => st65.trans k) ?_
  have KP69 : Keep h0 T65.heap [] := KP47.trans R65 (allS (Or.inr gh_b46) all0)
  refine ownStep (fun _ k => XS.astore X65.here hx rfl (hb hby at_99) rfl rfl (l' := #[.val (.int pa_), .val (.int pb_), .val (.int oa_), .val (.int ob_), .val (.int gr_), .val (.int vx_), .val (.ref b1), .val (.ref b28), .val (.ref b40), .val (.ref b42), .val (.ref b44), .val (.ref b46), .unset, .unset, .unset, .unset, .unset, .unset, .unset, .unset]) rfl k) ?_
  refine ownStep (fun _ k => XS.iload X65.here hx rfl (hb hby at_101) rfl  k) ?_
  show ownGo p.tables e below (T65.setTop (mkF m 103 #[.val (.int pa_), .val (.int pb_), .val (.int oa_), .val (.int ob_), .val (.int gr_), .val (.int vx_), .val (.ref b1), .val (.ref b28), .val (.ref b40), .val (.ref b42), .val (.ref b44), .val (.ref b46), .unset, .unset, .unset, .unset, .unset, .unset, .unset, .unset] [(.int gr_)])) _
  refine ownStep (X65.ldcInt hx hown (mvT hZ (hw _ (List.mem_of_getElem? (i := 1) rfl))) (g := (mkF m 103 #[.val (.int pa_), .val (.int pb_), .val (.int oa_), .val (.int ob_), .val (.int gr_), .val (.int vx_), .val (.ref b1), .val (.ref b28), .val (.ref b40), .val (.ref b42), .val (.ref b44), .val (.ref b46), .unset, .unset, .unset, .unset, .unset, .unset, .unset, .unset] [(.int gr_)])) rfl (hb hby at_103)) ?_
  refine ownStep (fun _ k => XS.iand X65.here hx rfl (hb hby at_105) rfl k) ?_
  refine ownStep (fun _ k => XS.iconst X65.here hx rfl (hb hby at_106) k) ?_
  show ownGo p.tables e below (T65.setTop (mkF m 107 #[.val (.int pa_), .val (.int pb_), .val (.int oa_), .val (.int ob_), .val (.int gr_), .val (.int vx_), .val (.ref b1), .val (.ref b28), .val (.ref b40), .val (.ref b42), .val (.ref b44), .val (.ref b46), .unset, .unset, .unset, .unset, .unset, .unset, .unset, .unset] [(.int (5 : Int32)), (.int (gr_ &&& (2147483647 : Int32)))])) _
  refine ownStep (fun _ k => iremM X65 hx rfl (hb hby at_107) rfl (by decide) k) ?_
  show ownGo p.tables e below (T65.setTop (mkF m 108 #[.val (.int pa_), .val (.int pb_), .val (.int oa_), .val (.int ob_), .val (.int gr_), .val (.int vx_), .val (.ref b1), .val (.ref b28), .val (.ref b40), .val (.ref b42), .val (.ref b44), .val (.ref b46), .unset, .unset, .unset, .unset, .unset, .unset, .unset, .unset] [(.int ((gr_ &&& (2147483647 : Int32)) % (5 : Int32)))])) _
  rw [← h_gg]
  refine ownStep (fun _ k => XS.istore X65.here hx rfl (hb hby at_108) rfl (l' := #[.val (.int pa_), .val (.int pb_), .val (.int oa_), .val (.int ob_), .val (.int gr_), .val (.int vx_), .val (.ref b1), .val (.ref b28), .val (.ref b40), .val (.ref b42), .val (.ref b44), .val (.ref b46), .val (.int gg), .unset, .unset, .unset, .unset, .unset, .unset, .unset]) rfl k) ?_
  refine ownStep (fun _ k => XS.iload X65.here hx rfl (hb hby at_110) rfl  k) ?_
  refine ownStep (fun _ k => XS.iconst X65.here hx rfl (hb hby at_112) k) ?_
  refine ownStep (fun _ k => XS.iand X65.here hx rfl (hb hby at_113) rfl k) ?_
  show ownGo p.tables e below (T65.setTop (mkF m 114 #[.val (.int pa_), .val (.int pb_), .val (.int oa_), .val (.int ob_), .val (.int gr_), .val (.int vx_), .val (.ref b1), .val (.ref b28), .val (.ref b40), .val (.ref b42), .val (.ref b44), .val (.ref b46), .val (.int gg), .unset, .unset, .unset, .unset, .unset, .unset, .unset] [(.int (vx_ &&& (1 : Int32)))])) _
  refine ownStep (fun _ k => XS.istore X65.here hx rfl (hb hby at_114) rfl (l' := #[.val (.int pa_), .val (.int pb_), .val (.int oa_), .val (.int ob_), .val (.int gr_), .val (.int vx_), .val (.ref b1), .val (.ref b28), .val (.ref b40), .val (.ref b42), .val (.ref b44), .val (.ref b46), .val (.int gg), .val (.int (vx_ &&& (1 : Int32))), .unset, .unset, .unset, .unset, .unset, .unset]) rfl k) ?_
  refine ownStep (fun _ k => XS.aload X65.here hx rfl (hb hby at_116) rfl rfl k) ?_
  refine ownStep (fun _ k => XS.iload X65.here hx rfl (hb hby at_118) rfl  k) ?_
  show ownGo p.tables e below (T65.setTop (mkF m 120 #[.val (.int pa_), .val (.int pb_), .val (.int oa_), .val (.int ob_), .val (.int gr_), .val (.int vx_), .val (.ref b1), .val (.ref b28), .val (.ref b40), .val (.ref b42), .val (.ref b44), .val (.ref b46), .val (.int gg), .val (.int (vx_ &&& (1 : Int32))), .unset, .unset, .unset, .unset, .unset, .unset] [(.int (vx_ &&& (1 : Int32))), (.ref b28)])) _
  have Q71 : Arv Z T65.heap b28 k28 .int (2 : Int32) [(.int o0), (.int o1)] (.int (0 : Int32)) := (Q62.keep R65 (ninS ne56 nin0))
  have Vo70 := Q71
  obtain ⟨cl70, Ar70, q70, S70, N70, H70, G70⟩ := Vo70
  obtain ⟨c0, hin0, hat0, rc⟩ := own_two S70 H70 r0 r1 vx_
  refine ownStep (X65.iaload hx (j := (vx_ &&& (1 : Int32))) (v := (.int c0)) Ar70.1 (State.isArrayOf_alike hZ.alike Ar70.2.1) Ar70.2.2 hin0 hat0 (g := (mkF m 120 #[.val (.int pa_), .val (.int pb_), .val (.int oa_), .val (.int ob_), .val (.int gr_), .val (.int vx_), .val (.ref b1), .val (.ref b28), .val (.ref b40), .val (.ref b42), .val (.ref b44), .val (.ref b46), .val (.int gg), .val (.int (vx_ &&& (1 : Int32))), .unset, .unset, .unset, .unset, .unset, .unset] [(.int (vx_ &&& (1 : Int32))), (.ref b28)])) rfl rfl (hb hby at_120)) ?_
  refine ownStep (fun _ k => XS.istore X65.here hx rfl (hb hby at_121) rfl (l' := #[.val (.int pa_), .val (.int pb_), .val (.int oa_), .val (.int ob_), .val (.int gr_), .val (.int vx_), .val (.ref b1), .val (.ref b28), .val (.ref b40), .val (.ref b42), .val (.ref b44), .val (.ref b46), .val (.int gg), .val (.int (vx_ &&& (1 : Int32))), .val (.int c0), .unset, .unset, .unset, .unset, .unset]) rfl k) ?_
  refine ownStep (fun _ k => XS.aload X65.here hx rfl (hb hby at_123) rfl rfl k) ?_
  refine ownStep (fun _ k => XS.iload X65.here hx rfl (hb hby at_125) rfl  k) ?_
  show ownGo p.tables e below (T65.setTop (mkF m 127 #[.val (.int pa_), .val (.int pb_), .val (.int oa_), .val (.int ob_), .val (.int gr_), .val (.int vx_), .val (.ref b1), .val (.ref b28), .val (.ref b40), .val (.ref b42), .val (.ref b44), .val (.ref b46), .val (.int gg), .val (.int (vx_ &&& (1 : Int32))), .val (.int c0), .unset, .unset, .unset, .unset, .unset] [(.int c0), (.ref b1)])) _
  have Q73 : Arv Z T65.heap b1 k1 .int (5 : Int32) [(.int (-1 : Int32)), (.int (0 : Int32)), (.int a2), (.int a3), (.int a4)] (.int (0 : Int32)) := (Q61.keep R65 (ninS ne55 nin0))
  have Zs75 : n0 ≤ T65.heap.size := Nat.le_trans Z0 KP69.1
  obtain ⟨_, _, ⟨T74, L74, k74, n74⟩, -, X74, ⟨Lc74, hQ74, l74, y74, z74⟩, st74⟩ := Jvm.LawKit.callS X65 hx (y := (⟨"com/example/adept_layout/adeptlayout/layout/NestingChildHoldingPinLaw", "up", "([II)I"⟩ : MethodName)) hown (mvT hZ (hw _ (List.mem_of_getElem? (i := 119) rfl))) (mvT hZ (hw _ (List.mem_of_getElem? (i := 120) rfl))) (mvT hZ (hw _ (List.mem_of_getElem? (i := 121) rfl))) (mvT hZ (hw _ (List.mem_of_getElem? (i := 122) rfl))) (by decide) (backOf (W := 0) (own_up_ l Z a0 hw [] b1 k1 a2 a3 a4 c0 T65.heap n0 Zs75 Q73 rc.2) hZ (hw _ (List.mem_of_getElem? (i := 122) rfl)) (hw _ (List.mem_of_getElem? (i := 121) rfl)) (by decide) (by decide)) (g := (mkF m 127 #[.val (.int pa_), .val (.int pb_), .val (.int oa_), .val (.int ob_), .val (.int gr_), .val (.int vx_), .val (.ref b1), .val (.ref b28), .val (.ref b40), .val (.ref b42), .val (.ref b44), .val (.ref b46), .val (.int gg), .val (.int (vx_ &&& (1 : Int32))), .val (.int c0), .unset, .unset, .unset, .unset, .unset] [(.int c0), (.ref b1)])) rfl (by rw [hml]; rfl) (argsL := [(.ref b1), (.int c0)]) (rest := []) (lenOf own_law_pd1 rfl) rfl (by show 2 * 0 + _ ≤ _; exact Nat.le_of_eq rfl) (hb hby at_127) (fun _ _ => ⟨rfl, rfl, (by decide : 23 + 0 ≤ _), (by decide : 141 + 0 ≤ _)⟩)
  dsimp only [Pt.U, Pt.locs, Pt.cells, Pt.slots] at X74 l74 y74 z74 st74 hQ74
  obtain rfl : k74 = 23 := y74
  obtain rfl : n74 = 141 := z74
  obtain ⟨rfl, N74q, R74⟩ := hQ74
  have N74 : Fr n0 L74 := l74 ▸ Fr.app N65 N74q
  refine ownStep (fun _ k => st74 _ k) ?_
  show ownGo p.tables e below (T74.setTop (mkF m 130 #[.val (.int pa_), .val (.int pb_), .val (.int oa_), .val (.int ob_), .val (.int gr_), .val (.int vx_), .val (.ref b1), .val (.ref b28), .val (.ref b40), .val (.ref b42), .val (.ref b44), .val (.ref b46), .val (.int gg), .val (.int (vx_ &&& (1 : Int32))), .val (.int c0), .unset, .unset, .unset, .unset, .unset] [(.int (own_up a2 a3 a4 c0))])) _
  have hu72 := own_up_lt ra2 ra3 ra4 rc.2
  refine ownStep (fun _ k => XS.istore X74.here hx rfl (hb hby at_130) rfl (l' := #[.val (.int pa_), .val (.int pb_), .val (.int oa_), .val (.int ob_), .val (.int gr_), .val (.int vx_), .val (.ref b1), .val (.ref b28), .val (.ref b40), .val (.ref b42), .val (.ref b44), .val (.ref b46), .val (.int gg), .val (.int (vx_ &&& (1 : Int32))), .val (.int c0), .val (.int (own_up a2 a3 a4 c0)), .unset, .unset, .unset, .unset]) rfl k) ?_
  refine ownStep (fun _ k => XS.aload X74.here hx rfl (hb hby at_132) rfl rfl k) ?_
  refine ownStep (fun _ k => XS.iload X74.here hx rfl (hb hby at_134) rfl  k) ?_
  show ownGo p.tables e below (T74.setTop (mkF m 136 #[.val (.int pa_), .val (.int pb_), .val (.int oa_), .val (.int ob_), .val (.int gr_), .val (.int vx_), .val (.ref b1), .val (.ref b28), .val (.ref b40), .val (.ref b42), .val (.ref b44), .val (.ref b46), .val (.int gg), .val (.int (vx_ &&& (1 : Int32))), .val (.int c0), .val (.int (own_up a2 a3 a4 c0)), .unset, .unset, .unset, .unset] [(.int (own_up a2 a3 a4 c0)), (.ref b1)])) _
  have Zs78 : n0 ≤ T65.heap.size := Nat.le_trans Z0 KP69.1
  obtain ⟨_, _, ⟨T77, L77, k77, n77⟩, -, X77, ⟨Lc77, hQ77, l77, y77, z77⟩, st77⟩ := Jvm.LawKit.callS X74 hx (y := (⟨"com/example/adept_layout/adeptlayout/layout/NestingChildHoldingPinLaw", "up", "([II)I"⟩ : MethodName)) hown (mvT hZ (hw _ (List.mem_of_getElem? (i := 119) rfl))) (mvT hZ (hw _ (List.mem_of_getElem? (i := 120) rfl))) (mvT hZ (hw _ (List.mem_of_getElem? (i := 121) rfl))) (mvT hZ (hw _ (List.mem_of_getElem? (i := 122) rfl))) (by decide) (backOf (W := 0) (own_up_ l Z a0 hw [] b1 k1 a2 a3 a4 (own_up a2 a3 a4 c0) T65.heap n0 Zs78 Q73 hu72) hZ (hw _ (List.mem_of_getElem? (i := 122) rfl)) (hw _ (List.mem_of_getElem? (i := 121) rfl)) (by decide) (by decide)) (g := (mkF m 136 #[.val (.int pa_), .val (.int pb_), .val (.int oa_), .val (.int ob_), .val (.int gr_), .val (.int vx_), .val (.ref b1), .val (.ref b28), .val (.ref b40), .val (.ref b42), .val (.ref b44), .val (.ref b46), .val (.int gg), .val (.int (vx_ &&& (1 : Int32))), .val (.int c0), .val (.int (own_up a2 a3 a4 c0)), .unset, .unset, .unset, .unset] [(.int (own_up a2 a3 a4 c0)), (.ref b1)])) rfl (by rw [hml]; rfl) (argsL := [(.ref b1), (.int (own_up a2 a3 a4 c0))]) (rest := []) (lenOf own_law_pd1 rfl) rfl (by show 2 * 0 + _ ≤ _; exact Nat.le_of_eq rfl) (hb hby at_136) (fun _ _ => ⟨rfl, R74, (by decide : 23 + 0 ≤ _), (by decide : 141 + 0 ≤ _)⟩)
  dsimp only [Pt.U, Pt.locs, Pt.cells, Pt.slots] at X77 l77 y77 z77 st77 hQ77
  obtain rfl : k77 = 23 := y77
  obtain rfl : n77 = 141 := z77
  obtain ⟨rfl, N77q, R77⟩ := hQ77
  have N77 : Fr n0 L77 := l77 ▸ Fr.app N74 N77q
  refine ownStep (fun _ k => st77 _ k) ?_
  show ownGo p.tables e below (T77.setTop (mkF m 139 #[.val (.int pa_), .val (.int pb_), .val (.int oa_), .val (.int ob_), .val (.int gr_), .val (.int vx_), .val (.ref b1), .val (.ref b28), .val (.ref b40), .val (.ref b42), .val (.ref b44), .val (.ref b46), .val (.int gg), .val (.int (vx_ &&& (1 : Int32))), .val (.int c0), .val (.int (own_up a2 a3 a4 c0)), .unset, .unset, .unset, .unset] [(.int (own_up a2 a3 a4 (own_up a2 a3 a4 c0)))])) _
  have hu76 := own_up_lt ra2 ra3 ra4 hu72
  refine ownStep (fun _ k => XS.istore X77.here hx rfl (hb hby at_139) rfl (l' := #[.val (.int pa_), .val (.int pb_), .val (.int oa_), .val (.int ob_), .val (.int gr_), .val (.int vx_), .val (.ref b1), .val (.ref b28), .val (.ref b40), .val (.ref b42), .val (.ref b44), .val (.ref b46), .val (.int gg), .val (.int (vx_ &&& (1 : Int32))), .val (.int c0), .val (.int (own_up a2 a3 a4 c0)), .val (.int (own_up a2 a3 a4 (own_up a2 a3 a4 c0))), .unset, .unset, .unset]) rfl k) ?_
  refine ownStep (fun _ k => XS.aload X77.here hx rfl (hb hby at_141) rfl rfl k) ?_
  refine ownStep (fun _ k => XS.iload X77.here hx rfl (hb hby at_143) rfl  k) ?_
  show ownGo p.tables e below (T77.setTop (mkF m 145 #[.val (.int pa_), .val (.int pb_), .val (.int oa_), .val (.int ob_), .val (.int gr_), .val (.int vx_), .val (.ref b1), .val (.ref b28), .val (.ref b40), .val (.ref b42), .val (.ref b44), .val (.ref b46), .val (.int gg), .val (.int (vx_ &&& (1 : Int32))), .val (.int c0), .val (.int (own_up a2 a3 a4 c0)), .val (.int (own_up a2 a3 a4 (own_up a2 a3 a4 c0))), .unset, .unset, .unset] [(.int (own_up a2 a3 a4 (own_up a2 a3 a4 c0))), (.ref b1)])) _
  have Zs81 : n0 ≤ T65.heap.size := Nat.le_trans Z0 KP69.1
  obtain ⟨_, _, ⟨T80, L80, k80, n80⟩, -, X80, ⟨Lc80, hQ80, l80, y80, z80⟩, st80⟩ := Jvm.LawKit.callS X77 hx (y := (⟨"com/example/adept_layout/adeptlayout/layout/NestingChildHoldingPinLaw", "up", "([II)I"⟩ : MethodName)) hown (mvT hZ (hw _ (List.mem_of_getElem? (i := 119) rfl))) (mvT hZ (hw _ (List.mem_of_getElem? (i := 120) rfl))) (mvT hZ (hw _ (List.mem_of_getElem? (i := 121) rfl))) (mvT hZ (hw _ (List.mem_of_getElem? (i := 122) rfl))) (by decide) (backOf (W := 0) (own_up_ l Z a0 hw [] b1 k1 a2 a3 a4 (own_up a2 a3 a4 (own_up a2 a3 a4 c0)) T65.heap n0 Zs81 Q73 hu76) hZ (hw _ (List.mem_of_getElem? (i := 122) rfl)) (hw _ (List.mem_of_getElem? (i := 121) rfl)) (by decide) (by decide)) (g := (mkF m 145 #[.val (.int pa_), .val (.int pb_), .val (.int oa_), .val (.int ob_), .val (.int gr_), .val (.int vx_), .val (.ref b1), .val (.ref b28), .val (.ref b40), .val (.ref b42), .val (.ref b44), .val (.ref b46), .val (.int gg), .val (.int (vx_ &&& (1 : Int32))), .val (.int c0), .val (.int (own_up a2 a3 a4 c0)), .val (.int (own_up a2 a3 a4 (own_up a2 a3 a4 c0))), .unset, .unset, .unset] [(.int (own_up a2 a3 a4 (own_up a2 a3 a4 c0))), (.ref b1)])) rfl (by rw [hml]; rfl) (argsL := [(.ref b1), (.int (own_up a2 a3 a4 (own_up a2 a3 a4 c0)))]) (rest := []) (lenOf own_law_pd1 rfl) rfl (by show 2 * 0 + _ ≤ _; exact Nat.le_of_eq rfl) (hb hby at_145) (fun _ _ => ⟨rfl, R77, (by decide : 23 + 0 ≤ _), (by decide : 141 + 0 ≤ _)⟩)
  dsimp only [Pt.U, Pt.locs, Pt.cells, Pt.slots] at X80 l80 y80 z80 st80 hQ80
  obtain rfl : k80 = 23 := y80
  obtain rfl : n80 = 141 := z80
  obtain ⟨rfl, N80q, R80⟩ := hQ80
  have N80 : Fr n0 L80 := l80 ▸ Fr.app N77 N80q
  refine ownStep (fun _ k => st80 _ k) ?_
  show ownGo p.tables e below (T80.setTop (mkF m 148 #[.val (.int pa_), .val (.int pb_), .val (.int oa_), .val (.int ob_), .val (.int gr_), .val (.int vx_), .val (.ref b1), .val (.ref b28), .val (.ref b40), .val (.ref b42), .val (.ref b44), .val (.ref b46), .val (.int gg), .val (.int (vx_ &&& (1 : Int32))), .val (.int c0), .val (.int (own_up a2 a3 a4 c0)), .val (.int (own_up a2 a3 a4 (own_up a2 a3 a4 c0))), .unset, .unset, .unset] [(.int (own_up a2 a3 a4 (own_up a2 a3 a4 (own_up a2 a3 a4 c0))))])) _
  have hu79 := own_up_lt ra2 ra3 ra4 hu76
  refine ownStep (fun _ k => XS.istore X80.here hx rfl (hb hby at_148) rfl (l' := #[.val (.int pa_), .val (.int pb_), .val (.int oa_), .val (.int ob_), .val (.int gr_), .val (.int vx_), .val (.ref b1), .val (.ref b28), .val (.ref b40), .val (.ref b42), .val (.ref b44), .val (.ref b46), .val (.int gg), .val (.int (vx_ &&& (1 : Int32))), .val (.int c0), .val (.int (own_up a2 a3 a4 c0)), .val (.int (own_up a2 a3 a4 (own_up a2 a3 a4 c0))), .val (.int (own_up a2 a3 a4 (own_up a2 a3 a4 (own_up a2 a3 a4 c0)))), .unset, .unset]) rfl k) ?_
  refine ownStep (fun _ k => XS.aload X80.here hx rfl (hb hby at_150) rfl rfl k) ?_
  refine ownStep (fun _ k => XS.iload X80.here hx rfl (hb hby at_152) rfl  k) ?_
  show ownGo p.tables e below (T80.setTop (mkF m 154 #[.val (.int pa_), .val (.int pb_), .val (.int oa_), .val (.int ob_), .val (.int gr_), .val (.int vx_), .val (.ref b1), .val (.ref b28), .val (.ref b40), .val (.ref b42), .val (.ref b44), .val (.ref b46), .val (.int gg), .val (.int (vx_ &&& (1 : Int32))), .val (.int c0), .val (.int (own_up a2 a3 a4 c0)), .val (.int (own_up a2 a3 a4 (own_up a2 a3 a4 c0))), .val (.int (own_up a2 a3 a4 (own_up a2 a3 a4 (own_up a2 a3 a4 c0)))), .unset, .unset] [(.int (own_up a2 a3 a4 (own_up a2 a3 a4 (own_up a2 a3 a4 c0)))), (.ref b1)])) _
  have Zs84 : n0 ≤ T65.heap.size := Nat.le_trans Z0 KP69.1
  obtain ⟨_, _, ⟨T83, L83, k83, n83⟩, -, X83, ⟨Lc83, hQ83, l83, y83, z83⟩, st83⟩ := Jvm.LawKit.callS X80 hx (y := (⟨"com/example/adept_layout/adeptlayout/layout/NestingChildHoldingPinLaw", "up", "([II)I"⟩ : MethodName)) hown (mvT hZ (hw _ (List.mem_of_getElem? (i := 119) rfl))) (mvT hZ (hw _ (List.mem_of_getElem? (i := 120) rfl))) (mvT hZ (hw _ (List.mem_of_getElem? (i := 121) rfl))) (mvT hZ (hw _ (List.mem_of_getElem? (i := 122) rfl))) (by decide) (backOf (W := 0) (own_up_ l Z a0 hw [] b1 k1 a2 a3 a4 (own_up a2 a3 a4 (own_up a2 a3 a4 (own_up a2 a3 a4 c0))) T65.heap n0 Zs84 Q73 hu79) hZ (hw _ (List.mem_of_getElem? (i := 122) rfl)) (hw _ (List.mem_of_getElem? (i := 121) rfl)) (by decide) (by decide)) (g := (mkF m 154 #[.val (.int pa_), .val (.int pb_), .val (.int oa_), .val (.int ob_), .val (.int gr_), .val (.int vx_), .val (.ref b1), .val (.ref b28), .val (.ref b40), .val (.ref b42), .val (.ref b44), .val (.ref b46), .val (.int gg), .val (.int (vx_ &&& (1 : Int32))), .val (.int c0), .val (.int (own_up a2 a3 a4 c0)), .val (.int (own_up a2 a3 a4 (own_up a2 a3 a4 c0))), .val (.int (own_up a2 a3 a4 (own_up a2 a3 a4 (own_up a2 a3 a4 c0)))), .unset, .unset] [(.int (own_up a2 a3 a4 (own_up a2 a3 a4 (own_up a2 a3 a4 c0)))), (.ref b1)])) rfl (by rw [hml]; rfl) (argsL := [(.ref b1), (.int (own_up a2 a3 a4 (own_up a2 a3 a4 (own_up a2 a3 a4 c0))))]) (rest := []) (lenOf own_law_pd1 rfl) rfl (by show 2 * 0 + _ ≤ _; exact Nat.le_of_eq rfl) (hb hby at_154) (fun _ _ => ⟨rfl, R80, (by decide : 23 + 0 ≤ _), (by decide : 141 + 0 ≤ _)⟩)
  dsimp only [Pt.U, Pt.locs, Pt.cells, Pt.slots] at X83 l83 y83 z83 st83 hQ83
  obtain rfl : k83 = 23 := y83
  obtain rfl : n83 = 141 := z83
  obtain ⟨rfl, N83q, R83⟩ := hQ83
  have N83 : Fr n0 L83 := l83 ▸ Fr.app N80 N83q
  refine ownStep (fun _ k => st83 _ k) ?_
  show ownGo p.tables e below (T83.setTop (mkF m 157 #[.val (.int pa_), .val (.int pb_), .val (.int oa_), .val (.int ob_), .val (.int gr_), .val (.int vx_), .val (.ref b1), .val (.ref b28), .val (.ref b40), .val (.ref b42), .val (.ref b44), .val (.ref b46), .val (.int gg), .val (.int (vx_ &&& (1 : Int32))), .val (.int c0), .val (.int (own_up a2 a3 a4 c0)), .val (.int (own_up a2 a3 a4 (own_up a2 a3 a4 c0))), .val (.int (own_up a2 a3 a4 (own_up a2 a3 a4 (own_up a2 a3 a4 c0)))), .unset, .unset] [(.int (own_up a2 a3 a4 (own_up a2 a3 a4 (own_up a2 a3 a4 (own_up a2 a3 a4 c0)))))])) _
  have hu82 := own_up_lt ra2 ra3 ra4 hu79
  refine ownStep (fun _ k => XS.istore X83.here hx rfl (hb hby at_157) rfl (l' := #[.val (.int pa_), .val (.int pb_), .val (.int oa_), .val (.int ob_), .val (.int gr_), .val (.int vx_), .val (.ref b1), .val (.ref b28), .val (.ref b40), .val (.ref b42), .val (.ref b44), .val (.ref b46), .val (.int gg), .val (.int (vx_ &&& (1 : Int32))), .val (.int c0), .val (.int (own_up a2 a3 a4 c0)), .val (.int (own_up a2 a3 a4 (own_up a2 a3 a4 c0))), .val (.int (own_up a2 a3 a4 (own_up a2 a3 a4 (own_up a2 a3 a4 c0)))), .val (.int (own_up a2 a3 a4 (own_up a2 a3 a4 (own_up a2 a3 a4 (own_up a2 a3 a4 c0))))), .unset]) rfl k) ?_
  refine ownStep (fun _ k => XS.iload X83.here hx rfl (hb hby at_159) rfl  k) ?_
  refine ownStep (fun _ k => XS.iload X83.here hx rfl (hb hby at_161) rfl  k) ?_
  show ownGo p.tables e below (T83.setTop (mkF m 163 #[.val (.int pa_), .val (.int pb_), .val (.int oa_), .val (.int ob_), .val (.int gr_), .val (.int vx_), .val (.ref b1), .val (.ref b28), .val (.ref b40), .val (.ref b42), .val (.ref b44), .val (.ref b46), .val (.int gg), .val (.int (vx_ &&& (1 : Int32))), .val (.int c0), .val (.int (own_up a2 a3 a4 c0)), .val (.int (own_up a2 a3 a4 (own_up a2 a3 a4 c0))), .val (.int (own_up a2 a3 a4 (own_up a2 a3 a4 (own_up a2 a3 a4 c0)))), .val (.int (own_up a2 a3 a4 (own_up a2 a3 a4 (own_up a2 a3 a4 (own_up a2 a3 a4 c0))))), .unset] [(.int gg), (.int c0)])) _
  by_cases he0 : c0 = gg
  · skip
    refine ownStep (fun _ k => XS.icmpNo X83.here hx rfl (hb hby at_163) rfl (teq (he0 : c0 = gg)).2 k) ?_
    refine ownStep (fun _ k => XS.iconst X83.here hx rfl (hb hby at_166) k) ?_
    refine ownStep (fun _ k => XS.istore X83.here hx rfl (hb hby at_167) rfl (l' := #[.val (.int pa_), .val (.int pb_), .val (.int oa_), .val (.int ob_), .val (.int gr_), .val (.int vx_), .val (.ref b1), .val (.ref b28), .val (.ref b40), .val (.ref b42), .val (.ref b44), .val (.ref b46), .val (.int gg), .val (.int (vx_ &&& (1 : Int32))), .val (.int c0), .val (.int (own_up a2 a3 a4 c0)), .val (.int (own_up a2 a3 a4 (own_up a2 a3 a4 c0))), .val (.int (own_up a2 a3 a4 (own_up a2 a3 a4 (own_up a2 a3 a4 c0)))), .val (.int (own_up a2 a3 a4 (own_up a2 a3 a4 (own_up a2 a3 a4 (own_up a2 a3 a4 c0))))), .val (.int (-1 : Int32))]) rfl k) ?_
    refine ownStep (fun _ k => XS.goto X83.here hx rfl (pc0 := 169) (pc' := 230) rfl (hb hby at_169) (by decide) (by decide) k) ?_
    refine ownStep (fun _ k => XS.aload X83.here hx rfl (hb hby at_230) rfl rfl k) ?_
    show ownGo p.tables e below (T83.setTop (mkF m 232 #[.val (.int pa_), .val (.int pb_), .val (.int oa_), .val (.int ob_), .val (.int gr_), .val (.int vx_), .val (.ref b1), .val (.ref b28), .val (.ref b40), .val (.ref b42), .val (.ref b44), .val (.ref b46), .val (.int gg), .val (.int (vx_ &&& (1 : Int32))), .val (.int c0), .val (.int (own_up a2 a3 a4 c0)), .val (.int (own_up a2 a3 a4 (own_up a2 a3 a4 c0))), .val (.int (own_up a2 a3 a4 (own_up a2 a3 a4 (own_up a2 a3 a4 c0)))), .val (.int (own_up a2 a3 a4 (own_up a2 a3 a4 (own_up a2 a3 a4 (own_up a2 a3 a4 c0))))), .val (.int (-1 : Int32))] [(.ref b46)])) _
    refine ownStep (fun _ k => XS.iload X83.here hx rfl (hb hby at_232) rfl  k) ?_
    refine ownStep (fun _ k => XS.iload X83.here hx rfl (hb hby at_234) rfl  k) ?_
    show ownGo p.tables e below (T83.setTop (mkF m 236 #[.val (.int pa_), .val (.int pb_), .val (.int oa_), .val (.int ob_), .val (.int gr_), .val (.int vx_), .val (.ref b1), .val (.ref b28), .val (.ref b40), .val (.ref b42), .val (.ref b44), .val (.ref b46), .val (.int gg), .val (.int (vx_ &&& (1 : Int32))), .val (.int c0), .val (.int (own_up a2 a3 a4 c0)), .val (.int (own_up a2 a3 a4 (own_up a2 a3 a4 c0))), .val (.int (own_up a2 a3 a4 (own_up a2 a3 a4 (own_up a2 a3 a4 c0)))), .val (.int (own_up a2 a3 a4 (own_up a2 a3 a4 (own_up a2 a3 a4 (own_up a2 a3 a4 c0))))), .val (.int (-1 : Int32))] [(.int (vx_ &&& (1 : Int32))), (.int gg), (.ref b46)])) _
    have Zs86 : n0 ≤ T65.heap.size := Nat.le_trans Z0 KP69.1
    have Q87 : Exa Z T65.heap b46 "com/example/adept_layout/adeptlayout/layout/Nesting" := (A46.keep R65)
    obtain ⟨cq85, kq85, q85a, q85b, q85c⟩ := isOf hZ R83 Q87
    obtain ⟨_, _, ⟨T85, L85, k85, n85⟩, -, X85, ⟨Lc85, hQ85, l85, y85, z85⟩, st85⟩ := X83.virtualBack hx (y := (⟨"com/example/adept_layout/adeptlayout/layout/Nesting", "childHolding", "(II)I"⟩ : MethodName)) (z := (⟨"com/example/adept_layout/adeptlayout/layout/Nesting", "childHolding", "(II)I"⟩ : MethodName)) hown (mvT hZ (hw _ (List.mem_of_getElem? (i := 123) rfl))) (mvT hZ (hw _ (List.mem_of_getElem? (i := 124) rfl))) (notFace_of_selects (args := #[]) (mvT hZ (hw _ (List.mem_of_getElem? (i := 126) rfl)))) (mvT hZ (hw _ (List.mem_of_getElem? (i := 126) rfl))) (mvT hZ (hw _ (List.mem_of_getElem? (i := 125) rfl))) (by decide) (backOf (W := 0) (own_chh l Z a0 hw [] b46 b28 cl70 b1 k1 a2 a3 a4 (vx_ &&& (1 : Int32)) c0 gg T65.heap n0 Zs86 P67 P68 Q73 Ar70 hin0 hat0 ra2 ra3 ra4 rc.1 rc.2 rg.1 rg.2) hZ (hw _ (List.mem_of_getElem? (i := 127) rfl)) (hw _ (List.mem_of_getElem? (i := 5) rfl)) (by decide) (by decide)) q85a q85c (g := (mkF m 236 #[.val (.int pa_), .val (.int pb_), .val (.int oa_), .val (.int ob_), .val (.int gr_), .val (.int vx_), .val (.ref b1), .val (.ref b28), .val (.ref b40), .val (.ref b42), .val (.ref b44), .val (.ref b46), .val (.int gg), .val (.int (vx_ &&& (1 : Int32))), .val (.int c0), .val (.int (own_up a2 a3 a4 c0)), .val (.int (own_up a2 a3 a4 (own_up a2 a3 a4 c0))), .val (.int (own_up a2 a3 a4 (own_up a2 a3 a4 (own_up a2 a3 a4 c0)))), .val (.int (own_up a2 a3 a4 (own_up a2 a3 a4 (own_up a2 a3 a4 (own_up a2 a3 a4 c0))))), .val (.int (-1 : Int32))] [(.int (vx_ &&& (1 : Int32))), (.int gg), (.ref b46)])) rfl (by rw [hml]; rfl) (Steps.refl _) (argsL := [(.int gg), (.int (vx_ &&& (1 : Int32)))]) (rest := []) (lenOf own_law_pd2 rfl) rfl (by show 2 * 0 + _ ≤ _; exact Nat.le_of_eq rfl) (hb hby at_236) (fun _ _ => ⟨rfl, R83, (by decide : 23 + 0 ≤ _), (by decide : 141 + 0 ≤ _)⟩)
    dsimp only [Pt.U, Pt.locs, Pt.cells, Pt.slots] at X85 l85 y85 z85 st85 hQ85
    obtain rfl : k85 = 23 := y85
    obtain rfl : n85 = 141 := z85
    obtain ⟨rfl, N85q, R85⟩ := hQ85
    have N85 : Fr n0 L85 := l85 ▸ Fr.app N83 N85q
    refine ownStep (fun _ k => st85.trans k) ?_
    refine ownStep (fun _ k => XS.iload X85.here hx rfl (hb hby at_239) rfl  k) ?_
    refine ownStep (fun _ k => XS.icmpNo X85.here hx rfl (hb hby at_241) rfl (teq (((own_says ra2 ra3 ra4 rc.1 rc.2 rg.1 rg.2).trans (by unfold own_exp; rw [if_pos he0])) : (own_ch a2 a3 a4 gg 5 c0) = (-1 : Int32))).2 k) ?_
    refine ownStep (fun _ k => XS.iconst X85.here hx rfl (hb hby at_244) k) ?_
    refine ownStep (fun _ k => XS.goto X85.here hx rfl (pc0 := 245) (pc' := 249) rfl (hb hby at_245) (by decide) (by decide) k) ?_
    show ownGo p.tables e below (T85.setTop (mkF m 249 #[.val (.int pa_), .val (.int pb_), .val (.int oa_), .val (.int ob_), .val (.int gr_), .val (.int vx_), .val (.ref b1), .val (.ref b28), .val (.ref b40), .val (.ref b42), .val (.ref b44), .val (.ref b46), .val (.int gg), .val (.int (vx_ &&& (1 : Int32))), .val (.int c0), .val (.int (own_up a2 a3 a4 c0)), .val (.int (own_up a2 a3 a4 (own_up a2 a3 a4 c0))), .val (.int (own_up a2 a3 a4 (own_up a2 a3 a4 (own_up a2 a3 a4 c0)))), .val (.int (own_up a2 a3 a4 (own_up a2 a3 a4 (own_up a2 a3 a4 (own_up a2 a3 a4 c0))))), .val (.int (-1 : Int32))] [(.int (1 : Int32))])) _
    exact ownRet X85 (v := some (.int (1 : Int32))) Bd.notSynchronized (fun h => by rw [Bd.returns] at h; cases h) (fun _ hr => retN X85 hx (t := .boolean) Bd.returns (by simp) (hb hby at_249) hr) (by rw [R85]; exact ⟨rfl, N85, (own_extOf KP69)⟩) (by decide) (by decide)
  · skip
    refine ownStep (fun _ k => XS.icmpYes X83.here hx rfl (pc0 := 163) (pc' := 172) rfl (hb hby at_163) rfl (feq (he0 : ¬ c0 = gg)).2 (by decide) (by decide) k) ?_
    refine ownStep (fun _ k => XS.iload X83.here hx rfl (hb hby at_172) rfl  k) ?_
    refine ownStep (fun _ k => XS.iload X83.here hx rfl (hb hby at_174) rfl  k) ?_
    show ownGo p.tables e below (T83.setTop (mkF m 176 #[.val (.int pa_), .val (.int pb_), .val (.int oa_), .val (.int ob_), .val (.int gr_), .val (.int vx_), .val (.ref b1), .val (.ref b28), .val (.ref b40), .val (.ref b42), .val (.ref b44), .val (.ref b46), .val (.int gg), .val (.int (vx_ &&& (1 : Int32))), .val (.int c0), .val (.int (own_up a2 a3 a4 c0)), .val (.int (own_up a2 a3 a4 (own_up a2 a3 a4 c0))), .val (.int (own_up a2 a3 a4 (own_up a2 a3 a4 (own_up a2 a3 a4 c0)))), .val (.int (own_up a2 a3 a4 (own_up a2 a3 a4 (own_up a2 a3 a4 (own_up a2 a3 a4 c0))))), .unset] [(.int gg), (.int (own_up a2 a3 a4 c0))])) _
    by_cases he1 : (own_up a2 a3 a4 c0) = gg
    · skip
      refine ownStep (fun _ k => XS.icmpNo X83.here hx rfl (hb hby at_176) rfl (teq (he1 : (own_up a2 a3 a4 c0) = gg)).2 k) ?_
      refine ownStep (fun _ k => XS.iload X83.here hx rfl (hb hby at_179) rfl  k) ?_
      refine ownStep (fun _ k => XS.istore X83.here hx rfl (hb hby at_181) rfl (l' := #[.val (.int pa_), .val (.int pb_), .val (.int oa_), .val (.int ob_), .val (.int gr_), .val (.int vx_), .val (.ref b1), .val (.ref b28), .val (.ref b40), .val (.ref b42), .val (.ref b44), .val (.ref b46), .val (.int gg), .val (.int (vx_ &&& (1 : Int32))), .val (.int c0), .val (.int (own_up a2 a3 a4 c0)), .val (.int (own_up a2 a3 a4 (own_up a2 a3 a4 c0))), .val (.int (own_up a2 a3 a4 (own_up a2 a3 a4 (own_up a2 a3 a4 c0)))), .val (.int (own_up a2 a3 a4 (own_up a2 a3 a4 (own_up a2 a3 a4 (own_up a2 a3 a4 c0))))), .val (.int c0)]) rfl k) ?_
      refine ownStep (fun _ k => XS.goto X83.here hx rfl (pc0 := 183) (pc' := 230) rfl (hb hby at_183) (by decide) (by decide) k) ?_
      refine ownStep (fun _ k => XS.aload X83.here hx rfl (hb hby at_230) rfl rfl k) ?_
      show ownGo p.tables e below (T83.setTop (mkF m 232 #[.val (.int pa_), .val (.int pb_), .val (.int oa_), .val (.int ob_), .val (.int gr_), .val (.int vx_), .val (.ref b1), .val (.ref b28), .val (.ref b40), .val (.ref b42), .val (.ref b44), .val (.ref b46), .val (.int gg), .val (.int (vx_ &&& (1 : Int32))), .val (.int c0), .val (.int (own_up a2 a3 a4 c0)), .val (.int (own_up a2 a3 a4 (own_up a2 a3 a4 c0))), .val (.int (own_up a2 a3 a4 (own_up a2 a3 a4 (own_up a2 a3 a4 c0)))), .val (.int (own_up a2 a3 a4 (own_up a2 a3 a4 (own_up a2 a3 a4 (own_up a2 a3 a4 c0))))), .val (.int c0)] [(.ref b46)])) _
      refine ownStep (fun _ k => XS.iload X83.here hx rfl (hb hby at_232) rfl  k) ?_
      refine ownStep (fun _ k => XS.iload X83.here hx rfl (hb hby at_234) rfl  k) ?_
      show ownGo p.tables e below (T83.setTop (mkF m 236 #[.val (.int pa_), .val (.int pb_), .val (.int oa_), .val (.int ob_), .val (.int gr_), .val (.int vx_), .val (.ref b1), .val (.ref b28), .val (.ref b40), .val (.ref b42), .val (.ref b44), .val (.ref b46), .val (.int gg), .val (.int (vx_ &&& (1 : Int32))), .val (.int c0), .val (.int (own_up a2 a3 a4 c0)), .val (.int (own_up a2 a3 a4 (own_up a2 a3 a4 c0))), .val (.int (own_up a2 a3 a4 (own_up a2 a3 a4 (own_up a2 a3 a4 c0)))), .val (.int (own_up a2 a3 a4 (own_up a2 a3 a4 (own_up a2 a3 a4 (own_up a2 a3 a4 c0))))), .val (.int c0)] [(.int (vx_ &&& (1 : Int32))), (.int gg), (.ref b46)])) _
      have Zs89 : n0 ≤ T65.heap.size := Nat.le_trans Z0 KP69.1
      have Q90 : Exa Z T65.heap b46 "com/example/adept_layout/adeptlayout/layout/Nesting" := (A46.keep R65)
      obtain ⟨cq88, kq88, q88a, q88b, q88c⟩ := isOf hZ R83 Q90
      obtain ⟨_, _, ⟨T88, L88, k88, n88⟩, -, X88, ⟨Lc88, hQ88, l88, y88, z88⟩, st88⟩ := X83.virtualBack hx (y := (⟨"com/example/adept_layout/adeptlayout/layout/Nesting", "childHolding", "(II)I"⟩ : MethodName)) (z := (⟨"com/example/adept_layout/adeptlayout/layout/Nesting", "childHolding", "(II)I"⟩ : MethodName)) hown (mvT hZ (hw _ (List.mem_of_getElem? (i := 123) rfl))) (mvT hZ (hw _ (List.mem_of_getElem? (i := 124) rfl))) (notFace_of_selects (args := #[]) (mvT hZ (hw _ (List.mem_of_getElem? (i := 126) rfl)))) (mvT hZ (hw _ (List.mem_of_getElem? (i := 126) rfl))) (mvT hZ (hw _ (List.mem_of_getElem? (i := 125) rfl))) (by decide) (backOf (W := 0) (own_chh l Z a0 hw [] b46 b28 cl70 b1 k1 a2 a3 a4 (vx_ &&& (1 : Int32)) c0 gg T65.heap n0 Zs89 P67 P68 Q73 Ar70 hin0 hat0 ra2 ra3 ra4 rc.1 rc.2 rg.1 rg.2) hZ (hw _ (List.mem_of_getElem? (i := 127) rfl)) (hw _ (List.mem_of_getElem? (i := 5) rfl)) (by decide) (by decide)) q88a q88c (g := (mkF m 236 #[.val (.int pa_), .val (.int pb_), .val (.int oa_), .val (.int ob_), .val (.int gr_), .val (.int vx_), .val (.ref b1), .val (.ref b28), .val (.ref b40), .val (.ref b42), .val (.ref b44), .val (.ref b46), .val (.int gg), .val (.int (vx_ &&& (1 : Int32))), .val (.int c0), .val (.int (own_up a2 a3 a4 c0)), .val (.int (own_up a2 a3 a4 (own_up a2 a3 a4 c0))), .val (.int (own_up a2 a3 a4 (own_up a2 a3 a4 (own_up a2 a3 a4 c0)))), .val (.int (own_up a2 a3 a4 (own_up a2 a3 a4 (own_up a2 a3 a4 (own_up a2 a3 a4 c0))))), .val (.int c0)] [(.int (vx_ &&& (1 : Int32))), (.int gg), (.ref b46)])) rfl (by rw [hml]; rfl) (Steps.refl _) (argsL := [(.int gg), (.int (vx_ &&& (1 : Int32)))]) (rest := []) (lenOf own_law_pd2 rfl) rfl (by show 2 * 0 + _ ≤ _; exact Nat.le_of_eq rfl) (hb hby at_236) (fun _ _ => ⟨rfl, R83, (by decide : 23 + 0 ≤ _), (by decide : 141 + 0 ≤ _)⟩)
      dsimp only [Pt.U, Pt.locs, Pt.cells, Pt.slots] at X88 l88 y88 z88 st88 hQ88
      obtain rfl : k88 = 23 := y88
      obtain rfl : n88 = 141 := z88
      obtain ⟨rfl, N88q, R88⟩ := hQ88
      have N88 : Fr n0 L88 := l88 ▸ Fr.app N83 N88q
      refine ownStep (fun _ k => st88.trans k) ?_
      refine ownStep (fun _ k => XS.iload X88.here hx rfl (hb hby at_239) rfl  k) ?_
      refine ownStep (fun _ k => XS.icmpNo X88.here hx rfl (hb hby at_241) rfl (teq (((own_says ra2 ra3 ra4 rc.1 rc.2 rg.1 rg.2).trans (by unfold own_exp; rw [if_neg he0, if_pos he1])) : (own_ch a2 a3 a4 gg 5 c0) = c0)).2 k) ?_
      refine ownStep (fun _ k => XS.iconst X88.here hx rfl (hb hby at_244) k) ?_
      refine ownStep (fun _ k => XS.goto X88.here hx rfl (pc0 := 245) (pc' := 249) rfl (hb hby at_245) (by decide) (by decide) k) ?_
      show ownGo p.tables e below (T88.setTop (mkF m 249 #[.val (.int pa_), .val (.int pb_), .val (.int oa_), .val (.int ob_), .val (.int gr_), .val (.int vx_), .val (.ref b1), .val (.ref b28), .val (.ref b40), .val (.ref b42), .val (.ref b44), .val (.ref b46), .val (.int gg), .val (.int (vx_ &&& (1 : Int32))), .val (.int c0), .val (.int (own_up a2 a3 a4 c0)), .val (.int (own_up a2 a3 a4 (own_up a2 a3 a4 c0))), .val (.int (own_up a2 a3 a4 (own_up a2 a3 a4 (own_up a2 a3 a4 c0)))), .val (.int (own_up a2 a3 a4 (own_up a2 a3 a4 (own_up a2 a3 a4 (own_up a2 a3 a4 c0))))), .val (.int c0)] [(.int (1 : Int32))])) _
      exact ownRet X88 (v := some (.int (1 : Int32))) Bd.notSynchronized (fun h => by rw [Bd.returns] at h; cases h) (fun _ hr => retN X88 hx (t := .boolean) Bd.returns (by simp) (hb hby at_249) hr) (by rw [R88]; exact ⟨rfl, N88, (own_extOf KP69)⟩) (by decide) (by decide)
    · skip
      refine ownStep (fun _ k => XS.icmpYes X83.here hx rfl (pc0 := 176) (pc' := 186) rfl (hb hby at_176) rfl (feq (he1 : ¬ (own_up a2 a3 a4 c0) = gg)).2 (by decide) (by decide) k) ?_
      refine ownStep (fun _ k => XS.iload X83.here hx rfl (hb hby at_186) rfl  k) ?_
      refine ownStep (fun _ k => XS.iload X83.here hx rfl (hb hby at_188) rfl  k) ?_
      show ownGo p.tables e below (T83.setTop (mkF m 190 #[.val (.int pa_), .val (.int pb_), .val (.int oa_), .val (.int ob_), .val (.int gr_), .val (.int vx_), .val (.ref b1), .val (.ref b28), .val (.ref b40), .val (.ref b42), .val (.ref b44), .val (.ref b46), .val (.int gg), .val (.int (vx_ &&& (1 : Int32))), .val (.int c0), .val (.int (own_up a2 a3 a4 c0)), .val (.int (own_up a2 a3 a4 (own_up a2 a3 a4 c0))), .val (.int (own_up a2 a3 a4 (own_up a2 a3 a4 (own_up a2 a3 a4 c0)))), .val (.int (own_up a2 a3 a4 (own_up a2 a3 a4 (own_up a2 a3 a4 (own_up a2 a3 a4 c0))))), .unset] [(.int gg), (.int (own_up a2 a3 a4 (own_up a2 a3 a4 c0)))])) _
      by_cases he2 : (own_up a2 a3 a4 (own_up a2 a3 a4 c0)) = gg
      · skip
        refine ownStep (fun _ k => XS.icmpNo X83.here hx rfl (hb hby at_190) rfl (teq (he2 : (own_up a2 a3 a4 (own_up a2 a3 a4 c0)) = gg)).2 k) ?_
        refine ownStep (fun _ k => XS.iload X83.here hx rfl (hb hby at_193) rfl  k) ?_
        refine ownStep (fun _ k => XS.istore X83.here hx rfl (hb hby at_195) rfl (l' := #[.val (.int pa_), .val (.int pb_), .val (.int oa_), .val (.int ob_), .val (.int gr_), .val (.int vx_), .val (.ref b1), .val (.ref b28), .val (.ref b40), .val (.ref b42), .val (.ref b44), .val (.ref b46), .val (.int gg), .val (.int (vx_ &&& (1 : Int32))), .val (.int c0), .val (.int (own_up a2 a3 a4 c0)), .val (.int (own_up a2 a3 a4 (own_up a2 a3 a4 c0))), .val (.int (own_up a2 a3 a4 (own_up a2 a3 a4 (own_up a2 a3 a4 c0)))), .val (.int (own_up a2 a3 a4 (own_up a2 a3 a4 (own_up a2 a3 a4 (own_up a2 a3 a4 c0))))), .val (.int (own_up a2 a3 a4 c0))]) rfl k) ?_
        refine ownStep (fun _ k => XS.goto X83.here hx rfl (pc0 := 197) (pc' := 230) rfl (hb hby at_197) (by decide) (by decide) k) ?_
        refine ownStep (fun _ k => XS.aload X83.here hx rfl (hb hby at_230) rfl rfl k) ?_
        show ownGo p.tables e below (T83.setTop (mkF m 232 #[.val (.int pa_), .val (.int pb_), .val (.int oa_), .val (.int ob_), .val (.int gr_), .val (.int vx_), .val (.ref b1), .val (.ref b28), .val (.ref b40), .val (.ref b42), .val (.ref b44), .val (.ref b46), .val (.int gg), .val (.int (vx_ &&& (1 : Int32))), .val (.int c0), .val (.int (own_up a2 a3 a4 c0)), .val (.int (own_up a2 a3 a4 (own_up a2 a3 a4 c0))), .val (.int (own_up a2 a3 a4 (own_up a2 a3 a4 (own_up a2 a3 a4 c0)))), .val (.int (own_up a2 a3 a4 (own_up a2 a3 a4 (own_up a2 a3 a4 (own_up a2 a3 a4 c0))))), .val (.int (own_up a2 a3 a4 c0))] [(.ref b46)])) _
        refine ownStep (fun _ k => XS.iload X83.here hx rfl (hb hby at_232) rfl  k) ?_
        refine ownStep (fun _ k => XS.iload X83.here hx rfl (hb hby at_234) rfl  k) ?_
        show ownGo p.tables e below (T83.setTop (mkF m 236 #[.val (.int pa_), .val (.int pb_), .val (.int oa_), .val (.int ob_), .val (.int gr_), .val (.int vx_), .val (.ref b1), .val (.ref b28), .val (.ref b40), .val (.ref b42), .val (.ref b44), .val (.ref b46), .val (.int gg), .val (.int (vx_ &&& (1 : Int32))), .val (.int c0), .val (.int (own_up a2 a3 a4 c0)), .val (.int (own_up a2 a3 a4 (own_up a2 a3 a4 c0))), .val (.int (own_up a2 a3 a4 (own_up a2 a3 a4 (own_up a2 a3 a4 c0)))), .val (.int (own_up a2 a3 a4 (own_up a2 a3 a4 (own_up a2 a3 a4 (own_up a2 a3 a4 c0))))), .val (.int (own_up a2 a3 a4 c0))] [(.int (vx_ &&& (1 : Int32))), (.int gg), (.ref b46)])) _
        have Zs92 : n0 ≤ T65.heap.size := Nat.le_trans Z0 KP69.1
        have Q93 : Exa Z T65.heap b46 "com/example/adept_layout/adeptlayout/layout/Nesting" := (A46.keep R65)
        obtain ⟨cq91, kq91, q91a, q91b, q91c⟩ := isOf hZ R83 Q93
        obtain ⟨_, _, ⟨T91, L91, k91, n91⟩, -, X91, ⟨Lc91, hQ91, l91, y91, z91⟩, st91⟩ := X83.virtualBack hx (y := (⟨"com/example/adept_layout/adeptlayout/layout/Nesting", "childHolding", "(II)I"⟩ : MethodName)) (z := (⟨"com/example/adept_layout/adeptlayout/layout/Nesting", "childHolding", "(II)I"⟩ : MethodName)) hown (mvT hZ (hw _ (List.mem_of_getElem? (i := 123) rfl))) (mvT hZ (hw _ (List.mem_of_getElem? (i := 124) rfl))) (notFace_of_selects (args := #[]) (mvT hZ (hw _ (List.mem_of_getElem? (i := 126) rfl)))) (mvT hZ (hw _ (List.mem_of_getElem? (i := 126) rfl))) (mvT hZ (hw _ (List.mem_of_getElem? (i := 125) rfl))) (by decide) (backOf (W := 0) (own_chh l Z a0 hw [] b46 b28 cl70 b1 k1 a2 a3 a4 (vx_ &&& (1 : Int32)) c0 gg T65.heap n0 Zs92 P67 P68 Q73 Ar70 hin0 hat0 ra2 ra3 ra4 rc.1 rc.2 rg.1 rg.2) hZ (hw _ (List.mem_of_getElem? (i := 127) rfl)) (hw _ (List.mem_of_getElem? (i := 5) rfl)) (by decide) (by decide)) q91a q91c (g := (mkF m 236 #[.val (.int pa_), .val (.int pb_), .val (.int oa_), .val (.int ob_), .val (.int gr_), .val (.int vx_), .val (.ref b1), .val (.ref b28), .val (.ref b40), .val (.ref b42), .val (.ref b44), .val (.ref b46), .val (.int gg), .val (.int (vx_ &&& (1 : Int32))), .val (.int c0), .val (.int (own_up a2 a3 a4 c0)), .val (.int (own_up a2 a3 a4 (own_up a2 a3 a4 c0))), .val (.int (own_up a2 a3 a4 (own_up a2 a3 a4 (own_up a2 a3 a4 c0)))), .val (.int (own_up a2 a3 a4 (own_up a2 a3 a4 (own_up a2 a3 a4 (own_up a2 a3 a4 c0))))), .val (.int (own_up a2 a3 a4 c0))] [(.int (vx_ &&& (1 : Int32))), (.int gg), (.ref b46)])) rfl (by rw [hml]; rfl) (Steps.refl _) (argsL := [(.int gg), (.int (vx_ &&& (1 : Int32)))]) (rest := []) (lenOf own_law_pd2 rfl) rfl (by show 2 * 0 + _ ≤ _; exact Nat.le_of_eq rfl) (hb hby at_236) (fun _ _ => ⟨rfl, R83, (by decide : 23 + 0 ≤ _), (by decide : 141 + 0 ≤ _)⟩)
        dsimp only [Pt.U, Pt.locs, Pt.cells, Pt.slots] at X91 l91 y91 z91 st91 hQ91
        obtain rfl : k91 = 23 := y91
        obtain rfl : n91 = 141 := z91
        obtain ⟨rfl, N91q, R91⟩ := hQ91
        have N91 : Fr n0 L91 := l91 ▸ Fr.app N83 N91q
        refine ownStep (fun _ k => st91.trans k) ?_
        refine ownStep (fun _ k => XS.iload X91.here hx rfl (hb hby at_239) rfl  k) ?_
        refine ownStep (fun _ k => XS.icmpNo X91.here hx rfl (hb hby at_241) rfl (teq (((own_says ra2 ra3 ra4 rc.1 rc.2 rg.1 rg.2).trans (by unfold own_exp; rw [if_neg he0, if_neg he1, if_pos he2])) : (own_ch a2 a3 a4 gg 5 c0) = (own_up a2 a3 a4 c0))).2 k) ?_
        refine ownStep (fun _ k => XS.iconst X91.here hx rfl (hb hby at_244) k) ?_
        refine ownStep (fun _ k => XS.goto X91.here hx rfl (pc0 := 245) (pc' := 249) rfl (hb hby at_245) (by decide) (by decide) k) ?_
        show ownGo p.tables e below (T91.setTop (mkF m 249 #[.val (.int pa_), .val (.int pb_), .val (.int oa_), .val (.int ob_), .val (.int gr_), .val (.int vx_), .val (.ref b1), .val (.ref b28), .val (.ref b40), .val (.ref b42), .val (.ref b44), .val (.ref b46), .val (.int gg), .val (.int (vx_ &&& (1 : Int32))), .val (.int c0), .val (.int (own_up a2 a3 a4 c0)), .val (.int (own_up a2 a3 a4 (own_up a2 a3 a4 c0))), .val (.int (own_up a2 a3 a4 (own_up a2 a3 a4 (own_up a2 a3 a4 c0)))), .val (.int (own_up a2 a3 a4 (own_up a2 a3 a4 (own_up a2 a3 a4 (own_up a2 a3 a4 c0))))), .val (.int (own_up a2 a3 a4 c0))] [(.int (1 : Int32))])) _
        exact ownRet X91 (v := some (.int (1 : Int32))) Bd.notSynchronized (fun h => by rw [Bd.returns] at h; cases h) (fun _ hr => retN X91 hx (t := .boolean) Bd.returns (by simp) (hb hby at_249) hr) (by rw [R91]; exact ⟨rfl, N91, (own_extOf KP69)⟩) (by decide) (by decide)
      · skip
        refine ownStep (fun _ k => XS.icmpYes X83.here hx rfl (pc0 := 190) (pc' := 200) rfl (hb hby at_190) rfl (feq (he2 : ¬ (own_up a2 a3 a4 (own_up a2 a3 a4 c0)) = gg)).2 (by decide) (by decide) k) ?_
        refine ownStep (fun _ k => XS.iload X83.here hx rfl (hb hby at_200) rfl  k) ?_
        refine ownStep (fun _ k => XS.iload X83.here hx rfl (hb hby at_202) rfl  k) ?_
        show ownGo p.tables e below (T83.setTop (mkF m 204 #[.val (.int pa_), .val (.int pb_), .val (.int oa_), .val (.int ob_), .val (.int gr_), .val (.int vx_), .val (.ref b1), .val (.ref b28), .val (.ref b40), .val (.ref b42), .val (.ref b44), .val (.ref b46), .val (.int gg), .val (.int (vx_ &&& (1 : Int32))), .val (.int c0), .val (.int (own_up a2 a3 a4 c0)), .val (.int (own_up a2 a3 a4 (own_up a2 a3 a4 c0))), .val (.int (own_up a2 a3 a4 (own_up a2 a3 a4 (own_up a2 a3 a4 c0)))), .val (.int (own_up a2 a3 a4 (own_up a2 a3 a4 (own_up a2 a3 a4 (own_up a2 a3 a4 c0))))), .unset] [(.int gg), (.int (own_up a2 a3 a4 (own_up a2 a3 a4 (own_up a2 a3 a4 c0))))])) _
        by_cases he3 : (own_up a2 a3 a4 (own_up a2 a3 a4 (own_up a2 a3 a4 c0))) = gg
        · skip
          refine ownStep (fun _ k => XS.icmpNo X83.here hx rfl (hb hby at_204) rfl (teq (he3 : (own_up a2 a3 a4 (own_up a2 a3 a4 (own_up a2 a3 a4 c0))) = gg)).2 k) ?_
          refine ownStep (fun _ k => XS.iload X83.here hx rfl (hb hby at_207) rfl  k) ?_
          refine ownStep (fun _ k => XS.istore X83.here hx rfl (hb hby at_209) rfl (l' := #[.val (.int pa_), .val (.int pb_), .val (.int oa_), .val (.int ob_), .val (.int gr_), .val (.int vx_), .val (.ref b1), .val (.ref b28), .val (.ref b40), .val (.ref b42), .val (.ref b44), .val (.ref b46), .val (.int gg), .val (.int (vx_ &&& (1 : Int32))), .val (.int c0), .val (.int (own_up a2 a3 a4 c0)), .val (.int (own_up a2 a3 a4 (own_up a2 a3 a4 c0))), .val (.int (own_up a2 a3 a4 (own_up a2 a3 a4 (own_up a2 a3 a4 c0)))), .val (.int (own_up a2 a3 a4 (own_up a2 a3 a4 (own_up a2 a3 a4 (own_up a2 a3 a4 c0))))), .val (.int (own_up a2 a3 a4 (own_up a2 a3 a4 c0)))]) rfl k) ?_
          refine ownStep (fun _ k => XS.goto X83.here hx rfl (pc0 := 211) (pc' := 230) rfl (hb hby at_211) (by decide) (by decide) k) ?_
          refine ownStep (fun _ k => XS.aload X83.here hx rfl (hb hby at_230) rfl rfl k) ?_
          show ownGo p.tables e below (T83.setTop (mkF m 232 #[.val (.int pa_), .val (.int pb_), .val (.int oa_), .val (.int ob_), .val (.int gr_), .val (.int vx_), .val (.ref b1), .val (.ref b28), .val (.ref b40), .val (.ref b42), .val (.ref b44), .val (.ref b46), .val (.int gg), .val (.int (vx_ &&& (1 : Int32))), .val (.int c0), .val (.int (own_up a2 a3 a4 c0)), .val (.int (own_up a2 a3 a4 (own_up a2 a3 a4 c0))), .val (.int (own_up a2 a3 a4 (own_up a2 a3 a4 (own_up a2 a3 a4 c0)))), .val (.int (own_up a2 a3 a4 (own_up a2 a3 a4 (own_up a2 a3 a4 (own_up a2 a3 a4 c0))))), .val (.int (own_up a2 a3 a4 (own_up a2 a3 a4 c0)))] [(.ref b46)])) _
          refine ownStep (fun _ k => XS.iload X83.here hx rfl (hb hby at_232) rfl  k) ?_
          refine ownStep (fun _ k => XS.iload X83.here hx rfl (hb hby at_234) rfl  k) ?_
          show ownGo p.tables e below (T83.setTop (mkF m 236 #[.val (.int pa_), .val (.int pb_), .val (.int oa_), .val (.int ob_), .val (.int gr_), .val (.int vx_), .val (.ref b1), .val (.ref b28), .val (.ref b40), .val (.ref b42), .val (.ref b44), .val (.ref b46), .val (.int gg), .val (.int (vx_ &&& (1 : Int32))), .val (.int c0), .val (.int (own_up a2 a3 a4 c0)), .val (.int (own_up a2 a3 a4 (own_up a2 a3 a4 c0))), .val (.int (own_up a2 a3 a4 (own_up a2 a3 a4 (own_up a2 a3 a4 c0)))), .val (.int (own_up a2 a3 a4 (own_up a2 a3 a4 (own_up a2 a3 a4 (own_up a2 a3 a4 c0))))), .val (.int (own_up a2 a3 a4 (own_up a2 a3 a4 c0)))] [(.int (vx_ &&& (1 : Int32))), (.int gg), (.ref b46)])) _
          have Zs95 : n0 ≤ T65.heap.size := Nat.le_trans Z0 KP69.1
          have Q96 : Exa Z T65.heap b46 "com/example/adept_layout/adeptlayout/layout/Nesting" := (A46.keep R65)
          obtain ⟨cq94, kq94, q94a, q94b, q94c⟩ := isOf hZ R83 Q96
          obtain ⟨_, _, ⟨T94, L94, k94, n94⟩, -, X94, ⟨Lc94, hQ94, l94, y94, z94⟩, st94⟩ := X83.virtualBack hx (y := (⟨"com/example/adept_layout/adeptlayout/layout/Nesting", "childHolding", "(II)I"⟩ : MethodName)) (z := (⟨"com/example/adept_layout/adeptlayout/layout/Nesting", "childHolding", "(II)I"⟩ : MethodName)) hown (mvT hZ (hw _ (List.mem_of_getElem? (i := 123) rfl))) (mvT hZ (hw _ (List.mem_of_getElem? (i := 124) rfl))) (notFace_of_selects (args := #[]) (mvT hZ (hw _ (List.mem_of_getElem? (i := 126) rfl)))) (mvT hZ (hw _ (List.mem_of_getElem? (i := 126) rfl))) (mvT hZ (hw _ (List.mem_of_getElem? (i := 125) rfl))) (by decide) (backOf (W := 0) (own_chh l Z a0 hw [] b46 b28 cl70 b1 k1 a2 a3 a4 (vx_ &&& (1 : Int32)) c0 gg T65.heap n0 Zs95 P67 P68 Q73 Ar70 hin0 hat0 ra2 ra3 ra4 rc.1 rc.2 rg.1 rg.2) hZ (hw _ (List.mem_of_getElem? (i := 127) rfl)) (hw _ (List.mem_of_getElem? (i := 5) rfl)) (by decide) (by decide)) q94a q94c (g := (mkF m 236 #[.val (.int pa_), .val (.int pb_), .val (.int oa_), .val (.int ob_), .val (.int gr_), .val (.int vx_), .val (.ref b1), .val (.ref b28), .val (.ref b40), .val (.ref b42), .val (.ref b44), .val (.ref b46), .val (.int gg), .val (.int (vx_ &&& (1 : Int32))), .val (.int c0), .val (.int (own_up a2 a3 a4 c0)), .val (.int (own_up a2 a3 a4 (own_up a2 a3 a4 c0))), .val (.int (own_up a2 a3 a4 (own_up a2 a3 a4 (own_up a2 a3 a4 c0)))), .val (.int (own_up a2 a3 a4 (own_up a2 a3 a4 (own_up a2 a3 a4 (own_up a2 a3 a4 c0))))), .val (.int (own_up a2 a3 a4 (own_up a2 a3 a4 c0)))] [(.int (vx_ &&& (1 : Int32))), (.int gg), (.ref b46)])) rfl (by rw [hml]; rfl) (Steps.refl _) (argsL := [(.int gg), (.int (vx_ &&& (1 : Int32)))]) (rest := []) (lenOf own_law_pd2 rfl) rfl (by show 2 * 0 + _ ≤ _; exact Nat.le_of_eq rfl) (hb hby at_236) (fun _ _ => ⟨rfl, R83, (by decide : 23 + 0 ≤ _), (by decide : 141 + 0 ≤ _)⟩)
          dsimp only [Pt.U, Pt.locs, Pt.cells, Pt.slots] at X94 l94 y94 z94 st94 hQ94
          obtain rfl : k94 = 23 := y94
          obtain rfl : n94 = 141 := z94
          obtain ⟨rfl, N94q, R94⟩ := hQ94
          have N94 : Fr n0 L94 := l94 ▸ Fr.app N83 N94q
          refine ownStep (fun _ k => st94.trans k) ?_
          refine ownStep (fun _ k => XS.iload X94.here hx rfl (hb hby at_239) rfl  k) ?_
          refine ownStep (fun _ k => XS.icmpNo X94.here hx rfl (hb hby at_241) rfl (teq (((own_says ra2 ra3 ra4 rc.1 rc.2 rg.1 rg.2).trans (by unfold own_exp; rw [if_neg he0, if_neg he1, if_neg he2, if_pos he3])) : (own_ch a2 a3 a4 gg 5 c0) = (own_up a2 a3 a4 (own_up a2 a3 a4 c0)))).2 k) ?_
          refine ownStep (fun _ k => XS.iconst X94.here hx rfl (hb hby at_244) k) ?_
          refine ownStep (fun _ k => XS.goto X94.here hx rfl (pc0 := 245) (pc' := 249) rfl (hb hby at_245) (by decide) (by decide) k) ?_
          show ownGo p.tables e below (T94.setTop (mkF m 249 #[.val (.int pa_), .val (.int pb_), .val (.int oa_), .val (.int ob_), .val (.int gr_), .val (.int vx_), .val (.ref b1), .val (.ref b28), .val (.ref b40), .val (.ref b42), .val (.ref b44), .val (.ref b46), .val (.int gg), .val (.int (vx_ &&& (1 : Int32))), .val (.int c0), .val (.int (own_up a2 a3 a4 c0)), .val (.int (own_up a2 a3 a4 (own_up a2 a3 a4 c0))), .val (.int (own_up a2 a3 a4 (own_up a2 a3 a4 (own_up a2 a3 a4 c0)))), .val (.int (own_up a2 a3 a4 (own_up a2 a3 a4 (own_up a2 a3 a4 (own_up a2 a3 a4 c0))))), .val (.int (own_up a2 a3 a4 (own_up a2 a3 a4 c0)))] [(.int (1 : Int32))])) _
          exact ownRet X94 (v := some (.int (1 : Int32))) Bd.notSynchronized (fun h => by rw [Bd.returns] at h; cases h) (fun _ hr => retN X94 hx (t := .boolean) Bd.returns (by simp) (hb hby at_249) hr) (by rw [R94]; exact ⟨rfl, N94, (own_extOf KP69)⟩) (by decide) (by decide)
        · skip
          refine ownStep (fun _ k => XS.icmpYes X83.here hx rfl (pc0 := 204) (pc' := 214) rfl (hb hby at_204) rfl (feq (he3 : ¬ (own_up a2 a3 a4 (own_up a2 a3 a4 (own_up a2 a3 a4 c0))) = gg)).2 (by decide) (by decide) k) ?_
          refine ownStep (fun _ k => XS.iload X83.here hx rfl (hb hby at_214) rfl  k) ?_
          refine ownStep (fun _ k => XS.iload X83.here hx rfl (hb hby at_216) rfl  k) ?_
          show ownGo p.tables e below (T83.setTop (mkF m 218 #[.val (.int pa_), .val (.int pb_), .val (.int oa_), .val (.int ob_), .val (.int gr_), .val (.int vx_), .val (.ref b1), .val (.ref b28), .val (.ref b40), .val (.ref b42), .val (.ref b44), .val (.ref b46), .val (.int gg), .val (.int (vx_ &&& (1 : Int32))), .val (.int c0), .val (.int (own_up a2 a3 a4 c0)), .val (.int (own_up a2 a3 a4 (own_up a2 a3 a4 c0))), .val (.int (own_up a2 a3 a4 (own_up a2 a3 a4 (own_up a2 a3 a4 c0)))), .val (.int (own_up a2 a3 a4 (own_up a2 a3 a4 (own_up a2 a3 a4 (own_up a2 a3 a4 c0))))), .unset] [(.int gg), (.int (own_up a2 a3 a4 (own_up a2 a3 a4 (own_up a2 a3 a4 (own_up a2 a3 a4 c0)))))])) _
          by_cases he4 : (own_up a2 a3 a4 (own_up a2 a3 a4 (own_up a2 a3 a4 (own_up a2 a3 a4 c0)))) = gg
          · skip
            refine ownStep (fun _ k => XS.icmpNo X83.here hx rfl (hb hby at_218) rfl (teq (he4 : (own_up a2 a3 a4 (own_up a2 a3 a4 (own_up a2 a3 a4 (own_up a2 a3 a4 c0)))) = gg)).2 k) ?_
            refine ownStep (fun _ k => XS.iload X83.here hx rfl (hb hby at_221) rfl  k) ?_
            refine ownStep (fun _ k => XS.istore X83.here hx rfl (hb hby at_223) rfl (l' := #[.val (.int pa_), .val (.int pb_), .val (.int oa_), .val (.int ob_), .val (.int gr_), .val (.int vx_), .val (.ref b1), .val (.ref b28), .val (.ref b40), .val (.ref b42), .val (.ref b44), .val (.ref b46), .val (.int gg), .val (.int (vx_ &&& (1 : Int32))), .val (.int c0), .val (.int (own_up a2 a3 a4 c0)), .val (.int (own_up a2 a3 a4 (own_up a2 a3 a4 c0))), .val (.int (own_up a2 a3 a4 (own_up a2 a3 a4 (own_up a2 a3 a4 c0)))), .val (.int (own_up a2 a3 a4 (own_up a2 a3 a4 (own_up a2 a3 a4 (own_up a2 a3 a4 c0))))), .val (.int (own_up a2 a3 a4 (own_up a2 a3 a4 (own_up a2 a3 a4 c0))))]) rfl k) ?_
            refine ownStep (fun _ k => XS.goto X83.here hx rfl (pc0 := 225) (pc' := 230) rfl (hb hby at_225) (by decide) (by decide) k) ?_
            refine ownStep (fun _ k => XS.aload X83.here hx rfl (hb hby at_230) rfl rfl k) ?_
            show ownGo p.tables e below (T83.setTop (mkF m 232 #[.val (.int pa_), .val (.int pb_), .val (.int oa_), .val (.int ob_), .val (.int gr_), .val (.int vx_), .val (.ref b1), .val (.ref b28), .val (.ref b40), .val (.ref b42), .val (.ref b44), .val (.ref b46), .val (.int gg), .val (.int (vx_ &&& (1 : Int32))), .val (.int c0), .val (.int (own_up a2 a3 a4 c0)), .val (.int (own_up a2 a3 a4 (own_up a2 a3 a4 c0))), .val (.int (own_up a2 a3 a4 (own_up a2 a3 a4 (own_up a2 a3 a4 c0)))), .val (.int (own_up a2 a3 a4 (own_up a2 a3 a4 (own_up a2 a3 a4 (own_up a2 a3 a4 c0))))), .val (.int (own_up a2 a3 a4 (own_up a2 a3 a4 (own_up a2 a3 a4 c0))))] [(.ref b46)])) _
            refine ownStep (fun _ k => XS.iload X83.here hx rfl (hb hby at_232) rfl  k) ?_
            refine ownStep (fun _ k => XS.iload X83.here hx rfl (hb hby at_234) rfl  k) ?_
            show ownGo p.tables e below (T83.setTop (mkF m 236 #[.val (.int pa_), .val (.int pb_), .val (.int oa_), .val (.int ob_), .val (.int gr_), .val (.int vx_), .val (.ref b1), .val (.ref b28), .val (.ref b40), .val (.ref b42), .val (.ref b44), .val (.ref b46), .val (.int gg), .val (.int (vx_ &&& (1 : Int32))), .val (.int c0), .val (.int (own_up a2 a3 a4 c0)), .val (.int (own_up a2 a3 a4 (own_up a2 a3 a4 c0))), .val (.int (own_up a2 a3 a4 (own_up a2 a3 a4 (own_up a2 a3 a4 c0)))), .val (.int (own_up a2 a3 a4 (own_up a2 a3 a4 (own_up a2 a3 a4 (own_up a2 a3 a4 c0))))), .val (.int (own_up a2 a3 a4 (own_up a2 a3 a4 (own_up a2 a3 a4 c0))))] [(.int (vx_ &&& (1 : Int32))), (.int gg), (.ref b46)])) _
            have Zs98 : n0 ≤ T65.heap.size := Nat.le_trans Z0 KP69.1
            have Q99 : Exa Z T65.heap b46 "com/example/adept_layout/adeptlayout/layout/Nesting" := (A46.keep R65)
            obtain ⟨cq97, kq97, q97a, q97b, q97c⟩ := isOf hZ R83 Q99
            obtain ⟨_, _, ⟨T97, L97, k97, n97⟩, -, X97, ⟨Lc97, hQ97, l97, y97, z97⟩, st97⟩ := X83.virtualBack hx (y := (⟨"com/example/adept_layout/adeptlayout/layout/Nesting", "childHolding", "(II)I"⟩ : MethodName)) (z := (⟨"com/example/adept_layout/adeptlayout/layout/Nesting", "childHolding", "(II)I"⟩ : MethodName)) hown (mvT hZ (hw _ (List.mem_of_getElem? (i := 123) rfl))) (mvT hZ (hw _ (List.mem_of_getElem? (i := 124) rfl))) (notFace_of_selects (args := #[]) (mvT hZ (hw _ (List.mem_of_getElem? (i := 126) rfl)))) (mvT hZ (hw _ (List.mem_of_getElem? (i := 126) rfl))) (mvT hZ (hw _ (List.mem_of_getElem? (i := 125) rfl))) (by decide) (backOf (W := 0) (own_chh l Z a0 hw [] b46 b28 cl70 b1 k1 a2 a3 a4 (vx_ &&& (1 : Int32)) c0 gg T65.heap n0 Zs98 P67 P68 Q73 Ar70 hin0 hat0 ra2 ra3 ra4 rc.1 rc.2 rg.1 rg.2) hZ (hw _ (List.mem_of_getElem? (i := 127) rfl)) (hw _ (List.mem_of_getElem? (i := 5) rfl)) (by decide) (by decide)) q97a q97c (g := (mkF m 236 #[.val (.int pa_), .val (.int pb_), .val (.int oa_), .val (.int ob_), .val (.int gr_), .val (.int vx_), .val (.ref b1), .val (.ref b28), .val (.ref b40), .val (.ref b42), .val (.ref b44), .val (.ref b46), .val (.int gg), .val (.int (vx_ &&& (1 : Int32))), .val (.int c0), .val (.int (own_up a2 a3 a4 c0)), .val (.int (own_up a2 a3 a4 (own_up a2 a3 a4 c0))), .val (.int (own_up a2 a3 a4 (own_up a2 a3 a4 (own_up a2 a3 a4 c0)))), .val (.int (own_up a2 a3 a4 (own_up a2 a3 a4 (own_up a2 a3 a4 (own_up a2 a3 a4 c0))))), .val (.int (own_up a2 a3 a4 (own_up a2 a3 a4 (own_up a2 a3 a4 c0))))] [(.int (vx_ &&& (1 : Int32))), (.int gg), (.ref b46)])) rfl (by rw [hml]; rfl) (Steps.refl _) (argsL := [(.int gg), (.int (vx_ &&& (1 : Int32)))]) (rest := []) (lenOf own_law_pd2 rfl) rfl (by show 2 * 0 + _ ≤ _; exact Nat.le_of_eq rfl) (hb hby at_236) (fun _ _ => ⟨rfl, R83, (by decide : 23 + 0 ≤ _), (by decide : 141 + 0 ≤ _)⟩)
            dsimp only [Pt.U, Pt.locs, Pt.cells, Pt.slots] at X97 l97 y97 z97 st97 hQ97
            obtain rfl : k97 = 23 := y97
            obtain rfl : n97 = 141 := z97
            obtain ⟨rfl, N97q, R97⟩ := hQ97
            have N97 : Fr n0 L97 := l97 ▸ Fr.app N83 N97q
            refine ownStep (fun _ k => st97.trans k) ?_
            refine ownStep (fun _ k => XS.iload X97.here hx rfl (hb hby at_239) rfl  k) ?_
            refine ownStep (fun _ k => XS.icmpNo X97.here hx rfl (hb hby at_241) rfl (teq (((own_says ra2 ra3 ra4 rc.1 rc.2 rg.1 rg.2).trans (by unfold own_exp; rw [if_neg he0, if_neg he1, if_neg he2, if_neg he3, if_pos he4])) : (own_ch a2 a3 a4 gg 5 c0) = (own_up a2 a3 a4 (own_up a2 a3 a4 (own_up a2 a3 a4 c0))))).2 k) ?_
            refine ownStep (fun _ k => XS.iconst X97.here hx rfl (hb hby at_244) k) ?_
            refine ownStep (fun _ k => XS.goto X97.here hx rfl (pc0 := 245) (pc' := 249) rfl (hb hby at_245) (by decide) (by decide) k) ?_
            show ownGo p.tables e below (T97.setTop (mkF m 249 #[.val (.int pa_), .val (.int pb_), .val (.int oa_), .val (.int ob_), .val (.int gr_), .val (.int vx_), .val (.ref b1), .val (.ref b28), .val (.ref b40), .val (.ref b42), .val (.ref b44), .val (.ref b46), .val (.int gg), .val (.int (vx_ &&& (1 : Int32))), .val (.int c0), .val (.int (own_up a2 a3 a4 c0)), .val (.int (own_up a2 a3 a4 (own_up a2 a3 a4 c0))), .val (.int (own_up a2 a3 a4 (own_up a2 a3 a4 (own_up a2 a3 a4 c0)))), .val (.int (own_up a2 a3 a4 (own_up a2 a3 a4 (own_up a2 a3 a4 (own_up a2 a3 a4 c0))))), .val (.int (own_up a2 a3 a4 (own_up a2 a3 a4 (own_up a2 a3 a4 c0))))] [(.int (1 : Int32))])) _
            exact ownRet X97 (v := some (.int (1 : Int32))) Bd.notSynchronized (fun h => by rw [Bd.returns] at h; cases h) (fun _ hr => retN X97 hx (t := .boolean) Bd.returns (by simp) (hb hby at_249) hr) (by rw [R97]; exact ⟨rfl, N97, (own_extOf KP69)⟩) (by decide) (by decide)
          · skip
            refine ownStep (fun _ k => XS.icmpYes X83.here hx rfl (pc0 := 218) (pc' := 228) rfl (hb hby at_218) rfl (feq (he4 : ¬ (own_up a2 a3 a4 (own_up a2 a3 a4 (own_up a2 a3 a4 (own_up a2 a3 a4 c0)))) = gg)).2 (by decide) (by decide) k) ?_
            refine ownStep (fun _ k => XS.iconst X83.here hx rfl (hb hby at_228) k) ?_
            show ownGo p.tables e below (T83.setTop (mkF m 229 #[.val (.int pa_), .val (.int pb_), .val (.int oa_), .val (.int ob_), .val (.int gr_), .val (.int vx_), .val (.ref b1), .val (.ref b28), .val (.ref b40), .val (.ref b42), .val (.ref b44), .val (.ref b46), .val (.int gg), .val (.int (vx_ &&& (1 : Int32))), .val (.int c0), .val (.int (own_up a2 a3 a4 c0)), .val (.int (own_up a2 a3 a4 (own_up a2 a3 a4 c0))), .val (.int (own_up a2 a3 a4 (own_up a2 a3 a4 (own_up a2 a3 a4 c0)))), .val (.int (own_up a2 a3 a4 (own_up a2 a3 a4 (own_up a2 a3 a4 (own_up a2 a3 a4 c0))))), .unset] [(.int (1 : Int32))])) _
            exact ownRet X83 (v := some (.int (1 : Int32))) Bd.notSynchronized (fun h => by rw [Bd.returns] at h; cases h) (fun _ hr => retN X83 hx (t := .boolean) Bd.returns (by simp) (hb hby at_229) hr) (by rw [R83]; exact ⟨rfl, N83, (own_extOf KP69)⟩) (by decide) (by decide)
set_option maxRecDepth 65536 in
set_option maxHeartbeats 40000000 in
theorem comes_1 {Post : Tables → Env → Array Value → State → Outcome → State → Prop} (hpost : ∀ tb e args s v u, (limb_1_1.after args s (.returned v) u = true ∧ limb_1_2.after args s (.returned v) u = true ∧ True) → FrameEnd s (.returned v) u (Jvm.fieldLocs frame_1_writes args s ++ Jvm.arrayLocs frame_1_arrays args s ++ Jvm.staticLocs frame_1_statics s) 48 320 → Post tb e args s (.returned v) u) :
    ArmFor flags0 classFile x code maxLocals ret World_1 tables_1 room_1 Calls_1 rest_1 Pre_1 Post := by
  intro l hfl _ _ p e ha hc hk s m args below hf hA hF happ hP
  obtain ⟨hcalls, hrest, hpre⟩ := hP
  obtain ⟨-, -, -, hnamed, -, -, -, hat⟩ := (Spec.applies_iff hf).mp happ
  obtain ⟨hg, hn⟩ := and_e (Cond.before_iff.mp (show (Jvm.Cond.and given_1 narrow_1).before args s = true from hpre))
  obtain ⟨g1, g2⟩ := and_e hg
  obtain ⟨g3, g4⟩ := and_e g2
  obtain ⟨g5, g6⟩ := and_e g4
  obtain ⟨g7, g8⟩ := and_e g6
  obtain ⟨g9, g10⟩ := and_e g8
  obtain ⟨g11, g12⟩ := and_e g10
  obtain ⟨w0, w1, w2, w3, w4, w5, rfl⟩ : ∃ w0 w1 w2 w3 w4 w5 : Value, args = #[w0, w1, w2, w3, w4, w5] := by
    have hs : args.size = 6 := by simpa [Cond.value, given_1] using g1
    obtain ⟨L⟩ := args
    match L, hs with
    | [w0, w1, w2, w3, w4, w5], _ => exact ⟨w0, w1, w2, w3, w4, w5, rfl⟩
  have hw := fun d (hd : d ∈ tables_1) => atoms_spec (ws := Jvm.Cond.code x code maxLocals ret :: tables_1) hat d (List.mem_cons_of_mem _ hd)
  have hfit : Fit s := fun {y c} hc i hi => by
    obtain ⟨ha, rfl⟩ := Array.getElem?_eq_some_iff.mp hc
    have q := List.all_eq_true.mp ((Array.all_eq_true_iff_forall_mem.mp hF) _ (Array.getElem_mem ha)) i (List.mem_range.mpr hi)
    simpa [Array.getElem?_eq_getElem hi] using q
  obtain ⟨hsets, hown0⟩ := atoms_of _ (rest_1_c_eq ▸ (show rest_1_c.before _ s = true from hrest))
  have hr0 := Cond.before_iff.mp hown0
  obtain ⟨i0, ei0⟩ := is_v g3
  obtain rfl : w0 = (.int i0) := Option.some.inj ei0
  obtain ⟨i1, ei1⟩ := is_v g5
  obtain rfl : w1 = (.int i1) := Option.some.inj ei1
  obtain ⟨i2, ei2⟩ := is_v g7
  obtain rfl : w2 = (.int i2) := Option.some.inj ei2
  obtain ⟨i3, ei3⟩ := is_v g9
  obtain rfl : w3 = (.int i3) := Option.some.inj ei3
  obtain ⟨i4, ei4⟩ := is_v g11
  obtain rfl : w4 = (.int i4) := Option.some.inj ei4
  obtain ⟨i5, ei5⟩ := is_v g12
  obtain rfl : w5 = (.int i5) := Option.some.inj ei5
  obtain ⟨w_ed, ev_ed⟩ := arr_v (Cond.before_iff.mp (hsets _ (List.mem_of_getElem? (i := 6) rfl)))
  have S_ed := Sta.start ev_ed (Or.inr ⟨(hw _ (List.mem_of_getElem? (i := 14) rfl)), (hsets _ (List.mem_of_getElem? (i := 2) rfl))⟩)
  obtain ⟨cl_ed, A_ed⟩ := Arr.start ev_ed (Cond.before_iff.mp (hsets _ (List.mem_of_getElem? (i := 6) rfl)))
  have V_ed := own_arv0 (d := .null) A_ed (own_len0 (own_eqI (Cond.before_iff.mp (hsets _ (List.mem_of_getElem? (i := 8) rfl)))) ev_ed A_ed)
  have S_hi := Sta.start (own_eqI (Cond.before_iff.mp (hsets _ (List.mem_of_getElem? (i := 12) rfl)))) (Or.inl (hsets _ (List.mem_of_getElem? (i := 10) rfl)))
  obtain ⟨w_ca, ev_ca⟩ := arr_v (Cond.before_iff.mp (hsets _ (List.mem_of_getElem? (i := 13) rfl)))
  have S_ca := Sta.start ev_ca (Or.inr ⟨(hw _ (List.mem_of_getElem? (i := 112) rfl)), (hsets _ (List.mem_of_getElem? (i := 11) rfl))⟩)
  obtain ⟨cl_ca, A_ca⟩ := Arr.start ev_ca (Cond.before_iff.mp (hsets _ (List.mem_of_getElem? (i := 13) rfl)))
  have L_ca := own_len0 (own_eqI (Cond.before_iff.mp (hsets _ (List.mem_of_getElem? (i := 15) rfl)))) ev_ca A_ca
  have BX := Bxs.start (val := fun j => .int (j - (128 : Int32))) (fun idx => ev_ca) A_ca L_ca.1 L_ca.2 (by decide) (Cond.before_iff.mp (hsets _ (List.mem_of_getElem? (i := 16) rfl))) (fun X j hj h => eqv_i (own_idxsub hj) h)
  obtain ⟨n, o, h1, h2, h3, _, L, rfl, ⟨rfl, N, hrel⟩, hq⟩ := own_law l s _ hw tables_1 i0 i1 i2 i3 i4 i5 w_ed cl_ed.cls w_ca cl_ca s.heap s.heap.size (Nat.le_refl _) (Old.start s) S_ed V_ed S_hi S_ca BX p e ha hc hk s m _ below hf ((Spec.applies_iff_loose hf).mp happ).1 ⟨rfl, State.Warmed39.refl s, rfl⟩ trivial
  refine ⟨n, _, h1, h2, h3, hpost _ _ _ _ _ _ ⟨Cond.after_iff.mpr rfl, Cond.after_iff.mpr (eq_i res_at (Term.int_eval (1)) rfl), trivial⟩ ⟨hq.1, hq.2.1, (hq.2.2.sift fun y hy => Or.inr (N y hy)).mono (by decide) (by decide)⟩⟩
theorem main_1_1 : Claimed_1_1 := comes_1 fun _ _ _ _ _ _ h hF => ⟨h.1, hF⟩
theorem main_1_2 : Claimed_1_2 := comes_1 fun _ _ _ _ _ _ h hF => ⟨h.2.1, hF⟩
end Jvm.Pilot.@@N@@
namespace Jvm.Pilot.@@N@@
open Jvm Jvm.ClassFile Sem Op Lib Jvm.Free Jvm.Stand Jvm.Pilot.@@N@@.Jvm.D
/-! MADE BY PROGRAM (witnessworld.py) out of the Statement's table words and the real class files: 30 classes; the members and pool entries that the words name. The judged class is class 1, her method 2. -/
namespace start1
open Jvm.ClassFile
def u (s : String) : CpInfo := .utf8 (stringToUtf16 s)
/-- a pool by its gaps: so many unusable entries, then the entry; so many at the end -/
def gap : Nat → List CpInfo → List CpInfo
  | 0, r => r
  | n + 1, r => .unusable :: gap n r
def poolList (es : List (Nat × CpInfo)) (last : Nat) : List CpInfo := es.foldr (fun e r => gap e.1 (e.2 :: r)) (gap last [])
def pool (es : List (Nat × CpInfo)) (last : Nat) : Array CpInfo := ⟨poolList es last⟩
def fileOf (pool : Array CpInfo) (this : Nat) (attrs : Array Attribute := #[]) (ms : Array MethodInfo := #[]) (fl : Nat := 33) (sup : Nat := 0) (ifs : Array Nat := #[]) (fds : Array FieldInfo := #[]) : ClassFile where
  minorVersion := 0
  majorVersion := 65
  constantPool := pool
  accessFlags := fl
  thisClass := this
  superClass := sup
  interfaces := ifs
  fields := fds
  methods := ms
  attributes := attrs
def plain (name : String) (sup : Option ClassId) : Class where
  name := name
  kind := .ordinary
  loader := none
  accessFlags := 33
  super := sup
  interfaces := #[]
  cf := none
  fields := #[]
  methods := #[]
  instanceTypes := #[]
  staticTypes := #[]
  resolved := #[]
  callSites := []
  init := .initialized
  statics := none
  mirror := none

def pool0 : Array CpInfo := pool [(5, u "<init>"), (0, u "()V"), (1, .class_ 10), (1, u "java/lang/Object")] 113

def k0c0 : Code := { maxStack := 0, maxLocals := 1, code := object_method_1_code, exceptionTable := #[], attributes := #[] }
def k0m0 : Method := { name := "<init>", desc := "()V", sig := { parameters := [], returnType := none }, accessFlags := 1, code := some k0c0 }
/-- java/lang/Object -/
def k0 : Class := { plain "java/lang/Object" none with
  accessFlags := 33
  interfaces := #[]
  cf := some (fileOf pool0 8 #[] #[{ accessFlags := 1, nameIndex := 5, descriptorIndex := 6, attributes := #[] }] 33 0 #[] #[])
  fields := #[]
  methods := #[k0m0]
  instanceTypes := #[]
  staticTypes := #[]
  resolved := Array.replicate 124 none
  statics := none }

def pool1 : Array CpInfo := pool [(2, .class_ 4), (1, u "java/lang/Object"), (0, u "<init>"), (0, u "()V"), (0, .integer 2147483647), (0, .class_ 9), (0, u "com/example/adept_layout/adeptlayout/layout/Nesting"), (0, .methodref 8 11), (0, .nameAndType 5 12), (0, u "([I[I[Z[I[II)V"), (0, .methodref 14 15), (0, .class_ 16), (0, .nameAndType 17 18), (0, u "com/example/adept_layout/adeptlayout/layout/NestingChildHoldingPinLaw"), (0, u "up"), (0, u "([II)I"), (0, .methodref 8 20), (0, .nameAndType 21 22), (0, u "childHolding"), (0, u "(II)I"), (3, u "law"), (0, u "(IIIIII)Z")] 6

def k1m0 : Method := { name := "<init>", desc := "()V", sig := { parameters := [], returnType := none }, accessFlags := 1, code := none }
def k1c1 : Code := { maxStack := 2, maxLocals := 2, code := method_2_code, exceptionTable := #[], attributes := #[] }
def k1m1 : Method := { name := "up", desc := "([II)I", sig := { parameters := [(.array .int), .int], returnType := some .int }, accessFlags := 10, code := some k1c1 }
def k1c2 : Code := { maxStack := 8, maxLocals := 20, code := code, exceptionTable := #[], attributes := #[] }
def k1m2 : Method := { name := "law", desc := "(IIIIII)Z", sig := { parameters := [.int, .int, .int, .int, .int, .int], returnType := some .boolean }, accessFlags := 9, code := some k1c2 }
/-- com/example/adept_layout/adeptlayout/layout/NestingChildHoldingPinLaw -/
def k1 : Class := { plain "com/example/adept_layout/adeptlayout/layout/NestingChildHoldingPinLaw" (some 0) with
  accessFlags := 49
  interfaces := #[]
  cf := some (fileOf pool1 14 #[] #[{ accessFlags := 1, nameIndex := 5, descriptorIndex := 6, attributes := #[] }, { accessFlags := 10, nameIndex := 17, descriptorIndex := 18, attributes := #[] }, { accessFlags := 9, nameIndex := 26, descriptorIndex := 27, attributes := #[] }] 49 2 #[] #[])
  fields := #[]
  methods := #[k1m0, k1m1, k1m2]
  instanceTypes := #[]
  staticTypes := #[]
  resolved := Array.replicate 34 none
  statics := none }

def pool2 : Array CpInfo := pool [(1, .methodref 2 3), (0, .class_ 4), (0, .nameAndType 5 6), (0, u "java/lang/Object"), (0, u "<init>"), (0, u "()V"), (0, .class_ 8), (0, u "java/util/ArrayList"), (0, .methodref 7 3), (0, .fieldref 11 12), (0, .class_ 13), (0, .nameAndType 14 15), (0, u "com/example/adept_layout/adeptlayout/layout/Nesting"), (0, u "children"), (0, u "Ljava/util/List;"), (0, .fieldref 11 17), (0, .nameAndType 18 19), (0, u "owner"), (0, u "[I"), (0, .fieldref 11 21), (0, .nameAndType 22 19), (0, u "parent"), (0, .fieldref 11 24), (0, .nameAndType 25 26), (0, u "lane"), (0, u "[Z"), (0, .fieldref 11 28), (0, .nameAndType 29 19), (0, u "listedSide"), (0, .fieldref 11 31), (0, .nameAndType 32 19), (0, u "first"), (0, .fieldref 11 34), (0, .nameAndType 35 19), (0, u "last"), (0, .interfaceMethodref 37 38), (0, .class_ 39), (0, .nameAndType 40 41), (0, u "java/util/List"), (0, u "add"), (0, u "(Ljava/lang/Object;)Z"), (0, .interfaceMethodref 37 43), (0, .nameAndType 44 45), (0, u "get"), (0, u "(I)Ljava/lang/Object;"), (0, .methodref 47 48), (0, .class_ 49), (0, .nameAndType 50 51), (0, u "java/lang/Integer"), (0, u "valueOf"), (0, u "(I)Ljava/lang/Integer;"), (0, .methodref 53 54), (0, .class_ 55), (0, .nameAndType 56 57), (0, u "java/lang/Math"), (0, u "min"), (0, u "(II)I"), (0, .methodref 53 59), (0, .nameAndType 60 57), (0, u "max"), (2, u "([I[I[Z[I[II)V"), (39, u "childHolding")] 7

def k2c0 : Code := { maxStack := 5, maxLocals := 8, code := prog_15_method_1_code, exceptionTable := #[], attributes := #[] }
def k2m0 : Method := { name := "<init>", desc := "([I[I[Z[I[II)V", sig := { parameters := [(.array .int), (.array .int), (.array .boolean), (.array .int), (.array .int), .int], returnType := none }, accessFlags := 0, code := some k2c0 }
def k2c1 : Code := { maxStack := 2, maxLocals := 4, code := prog_15_method_15_code, exceptionTable := #[], attributes := #[] }
def k2m1 : Method := { name := "childHolding", desc := "(II)I", sig := { parameters := [.int, .int], returnType := some .int }, accessFlags := 0, code := some k2c1 }
/-- com/example/adept_layout/adeptlayout/layout/Nesting -/
def k2 : Class := { plain "com/example/adept_layout/adeptlayout/layout/Nesting" (some 0) with
  accessFlags := 48
  interfaces := #[]
  cf := some (fileOf pool2 11 #[] #[{ accessFlags := 0, nameIndex := 5, descriptorIndex := 63, attributes := #[] }, { accessFlags := 0, nameIndex := 103, descriptorIndex := 57, attributes := #[] }] 48 2 #[] #[{ accessFlags := 18, nameIndex := 18, descriptorIndex := 19, attributes := #[] }, { accessFlags := 18, nameIndex := 22, descriptorIndex := 19, attributes := #[] }, { accessFlags := 18, nameIndex := 25, descriptorIndex := 26, attributes := #[] }, { accessFlags := 18, nameIndex := 29, descriptorIndex := 19, attributes := #[] }, { accessFlags := 18, nameIndex := 32, descriptorIndex := 19, attributes := #[] }, { accessFlags := 18, nameIndex := 35, descriptorIndex := 19, attributes := #[] }, { accessFlags := 18, nameIndex := 14, descriptorIndex := 15, attributes := #[] }])
  fields := #[{ name := "owner", type := (.array .int), accessFlags := 18, slot := 0, constantValue := 0 }, { name := "parent", type := (.array .int), accessFlags := 18, slot := 1, constantValue := 0 }, { name := "lane", type := (.array .boolean), accessFlags := 18, slot := 2, constantValue := 0 }, { name := "listedSide", type := (.array .int), accessFlags := 18, slot := 3, constantValue := 0 }, { name := "first", type := (.array .int), accessFlags := 18, slot := 4, constantValue := 0 }, { name := "last", type := (.array .int), accessFlags := 18, slot := 5, constantValue := 0 }, { name := "children", type := (.object "java/util/List"), accessFlags := 18, slot := 6, constantValue := 0 }]
  methods := #[k2m0, k2m1]
  instanceTypes := #[(.array .int), (.array .int), (.array .boolean), (.array .int), (.array .int), (.array .int), (.object "java/util/List")]
  staticTypes := #[]
  resolved := Array.replicate 111 none
  statics := none }

def pool3 : Array CpInfo := pool [(8, .class_ 10), (1, u "java/lang/Iterable"), (24, .class_ 36), (0, u "java/lang/Object")] 25

/-- java/lang/Iterable -/
def k3 : Class := { plain "java/lang/Iterable" (some 0) with
  accessFlags := 1537
  interfaces := #[]
  cf := some (fileOf pool3 8 #[] #[] 1537 35 #[] #[])
  fields := #[]
  methods := #[]
  instanceTypes := #[]
  staticTypes := #[]
  resolved := Array.replicate 62 none
  statics := none }

def pool4 : Array CpInfo := pool [(10, .class_ 12), (1, u "java/util/Collection"), (47, .class_ 61), (0, u "java/lang/Object"), (0, .class_ 63), (0, u "java/lang/Iterable")] 51

/-- java/util/Collection -/
def k4 : Class := { plain "java/util/Collection" (some 0) with
  accessFlags := 1537
  interfaces := #[3]
  cf := some (fileOf pool4 10 #[] #[] 1537 60 #[62] #[])
  fields := #[]
  methods := #[]
  instanceTypes := #[]
  staticTypes := #[]
  resolved := Array.replicate 115 none
  statics := none }

def pool5 : Array CpInfo := pool [(1, .methodref 2 3), (0, .class_ 4), (0, .nameAndType 5 6), (0, u "java/lang/Object"), (0, u "<init>"), (0, u "()V"), (1, .class_ 10), (1, u "java/util/AbstractCollection"), (66, .class_ 78), (0, u "java/util/Collection")] 81

def k5c0 : Code := { maxStack := 1, maxLocals := 1, code := jdk_22_method_1_code, exceptionTable := #[], attributes := #[] }
def k5m0 : Method := { name := "<init>", desc := "()V", sig := { parameters := [], returnType := none }, accessFlags := 4, code := some k5c0 }
/-- java/util/AbstractCollection -/
def k5 : Class := { plain "java/util/AbstractCollection" (some 0) with
  accessFlags := 1057
  interfaces := #[4]
  cf := some (fileOf pool5 8 #[] #[{ accessFlags := 4, nameIndex := 5, descriptorIndex := 6, attributes := #[] }] 1057 2 #[77] #[])
  fields := #[]
  methods := #[k5m0]
  instanceTypes := #[]
  staticTypes := #[]
  resolved := Array.replicate 160 none
  statics := none }

def pool6 : Array CpInfo := pool [(8, .class_ 10), (1, u "java/util/SequencedCollection"), (15, .class_ 27), (0, u "java/lang/Object"), (0, .class_ 29), (0, u "java/util/Collection")] 27

/-- java/util/SequencedCollection -/
def k6 : Class := { plain "java/util/SequencedCollection" (some 0) with
  accessFlags := 1537
  interfaces := #[4]
  cf := some (fileOf pool6 8 #[] #[] 1537 26 #[28] #[])
  fields := #[]
  methods := #[]
  instanceTypes := #[]
  staticTypes := #[]
  resolved := Array.replicate 57 none
  statics := none }

def pool7 : Array CpInfo := pool [(8, .class_ 10), (1, u "java/util/List"), (49, u "add"), (3, u "(Ljava/lang/Object;)Z"), (10, u "get"), (0, u "(I)Ljava/lang/Object;"), (26, .class_ 104), (0, u "java/lang/Object"), (15, .class_ 121), (0, u "java/util/SequencedCollection")] 129

def k7m0 : Method := { name := "add", desc := "(Ljava/lang/Object;)Z", sig := { parameters := [(.object "java/lang/Object")], returnType := some .boolean }, accessFlags := 1025, code := none }
def k7m1 : Method := { name := "get", desc := "(I)Ljava/lang/Object;", sig := { parameters := [.int], returnType := some (.object "java/lang/Object") }, accessFlags := 1025, code := none }
/-- java/util/List -/
def k7 : Class := { plain "java/util/List" (some 0) with
  accessFlags := 1537
  interfaces := #[6]
  cf := some (fileOf pool7 8 #[] #[{ accessFlags := 1025, nameIndex := 60, descriptorIndex := 64, attributes := #[] }, { accessFlags := 1025, nameIndex := 75, descriptorIndex := 76, attributes := #[] }] 1537 103 #[120] #[])
  fields := #[]
  methods := #[k7m0, k7m1]
  instanceTypes := #[]
  staticTypes := #[]
  resolved := Array.replicate 251 none
  statics := none }

def pool8 : Array CpInfo := pool [(1, .methodref 2 3), (0, .class_ 4), (0, .nameAndType 5 6), (0, u "java/util/AbstractCollection"), (0, u "<init>"), (0, u "()V"), (0, .fieldref 8 9), (0, .class_ 10), (0, .nameAndType 11 12), (0, u "java/util/AbstractList"), (0, u "modCount"), (0, u "I"), (64, .class_ 78), (0, u "java/util/AbstractList$Itr"), (3, .class_ 83), (0, u "java/util/AbstractList$ListItr"), (9, .class_ 94), (0, u "java/util/AbstractList$RandomAccessSubList"), (3, .class_ 99), (0, u "java/util/AbstractList$SubList"), (33, .class_ 134), (0, u "java/util/List"), (73, .class_ 209), (0, u "java/util/AbstractList$SubList$1"), (0, .class_ 211), (0, u "java/util/AbstractList$RandomAccessSpliterator")] 6

def k8c0 : Code := { maxStack := 2, maxLocals := 1, code := jdk_39_method_1_code, exceptionTable := #[], attributes := #[] }
def k8m0 : Method := { name := "<init>", desc := "()V", sig := { parameters := [], returnType := none }, accessFlags := 4, code := some k8c0 }
/-- java/util/AbstractList -/
def k8 : Class := { plain "java/util/AbstractList" (some 5) with
  accessFlags := 1057
  interfaces := #[7]
  cf := some (fileOf pool8 8 #[.nestMembers #[93, 98, 208, 210, 82, 77]] #[{ accessFlags := 4, nameIndex := 5, descriptorIndex := 6, attributes := #[] }] 1057 2 #[133] #[{ accessFlags := 132, nameIndex := 11, descriptorIndex := 12, attributes := #[] }])
  fields := #[{ name := "modCount", type := .int, accessFlags := 132, slot := 0, constantValue := 0 }]
  methods := #[k8m0]
  instanceTypes := #[.int]
  staticTypes := #[]
  resolved := Array.replicate 218 none
  statics := none }

def pool9 : Array CpInfo := pool [(1, .class_ 2), (0, u "java/util/RandomAccess"), (0, .class_ 4), (0, u "java/lang/Object")] 2

/-- java/util/RandomAccess -/
def k9 : Class := { plain "java/util/RandomAccess" (some 0) with
  accessFlags := 1537
  interfaces := #[]
  cf := some (fileOf pool9 1 #[] #[] 1537 3 #[] #[])
  fields := #[]
  methods := #[]
  instanceTypes := #[]
  staticTypes := #[]
  resolved := Array.replicate 7 none
  statics := none }

def pool10 : Array CpInfo := pool [(1, .class_ 2), (0, u "java/lang/Cloneable"), (0, .class_ 4), (0, u "java/lang/Object")] 2

/-- java/lang/Cloneable -/
def k10 : Class := { plain "java/lang/Cloneable" (some 0) with
  accessFlags := 1537
  interfaces := #[]
  cf := some (fileOf pool10 1 #[] #[] 1537 3 #[] #[])
  fields := #[]
  methods := #[]
  instanceTypes := #[]
  staticTypes := #[]
  resolved := Array.replicate 7 none
  statics := none }

def pool11 : Array CpInfo := pool [(1, .class_ 2), (0, u "java/io/Serializable"), (0, .class_ 4), (0, u "java/lang/Object")] 2

/-- java/io/Serializable -/
def k11 : Class := { plain "java/io/Serializable" (some 0) with
  accessFlags := 1537
  interfaces := #[]
  cf := some (fileOf pool11 1 #[] #[] 1537 3 #[] #[])
  fields := #[]
  methods := #[]
  instanceTypes := #[]
  staticTypes := #[]
  resolved := Array.replicate 7 none
  statics := none }

def pool12 : Array CpInfo := pool [(1, .methodref 2 3), (0, .class_ 4), (0, .nameAndType 5 6), (0, u "java/util/AbstractList"), (0, u "<init>"), (0, u "()V"), (0, .class_ 8), (0, u "java/lang/Object"), (0, .fieldref 10 11), (0, .class_ 12), (0, .nameAndType 13 14), (0, u "java/util/ArrayList"), (0, u "elementData"), (0, u "[Ljava/lang/Object;"), (2, u "EMPTY_ELEMENTDATA"), (21, .fieldref 10 40), (0, .nameAndType 41 14), (0, u "DEFAULTCAPACITY_EMPTY_ELEMENTDATA"), (5, u "()[Ljava/lang/Object;"), (0, .fieldref 10 49), (0, .nameAndType 50 51), (0, u "size"), (0, u "I"), (11, .fieldref 10 64), (0, .nameAndType 65 51), (0, u "modCount"), (3, .methodref 10 70), (0, .nameAndType 71 72), (0, u "grow"), (0, u "(I)[Ljava/lang/Object;"), (6, .methodref 80 81), (0, .class_ 82), (0, .nameAndType 83 84), (0, u "java/lang/Math"), (0, u "max"), (0, u "(II)I"), (11, u "(Ljava/lang/Object;)Z"), (21, .methodref 119 120), (0, .class_ 121), (0, .nameAndType 122 84), (0, u "java/util/Objects"), (0, u "checkIndex"), (0, .methodref 10 124), (0, .nameAndType 13 125), (0, u "(I)Ljava/lang/Object;"), (3, .methodref 10 130), (0, .nameAndType 71 47), (0, .methodref 10 132), (0, .nameAndType 133 134), (0, u "add"), (0, u "(Ljava/lang/Object;[Ljava/lang/Object;I)V"), (13, .class_ 149), (0, u "java/util/List"), (112, .class_ 263), (0, u "java/util/ArrayList$ListItr"), (3, .class_ 268), (0, u "java/util/ArrayList$Itr"), (7, .class_ 277), (0, u "java/util/ArrayList$SubList"), (12, .class_ 291), (0, u "java/util/ArrayList$ArrayListSpliterator"), (37, .class_ 330), (0, u "java/util/RandomAccess"), (0, .class_ 332), (0, u "java/lang/Cloneable"), (0, .class_ 334), (0, u "java/io/Serializable"), (0, u "serialVersionUID"), (0, u "J"), (3, u "DEFAULT_CAPACITY"), (40, u "get"), (118, .class_ 501), (0, u "java/util/ArrayList$SubList$2"), (0, .class_ 503), (0, u "java/util/ArrayList$SubList$1")] 5

def k12c0 : Code := { maxStack := 2, maxLocals := 1, code := jdk_38_method_2_code, exceptionTable := #[], attributes := #[] }
def k12m0 : Method := { name := "<init>", desc := "()V", sig := { parameters := [], returnType := none }, accessFlags := 1, code := some k12c0 }
def k12c1 : Code := { maxStack := 4, maxLocals := 4, code := jdk_38_method_6_code, exceptionTable := #[], attributes := #[] }
def k12m1 : Method := { name := "grow", desc := "(I)[Ljava/lang/Object;", sig := { parameters := [.int], returnType := some (.array (.object "java/lang/Object")) }, accessFlags := 2, code := some k12c1 }
def k12c2 : Code := { maxStack := 3, maxLocals := 1, code := jdk_38_method_7_code, exceptionTable := #[], attributes := #[] }
def k12m2 : Method := { name := "grow", desc := "()[Ljava/lang/Object;", sig := { parameters := [], returnType := some (.array (.object "java/lang/Object")) }, accessFlags := 2, code := some k12c2 }
def k12c3 : Code := { maxStack := 2, maxLocals := 2, code := jdk_38_method_18_code, exceptionTable := #[], attributes := #[] }
def k12m3 : Method := { name := "elementData", desc := "(I)Ljava/lang/Object;", sig := { parameters := [.int], returnType := some (.object "java/lang/Object") }, accessFlags := 0, code := some k12c3 }
def k12c4 : Code := { maxStack := 2, maxLocals := 2, code := jdk_38_method_20_code, exceptionTable := #[], attributes := #[] }
def k12m4 : Method := { name := "get", desc := "(I)Ljava/lang/Object;", sig := { parameters := [.int], returnType := some (.object "java/lang/Object") }, accessFlags := 1, code := some k12c4 }
def k12c5 : Code := { maxStack := 3, maxLocals := 4, code := jdk_38_method_24_code, exceptionTable := #[], attributes := #[] }
def k12m5 : Method := { name := "add", desc := "(Ljava/lang/Object;[Ljava/lang/Object;I)V", sig := { parameters := [(.object "java/lang/Object"), (.array (.object "java/lang/Object")), .int], returnType := none }, accessFlags := 2, code := some k12c5 }
def k12c6 : Code := { maxStack := 4, maxLocals := 2, code := jdk_38_method_25_code, exceptionTable := #[], attributes := #[] }
def k12m6 : Method := { name := "add", desc := "(Ljava/lang/Object;)Z", sig := { parameters := [(.object "java/lang/Object")], returnType := some .boolean }, accessFlags := 1, code := some k12c6 }
/-- java/util/ArrayList -/
def k12 : Class := { plain "java/util/ArrayList" (some 8) with
  accessFlags := 33
  interfaces := #[7, 9, 10, 11]
  cf := some (fileOf pool12 10 #[.nestMembers #[290, 276, 500, 502, 262, 267]] #[{ accessFlags := 1, nameIndex := 5, descriptorIndex := 6, attributes := #[] }, { accessFlags := 2, nameIndex := 71, descriptorIndex := 72, attributes := #[] }, { accessFlags := 2, nameIndex := 71, descriptorIndex := 47, attributes := #[] }, { accessFlags := 0, nameIndex := 13, descriptorIndex := 125, attributes := #[] }, { accessFlags := 1, nameIndex := 381, descriptorIndex := 125, attributes := #[] }, { accessFlags := 2, nameIndex := 133, descriptorIndex := 134, attributes := #[] }, { accessFlags := 1, nameIndex := 133, descriptorIndex := 96, attributes := #[] }] 33 2 #[148, 329, 331, 333] #[{ accessFlags := 26, nameIndex := 335, descriptorIndex := 336, attributes := #[] }, { accessFlags := 26, nameIndex := 340, descriptorIndex := 51, attributes := #[] }, { accessFlags := 26, nameIndex := 17, descriptorIndex := 14, attributes := #[] }, { accessFlags := 26, nameIndex := 41, descriptorIndex := 14, attributes := #[] }, { accessFlags := 128, nameIndex := 13, descriptorIndex := 14, attributes := #[] }, { accessFlags := 2, nameIndex := 50, descriptorIndex := 51, attributes := #[] }])
  fields := #[{ name := "serialVersionUID", type := .long, accessFlags := 26, slot := 0, constantValue := 0 }, { name := "DEFAULT_CAPACITY", type := .int, accessFlags := 26, slot := 1, constantValue := 0 }, { name := "EMPTY_ELEMENTDATA", type := (.array (.object "java/lang/Object")), accessFlags := 26, slot := 2, constantValue := 0 }, { name := "DEFAULTCAPACITY_EMPTY_ELEMENTDATA", type := (.array (.object "java/lang/Object")), accessFlags := 26, slot := 3, constantValue := 0 }, { name := "elementData", type := (.array (.object "java/lang/Object")), accessFlags := 128, slot := 1, constantValue := 0 }, { name := "size", type := .int, accessFlags := 2, slot := 2, constantValue := 0 }]
  methods := #[k12m0, k12m1, k12m2, k12m3, k12m4, k12m5, k12m6]
  instanceTypes := #[.int, (.array (.object "java/lang/Object")), .int]
  staticTypes := #[.long, .int, (.array (.object "java/lang/Object")), (.array (.object "java/lang/Object"))]
  resolved := Array.replicate 509 none
  statics := some 0 }

def pool13 : Array CpInfo := pool [(1, .class_ 2), (0, u "java/lang/Math"), (1, .class_ 6), (1, u "java/lang/Object"), (0, u "<init>"), (0, u "()V"), (89, .class_ 100), (1, u "java/lang/Math$RandomNumberGeneratorHolder"), (71, u "negativeZeroFloatBits"), (0, u "J"), (2, u "negativeZeroDoubleBits"), (21, u "max"), (2, u "min"), (43, u "$assertionsDisabled"), (0, u "Z"), (88, u "(II)I"), (2, u "twoToTheDoubleScaleDown"), (0, u "D"), (4, u "twoToTheDoubleScaleUp"), (9, u "E"), (3, u "PI"), (2, u "TAU"), (2, u "DEGREES_TO_RADIANS"), (0, u "RADIANS_TO_DEGREES")] 94

def k13m0 : Method := { name := "<init>", desc := "()V", sig := { parameters := [], returnType := none }, accessFlags := 2, code := none }
def k13c1 : Code := { maxStack := 2, maxLocals := 2, code := jdk_29_method_65_code, exceptionTable := #[], attributes := #[] }
def k13m1 : Method := { name := "max", desc := "(II)I", sig := { parameters := [.int, .int], returnType := some .int }, accessFlags := 9, code := some k13c1 }
def k13c2 : Code := { maxStack := 2, maxLocals := 2, code := jdk_29_method_69_code, exceptionTable := #[], attributes := #[] }
def k13m2 : Method := { name := "min", desc := "(II)I", sig := { parameters := [.int, .int], returnType := some .int }, accessFlags := 9, code := some k13c2 }
/-- java/lang/Math -/
def k13 : Class := { plain "java/lang/Math" (some 0) with
  accessFlags := 49
  interfaces := #[]
  cf := some (fileOf pool13 1 #[.nestMembers #[98]] #[{ accessFlags := 2, nameIndex := 7, descriptorIndex := 8, attributes := #[] }, { accessFlags := 9, nameIndex := 198, descriptorIndex := 335, attributes := #[] }, { accessFlags := 9, nameIndex := 201, descriptorIndex := 335, attributes := #[] }] 49 4 #[] #[{ accessFlags := 25, nameIndex := 354, descriptorIndex := 339, attributes := #[] }, { accessFlags := 25, nameIndex := 358, descriptorIndex := 339, attributes := #[] }, { accessFlags := 25, nameIndex := 361, descriptorIndex := 339, attributes := #[] }, { accessFlags := 26, nameIndex := 364, descriptorIndex := 339, attributes := #[] }, { accessFlags := 26, nameIndex := 365, descriptorIndex := 339, attributes := #[] }, { accessFlags := 26, nameIndex := 172, descriptorIndex := 173, attributes := #[] }, { accessFlags := 26, nameIndex := 176, descriptorIndex := 173, attributes := #[] }, { accessFlags := 8, nameIndex := 344, descriptorIndex := 339, attributes := #[] }, { accessFlags := 8, nameIndex := 338, descriptorIndex := 339, attributes := #[] }, { accessFlags := 4120, nameIndex := 245, descriptorIndex := 246, attributes := #[] }])
  fields := #[{ name := "E", type := .double, accessFlags := 25, slot := 0, constantValue := 0 }, { name := "PI", type := .double, accessFlags := 25, slot := 1, constantValue := 0 }, { name := "TAU", type := .double, accessFlags := 25, slot := 2, constantValue := 0 }, { name := "DEGREES_TO_RADIANS", type := .double, accessFlags := 26, slot := 3, constantValue := 0 }, { name := "RADIANS_TO_DEGREES", type := .double, accessFlags := 26, slot := 4, constantValue := 0 }, { name := "negativeZeroFloatBits", type := .long, accessFlags := 26, slot := 5, constantValue := 0 }, { name := "negativeZeroDoubleBits", type := .long, accessFlags := 26, slot := 6, constantValue := 0 }, { name := "twoToTheDoubleScaleUp", type := .double, accessFlags := 8, slot := 7, constantValue := 0 }, { name := "twoToTheDoubleScaleDown", type := .double, accessFlags := 8, slot := 8, constantValue := 0 }, { name := "$assertionsDisabled", type := .boolean, accessFlags := 4120, slot := 9, constantValue := 0 }]
  methods := #[k13m0, k13m1, k13m2]
  instanceTypes := #[]
  staticTypes := #[.double, .double, .double, .double, .double, .long, .long, .double, .double, .boolean]
  resolved := Array.replicate 460 none
  statics := none }

def pool14 : Array CpInfo := pool [(2, .class_ 4), (1, u "java/lang/Object"), (0, u "<init>"), (0, u "()V"), (35, .class_ 44), (1, u "java/util/Objects"), (60, .methodref 106 107), (0, .class_ 108), (0, .nameAndType 109 110), (0, u "jdk/internal/util/Preconditions"), (0, u "checkIndex"), (0, u "(IILjava/util/function/BiFunction;)I"), (60, u "(II)I")] 12

def k14m0 : Method := { name := "<init>", desc := "()V", sig := { parameters := [], returnType := none }, accessFlags := 2, code := none }
def k14c1 : Code := { maxStack := 3, maxLocals := 2, code := jdk_31_method_17_code, exceptionTable := #[], attributes := #[] }
def k14m1 : Method := { name := "checkIndex", desc := "(II)I", sig := { parameters := [.int, .int], returnType := some .int }, accessFlags := 9, code := some k14c1 }
/-- java/util/Objects -/
def k14 : Class := { plain "java/util/Objects" (some 0) with
  accessFlags := 49
  interfaces := #[]
  cf := some (fileOf pool14 42 #[] #[{ accessFlags := 2, nameIndex := 5, descriptorIndex := 6, attributes := #[] }, { accessFlags := 9, nameIndex := 109, descriptorIndex := 171, attributes := #[] }] 49 2 #[] #[])
  fields := #[]
  methods := #[k14m0, k14m1]
  instanceTypes := #[]
  staticTypes := #[]
  resolved := Array.replicate 184 none
  statics := none }

def pool15 : Array CpInfo := pool [(2, .class_ 4), (1, u "java/lang/Object"), (0, u "<init>"), (0, u "()V"), (17, .class_ 26), (1, u "jdk/internal/util/Preconditions"), (6, u "checkIndex"), (21, .class_ 56), (0, u "jdk/internal/util/Preconditions$4"), (57, .class_ 115), (0, u "jdk/internal/util/Preconditions$1"), (7, u "SIOOBE_FORMATTER"), (0, u "Ljava/util/function/BiFunction;"), (0, .class_ 126), (0, u "jdk/internal/util/Preconditions$2"), (3, u "AIOOBE_FORMATTER"), (0, .class_ 132), (0, u "jdk/internal/util/Preconditions$3"), (3, u "IOOBE_FORMATTER"), (41, u "(IILjava/util/function/BiFunction;)I")] 15

def k15m0 : Method := { name := "<init>", desc := "()V", sig := { parameters := [], returnType := none }, accessFlags := 1, code := none }
def k15c1 : Code := { maxStack := 3, maxLocals := 3, code := jdk_41_method_11_code, exceptionTable := #[], attributes := #[] }
def k15m1 : Method := { name := "checkIndex", desc := "(IILjava/util/function/BiFunction;)I", sig := { parameters := [.int, .int, (.object "java/util/function/BiFunction")], returnType := some .int }, accessFlags := 9, code := some k15c1 }
/-- jdk/internal/util/Preconditions -/
def k15 : Class := { plain "jdk/internal/util/Preconditions" (some 0) with
  accessFlags := 33
  interfaces := #[]
  cf := some (fileOf pool15 24 #[.nestMembers #[55, 131, 125, 114]] #[{ accessFlags := 1, nameIndex := 5, descriptorIndex := 6, attributes := #[] }, { accessFlags := 9, nameIndex := 33, descriptorIndex := 178, attributes := #[] }] 33 2 #[] #[{ accessFlags := 25, nameIndex := 123, descriptorIndex := 124, attributes := #[] }, { accessFlags := 25, nameIndex := 130, descriptorIndex := 124, attributes := #[] }, { accessFlags := 25, nameIndex := 136, descriptorIndex := 124, attributes := #[] }])
  fields := #[{ name := "SIOOBE_FORMATTER", type := (.object "java/util/function/BiFunction"), accessFlags := 25, slot := 0, constantValue := 0 }, { name := "AIOOBE_FORMATTER", type := (.object "java/util/function/BiFunction"), accessFlags := 25, slot := 1, constantValue := 0 }, { name := "IOOBE_FORMATTER", type := (.object "java/util/function/BiFunction"), accessFlags := 25, slot := 2, constantValue := 0 }]
  methods := #[k15m0, k15m1]
  instanceTypes := #[]
  staticTypes := #[(.object "java/util/function/BiFunction"), (.object "java/util/function/BiFunction"), (.object "java/util/function/BiFunction")]
  resolved := Array.replicate 194 none
  statics := none }

def pool16 : Array CpInfo := pool [(2, .class_ 4), (1, u "java/lang/Object"), (0, u "<init>"), (0, u "()V"), (1, .class_ 10), (1, u "java/lang/Number"), (2, .class_ 14), (0, u "java/io/Serializable"), (0, u "serialVersionUID"), (0, u "J")] 20

def k16m0 : Method := { name := "<init>", desc := "()V", sig := { parameters := [], returnType := none }, accessFlags := 1, code := none }
/-- java/lang/Number -/
def k16 : Class := { plain "java/lang/Number" (some 0) with
  accessFlags := 1057
  interfaces := #[11]
  cf := some (fileOf pool16 8 #[] #[{ accessFlags := 1, nameIndex := 5, descriptorIndex := 6, attributes := #[] }] 1057 2 #[13] #[{ accessFlags := 26, nameIndex := 15, descriptorIndex := 16, attributes := #[] }])
  fields := #[{ name := "serialVersionUID", type := .long, accessFlags := 26, slot := 0, constantValue := 0 }]
  methods := #[k16m0]
  instanceTypes := #[]
  staticTypes := #[.long]
  resolved := Array.replicate 37 none
  statics := none }

def pool17 : Array CpInfo := pool [(1, .class_ 2), (0, u "java/lang/Comparable"), (0, .class_ 4), (0, u "java/lang/Object")] 7

/-- java/lang/Comparable -/
def k17 : Class := { plain "java/lang/Comparable" (some 0) with
  accessFlags := 1537
  interfaces := #[]
  cf := some (fileOf pool17 1 #[] #[] 1537 3 #[] #[])
  fields := #[]
  methods := #[]
  instanceTypes := #[]
  staticTypes := #[]
  resolved := Array.replicate 12 none
  statics := none }

def pool18 : Array CpInfo := pool [(1, .class_ 2), (0, u "java/lang/constant/Constable"), (0, .class_ 4), (0, u "java/lang/Object")] 6

/-- java/lang/constant/Constable -/
def k18 : Class := { plain "java/lang/constant/Constable" (some 0) with
  accessFlags := 1537
  interfaces := #[]
  cf := some (fileOf pool18 1 #[] #[] 1537 3 #[] #[])
  fields := #[]
  methods := #[]
  instanceTypes := #[]
  staticTypes := #[]
  resolved := Array.replicate 11 none
  statics := none }

def pool19 : Array CpInfo := pool [(1, .class_ 2), (0, u "java/lang/constant/ConstantDesc"), (0, .class_ 4), (0, u "java/lang/Object")] 32

/-- java/lang/constant/ConstantDesc -/
def k19 : Class := { plain "java/lang/constant/ConstantDesc" (some 0) with
  accessFlags := 1537
  interfaces := #[]
  cf := some (fileOf pool19 1 #[] #[] 1537 3 #[] #[])
  fields := #[]
  methods := #[]
  instanceTypes := #[]
  staticTypes := #[]
  resolved := Array.replicate 37 none
  statics := none }

def pool20 : Array CpInfo := pool [(1, .class_ 2), (0, u "java/lang/Integer"), (16, u "digits"), (0, u "[C"), (64, u "DigitOnes"), (0, u "[B"), (2, u "DigitTens"), (97, u "valueOf"), (0, u "(I)Ljava/lang/Integer;"), (0, .class_ 190), (0, u "java/lang/Integer$IntegerCache"), (0, .fieldref 189 192), (0, .nameAndType 193 194), (0, u "high"), (0, u "I"), (0, .fieldref 189 196), (0, .nameAndType 197 198), (0, u "cache"), (0, u "[Ljava/lang/Integer;"), (4, .class_ 204), (0, u "java/lang/Number"), (2, u "value"), (94, u "TYPE"), (0, u "Ljava/lang/Class;"), (0, .class_ 305), (0, u "java/lang/Comparable"), (0, .class_ 307), (0, u "java/lang/constant/Constable"), (0, .class_ 309), (0, u "java/lang/constant/ConstantDesc"), (0, u "MIN_VALUE"), (1, u "MAX_VALUE"), (3, u "SIZE"), (1, u "BYTES"), (1, u "serialVersionUID"), (0, u "J")] 131

def k20c0 : Code := { maxStack := 3, maxLocals := 1, code := jdk_33_method_22_code, exceptionTable := #[], attributes := #[] }
def k20m0 : Method := { name := "valueOf", desc := "(I)Ljava/lang/Integer;", sig := { parameters := [.int], returnType := some (.object "java/lang/Integer") }, accessFlags := 9, code := some k20c0 }
/-- java/lang/Integer -/
def k20 : Class := { plain "java/lang/Integer" (some 16) with
  accessFlags := 49
  interfaces := #[17, 18, 19]
  cf := some (fileOf pool20 1 #[.nestMembers #[189]] #[{ accessFlags := 9, nameIndex := 187, descriptorIndex := 188, attributes := #[] }] 49 203 #[304, 306, 308] #[{ accessFlags := 25, nameIndex := 310, descriptorIndex := 194, attributes := #[] }, { accessFlags := 25, nameIndex := 312, descriptorIndex := 194, attributes := #[] }, { accessFlags := 25, nameIndex := 302, descriptorIndex := 303, attributes := #[] }, { accessFlags := 24, nameIndex := 19, descriptorIndex := 20, attributes := #[] }, { accessFlags := 24, nameIndex := 89, descriptorIndex := 86, attributes := #[] }, { accessFlags := 24, nameIndex := 85, descriptorIndex := 86, attributes := #[] }, { accessFlags := 18, nameIndex := 207, descriptorIndex := 194, attributes := #[] }, { accessFlags := 25, nameIndex := 316, descriptorIndex := 194, attributes := #[] }, { accessFlags := 25, nameIndex := 318, descriptorIndex := 194, attributes := #[] }, { accessFlags := 26, nameIndex := 320, descriptorIndex := 321, attributes := #[] }])
  fields := #[{ name := "MIN_VALUE", type := .int, accessFlags := 25, slot := 0, constantValue := 0 }, { name := "MAX_VALUE", type := .int, accessFlags := 25, slot := 1, constantValue := 0 }, { name := "TYPE", type := (.object "java/lang/Class"), accessFlags := 25, slot := 2, constantValue := 0 }, { name := "digits", type := (.array .char), accessFlags := 24, slot := 3, constantValue := 0 }, { name := "DigitTens", type := (.array .byte), accessFlags := 24, slot := 4, constantValue := 0 }, { name := "DigitOnes", type := (.array .byte), accessFlags := 24, slot := 5, constantValue := 0 }, { name := "value", type := .int, accessFlags := 18, slot := 0, constantValue := 0 }, { name := "SIZE", type := .int, accessFlags := 25, slot := 6, constantValue := 0 }, { name := "BYTES", type := .int, accessFlags := 25, slot := 7, constantValue := 0 }, { name := "serialVersionUID", type := .long, accessFlags := 26, slot := 8, constantValue := 0 }]
  methods := #[k20m0]
  instanceTypes := #[.int]
  staticTypes := #[.int, .int, (.object "java/lang/Class"), (.array .char), (.array .byte), (.array .byte), .int, .int, .long]
  resolved := Array.replicate 453 none
  statics := none }

def pool21 : Array CpInfo := pool [(2, .class_ 4), (1, u "java/lang/Object"), (0, u "<init>"), (0, u "()V"), (0, .class_ 8), (0, u "java/lang/Integer"), (7, .class_ 18), (1, u "java/lang/Integer$IntegerCache"), (0, u "$assertionsDisabled"), (0, u "Z"), (26, u "high"), (0, u "I"), (8, u "archivedCache"), (0, u "[Ljava/lang/Integer;"), (12, u "cache"), (0, u "low")] 27

def k21m0 : Method := { name := "<init>", desc := "()V", sig := { parameters := [], returnType := none }, accessFlags := 2, code := none }
/-- java/lang/Integer$IntegerCache -/
def k21 : Class := { plain "java/lang/Integer$IntegerCache" (some 0) with
  accessFlags := 48
  interfaces := #[]
  cf := some (fileOf pool21 16 #[.nestHost 7] #[{ accessFlags := 2, nameIndex := 5, descriptorIndex := 6, attributes := #[] }] 48 2 #[] #[{ accessFlags := 24, nameIndex := 72, descriptorIndex := 48, attributes := #[] }, { accessFlags := 24, nameIndex := 47, descriptorIndex := 48, attributes := #[] }, { accessFlags := 24, nameIndex := 71, descriptorIndex := 58, attributes := #[] }, { accessFlags := 8, nameIndex := 57, descriptorIndex := 58, attributes := #[] }, { accessFlags := 4120, nameIndex := 19, descriptorIndex := 20, attributes := #[] }])
  fields := #[{ name := "low", type := .int, accessFlags := 24, slot := 0, constantValue := 0 }, { name := "high", type := .int, accessFlags := 24, slot := 1, constantValue := 0 }, { name := "cache", type := (.array (.object "java/lang/Integer")), accessFlags := 24, slot := 2, constantValue := 0 }, { name := "archivedCache", type := (.array (.object "java/lang/Integer")), accessFlags := 8, slot := 3, constantValue := 0 }, { name := "$assertionsDisabled", type := .boolean, accessFlags := 4120, slot := 4, constantValue := 0 }]
  methods := #[k21m0]
  instanceTypes := #[]
  staticTypes := #[.int, .int, (.array (.object "java/lang/Integer")), (.array (.object "java/lang/Integer")), .boolean]
  resolved := Array.replicate 100 none
  statics := some 1 }

/-- the primitive boolean -/
def k22 : Class := { plain "boolean" none with kind := .primitive 'Z', accessFlags := 0x411 }
/-- [Z -/
def k23 : Class := { plain "[Z" (some 0) with kind := .array 22 .boolean, interfaces := #[10, 11], accessFlags := 1041 }

/-- the primitive byte -/
def k24 : Class := { plain "byte" none with kind := .primitive 'B', accessFlags := 0x411 }
/-- [B -/
def k25 : Class := { plain "[B" (some 0) with kind := .array 24 .byte, interfaces := #[10, 11], accessFlags := 1041 }

/-- the primitive int -/
def k26 : Class := { plain "int" none with kind := .primitive 'I', accessFlags := 0x411 }
/-- [I -/
def k27 : Class := { plain "[I" (some 0) with kind := .array 26 .int, interfaces := #[10, 11], accessFlags := 1041 }

/-- [Ljava/lang/Integer; -/
def k28 : Class := { plain "[Ljava/lang/Integer;" (some 0) with kind := .array 20 (.object "java/lang/Integer"), interfaces := #[10, 11], accessFlags := 1041 }

/-- [Ljava/lang/Object; -/
def k29 : Class := { plain "[Ljava/lang/Object;" (some 0) with kind := .array 0 (.object "java/lang/Object"), interfaces := #[10, 11], accessFlags := 1041 }

def heap : Heap := #[{ cls := 12, slots := #[.long 0, .int 0, .ref 259, .ref 260], vm := .statics 12 },
  { cls := 21, slots := #[.int 0, .int 127, .ref 2, .null, .int 0], vm := .statics 21 },
  { cls := 28, slots := #[.ref 3, .ref 4, .ref 5, .ref 6, .ref 7, .ref 8, .ref 9, .ref 10, .ref 11, .ref 12, .ref 13, .ref 14, .ref 15, .ref 16, .ref 17, .ref 18, .ref 19, .ref 20, .ref 21, .ref 22, .ref 23, .ref 24, .ref 25, .ref 26, .ref 27, .ref 28, .ref 29, .ref 30, .ref 31, .ref 32, .ref 33, .ref 34, .ref 35, .ref 36, .ref 37, .ref 38, .ref 39, .ref 40, .ref 41, .ref 42, .ref 43, .ref 44, .ref 45, .ref 46, .ref 47, .ref 48, .ref 49, .ref 50, .ref 51, .ref 52, .ref 53, .ref 54, .ref 55, .ref 56, .ref 57, .ref 58, .ref 59, .ref 60, .ref 61, .ref 62, .ref 63, .ref 64, .ref 65, .ref 66, .ref 67, .ref 68, .ref 69, .ref 70, .ref 71, .ref 72, .ref 73, .ref 74, .ref 75, .ref 76, .ref 77, .ref 78, .ref 79, .ref 80, .ref 81, .ref 82, .ref 83, .ref 84, .ref 85, .ref 86, .ref 87, .ref 88, .ref 89, .ref 90, .ref 91, .ref 92, .ref 93, .ref 94, .ref 95, .ref 96, .ref 97, .ref 98, .ref 99, .ref 100, .ref 101, .ref 102, .ref 103, .ref 104, .ref 105, .ref 106, .ref 107, .ref 108, .ref 109, .ref 110, .ref 111, .ref 112, .ref 113, .ref 114, .ref 115, .ref 116, .ref 117, .ref 118, .ref 119, .ref 120, .ref 121, .ref 122, .ref 123, .ref 124, .ref 125, .ref 126, .ref 127, .ref 128, .ref 129, .ref 130, .ref 131, .ref 132, .ref 133, .ref 134, .ref 135, .ref 136, .ref 137, .ref 138, .ref 139, .ref 140, .ref 141, .ref 142, .ref 143, .ref 144, .ref 145, .ref 146, .ref 147, .ref 148, .ref 149, .ref 150, .ref 151, .ref 152, .ref 153, .ref 154, .ref 155, .ref 156, .ref 157, .ref 158, .ref 159, .ref 160, .ref 161, .ref 162, .ref 163, .ref 164, .ref 165, .ref 166, .ref 167, .ref 168, .ref 169, .ref 170, .ref 171, .ref 172, .ref 173, .ref 174, .ref 175, .ref 176, .ref 177, .ref 178, .ref 179, .ref 180, .ref 181, .ref 182, .ref 183, .ref 184, .ref 185, .ref 186, .ref 187, .ref 188, .ref 189, .ref 190, .ref 191, .ref 192, .ref 193, .ref 194, .ref 195, .ref 196, .ref 197, .ref 198, .ref 199, .ref 200, .ref 201, .ref 202, .ref 203, .ref 204, .ref 205, .ref 206, .ref 207, .ref 208, .ref 209, .ref 210, .ref 211, .ref 212, .ref 213, .ref 214, .ref 215, .ref 216, .ref 217, .ref 218, .ref 219, .ref 220, .ref 221, .ref 222, .ref 223, .ref 224, .ref 225, .ref 226, .ref 227, .ref 228, .ref 229, .ref 230, .ref 231, .ref 232, .ref 233, .ref 234, .ref 235, .ref 236, .ref 237, .ref 238, .ref 239, .ref 240, .ref 241, .ref 242, .ref 243, .ref 244, .ref 245, .ref 246, .ref 247, .ref 248, .ref 249, .ref 250, .ref 251, .ref 252, .ref 253, .ref 254, .ref 255, .ref 256, .ref 257, .ref 258], vm := .none },
  { cls := 20, slots := #[.int (-128)], vm := .none },
  { cls := 20, slots := #[.int (-127)], vm := .none },
  { cls := 20, slots := #[.int (-126)], vm := .none },
  { cls := 20, slots := #[.int (-125)], vm := .none },
  { cls := 20, slots := #[.int (-124)], vm := .none },
  { cls := 20, slots := #[.int (-123)], vm := .none },
  { cls := 20, slots := #[.int (-122)], vm := .none },
  { cls := 20, slots := #[.int (-121)], vm := .none },
  { cls := 20, slots := #[.int (-120)], vm := .none },
  { cls := 20, slots := #[.int (-119)], vm := .none },
  { cls := 20, slots := #[.int (-118)], vm := .none },
  { cls := 20, slots := #[.int (-117)], vm := .none },
  { cls := 20, slots := #[.int (-116)], vm := .none },
  { cls := 20, slots := #[.int (-115)], vm := .none },
  { cls := 20, slots := #[.int (-114)], vm := .none },
  { cls := 20, slots := #[.int (-113)], vm := .none },
  { cls := 20, slots := #[.int (-112)], vm := .none },
  { cls := 20, slots := #[.int (-111)], vm := .none },
  { cls := 20, slots := #[.int (-110)], vm := .none },
  { cls := 20, slots := #[.int (-109)], vm := .none },
  { cls := 20, slots := #[.int (-108)], vm := .none },
  { cls := 20, slots := #[.int (-107)], vm := .none },
  { cls := 20, slots := #[.int (-106)], vm := .none },
  { cls := 20, slots := #[.int (-105)], vm := .none },
  { cls := 20, slots := #[.int (-104)], vm := .none },
  { cls := 20, slots := #[.int (-103)], vm := .none },
  { cls := 20, slots := #[.int (-102)], vm := .none },
  { cls := 20, slots := #[.int (-101)], vm := .none },
  { cls := 20, slots := #[.int (-100)], vm := .none },
  { cls := 20, slots := #[.int (-99)], vm := .none },
  { cls := 20, slots := #[.int (-98)], vm := .none },
  { cls := 20, slots := #[.int (-97)], vm := .none },
  { cls := 20, slots := #[.int (-96)], vm := .none },
  { cls := 20, slots := #[.int (-95)], vm := .none },
  { cls := 20, slots := #[.int (-94)], vm := .none },
  { cls := 20, slots := #[.int (-93)], vm := .none },
  { cls := 20, slots := #[.int (-92)], vm := .none },
  { cls := 20, slots := #[.int (-91)], vm := .none },
  { cls := 20, slots := #[.int (-90)], vm := .none },
  { cls := 20, slots := #[.int (-89)], vm := .none },
  { cls := 20, slots := #[.int (-88)], vm := .none },
  { cls := 20, slots := #[.int (-87)], vm := .none },
  { cls := 20, slots := #[.int (-86)], vm := .none },
  { cls := 20, slots := #[.int (-85)], vm := .none },
  { cls := 20, slots := #[.int (-84)], vm := .none },
  { cls := 20, slots := #[.int (-83)], vm := .none },
  { cls := 20, slots := #[.int (-82)], vm := .none },
  { cls := 20, slots := #[.int (-81)], vm := .none },
  { cls := 20, slots := #[.int (-80)], vm := .none },
  { cls := 20, slots := #[.int (-79)], vm := .none },
  { cls := 20, slots := #[.int (-78)], vm := .none },
  { cls := 20, slots := #[.int (-77)], vm := .none },
  { cls := 20, slots := #[.int (-76)], vm := .none },
  { cls := 20, slots := #[.int (-75)], vm := .none },
  { cls := 20, slots := #[.int (-74)], vm := .none },
  { cls := 20, slots := #[.int (-73)], vm := .none },
  { cls := 20, slots := #[.int (-72)], vm := .none },
  { cls := 20, slots := #[.int (-71)], vm := .none },
  { cls := 20, slots := #[.int (-70)], vm := .none },
  { cls := 20, slots := #[.int (-69)], vm := .none },
  { cls := 20, slots := #[.int (-68)], vm := .none },
  { cls := 20, slots := #[.int (-67)], vm := .none },
  { cls := 20, slots := #[.int (-66)], vm := .none },
  { cls := 20, slots := #[.int (-65)], vm := .none },
  { cls := 20, slots := #[.int (-64)], vm := .none },
  { cls := 20, slots := #[.int (-63)], vm := .none },
  { cls := 20, slots := #[.int (-62)], vm := .none },
  { cls := 20, slots := #[.int (-61)], vm := .none },
  { cls := 20, slots := #[.int (-60)], vm := .none },
  { cls := 20, slots := #[.int (-59)], vm := .none },
  { cls := 20, slots := #[.int (-58)], vm := .none },
  { cls := 20, slots := #[.int (-57)], vm := .none },
  { cls := 20, slots := #[.int (-56)], vm := .none },
  { cls := 20, slots := #[.int (-55)], vm := .none },
  { cls := 20, slots := #[.int (-54)], vm := .none },
  { cls := 20, slots := #[.int (-53)], vm := .none },
  { cls := 20, slots := #[.int (-52)], vm := .none },
  { cls := 20, slots := #[.int (-51)], vm := .none },
  { cls := 20, slots := #[.int (-50)], vm := .none },
  { cls := 20, slots := #[.int (-49)], vm := .none },
  { cls := 20, slots := #[.int (-48)], vm := .none },
  { cls := 20, slots := #[.int (-47)], vm := .none },
  { cls := 20, slots := #[.int (-46)], vm := .none },
  { cls := 20, slots := #[.int (-45)], vm := .none },
  { cls := 20, slots := #[.int (-44)], vm := .none },
  { cls := 20, slots := #[.int (-43)], vm := .none },
  { cls := 20, slots := #[.int (-42)], vm := .none },
  { cls := 20, slots := #[.int (-41)], vm := .none },
  { cls := 20, slots := #[.int (-40)], vm := .none },
  { cls := 20, slots := #[.int (-39)], vm := .none },
  { cls := 20, slots := #[.int (-38)], vm := .none },
  { cls := 20, slots := #[.int (-37)], vm := .none },
  { cls := 20, slots := #[.int (-36)], vm := .none },
  { cls := 20, slots := #[.int (-35)], vm := .none },
  { cls := 20, slots := #[.int (-34)], vm := .none },
  { cls := 20, slots := #[.int (-33)], vm := .none },
  { cls := 20, slots := #[.int (-32)], vm := .none },
  { cls := 20, slots := #[.int (-31)], vm := .none },
  { cls := 20, slots := #[.int (-30)], vm := .none },
  { cls := 20, slots := #[.int (-29)], vm := .none },
  { cls := 20, slots := #[.int (-28)], vm := .none },
  { cls := 20, slots := #[.int (-27)], vm := .none },
  { cls := 20, slots := #[.int (-26)], vm := .none },
  { cls := 20, slots := #[.int (-25)], vm := .none },
  { cls := 20, slots := #[.int (-24)], vm := .none },
  { cls := 20, slots := #[.int (-23)], vm := .none },
  { cls := 20, slots := #[.int (-22)], vm := .none },
  { cls := 20, slots := #[.int (-21)], vm := .none },
  { cls := 20, slots := #[.int (-20)], vm := .none },
  { cls := 20, slots := #[.int (-19)], vm := .none },
  { cls := 20, slots := #[.int (-18)], vm := .none },
  { cls := 20, slots := #[.int (-17)], vm := .none },
  { cls := 20, slots := #[.int (-16)], vm := .none },
  { cls := 20, slots := #[.int (-15)], vm := .none },
  { cls := 20, slots := #[.int (-14)], vm := .none },
  { cls := 20, slots := #[.int (-13)], vm := .none },
  { cls := 20, slots := #[.int (-12)], vm := .none },
  { cls := 20, slots := #[.int (-11)], vm := .none },
  { cls := 20, slots := #[.int (-10)], vm := .none },
  { cls := 20, slots := #[.int (-9)], vm := .none },
  { cls := 20, slots := #[.int (-8)], vm := .none },
  { cls := 20, slots := #[.int (-7)], vm := .none },
  { cls := 20, slots := #[.int (-6)], vm := .none },
  { cls := 20, slots := #[.int (-5)], vm := .none },
  { cls := 20, slots := #[.int (-4)], vm := .none },
  { cls := 20, slots := #[.int (-3)], vm := .none },
  { cls := 20, slots := #[.int (-2)], vm := .none },
  { cls := 20, slots := #[.int (-1)], vm := .none },
  { cls := 20, slots := #[.int 0], vm := .none },
  { cls := 20, slots := #[.int 1], vm := .none },
  { cls := 20, slots := #[.int 2], vm := .none },
  { cls := 20, slots := #[.int 3], vm := .none },
  { cls := 20, slots := #[.int 4], vm := .none },
  { cls := 20, slots := #[.int 5], vm := .none },
  { cls := 20, slots := #[.int 6], vm := .none },
  { cls := 20, slots := #[.int 7], vm := .none },
  { cls := 20, slots := #[.int 8], vm := .none },
  { cls := 20, slots := #[.int 9], vm := .none },
  { cls := 20, slots := #[.int 10], vm := .none },
  { cls := 20, slots := #[.int 11], vm := .none },
  { cls := 20, slots := #[.int 12], vm := .none },
  { cls := 20, slots := #[.int 13], vm := .none },
  { cls := 20, slots := #[.int 14], vm := .none },
  { cls := 20, slots := #[.int 15], vm := .none },
  { cls := 20, slots := #[.int 16], vm := .none },
  { cls := 20, slots := #[.int 17], vm := .none },
  { cls := 20, slots := #[.int 18], vm := .none },
  { cls := 20, slots := #[.int 19], vm := .none },
  { cls := 20, slots := #[.int 20], vm := .none },
  { cls := 20, slots := #[.int 21], vm := .none },
  { cls := 20, slots := #[.int 22], vm := .none },
  { cls := 20, slots := #[.int 23], vm := .none },
  { cls := 20, slots := #[.int 24], vm := .none },
  { cls := 20, slots := #[.int 25], vm := .none },
  { cls := 20, slots := #[.int 26], vm := .none },
  { cls := 20, slots := #[.int 27], vm := .none },
  { cls := 20, slots := #[.int 28], vm := .none },
  { cls := 20, slots := #[.int 29], vm := .none },
  { cls := 20, slots := #[.int 30], vm := .none },
  { cls := 20, slots := #[.int 31], vm := .none },
  { cls := 20, slots := #[.int 32], vm := .none },
  { cls := 20, slots := #[.int 33], vm := .none },
  { cls := 20, slots := #[.int 34], vm := .none },
  { cls := 20, slots := #[.int 35], vm := .none },
  { cls := 20, slots := #[.int 36], vm := .none },
  { cls := 20, slots := #[.int 37], vm := .none },
  { cls := 20, slots := #[.int 38], vm := .none },
  { cls := 20, slots := #[.int 39], vm := .none },
  { cls := 20, slots := #[.int 40], vm := .none },
  { cls := 20, slots := #[.int 41], vm := .none },
  { cls := 20, slots := #[.int 42], vm := .none },
  { cls := 20, slots := #[.int 43], vm := .none },
  { cls := 20, slots := #[.int 44], vm := .none },
  { cls := 20, slots := #[.int 45], vm := .none },
  { cls := 20, slots := #[.int 46], vm := .none },
  { cls := 20, slots := #[.int 47], vm := .none },
  { cls := 20, slots := #[.int 48], vm := .none },
  { cls := 20, slots := #[.int 49], vm := .none },
  { cls := 20, slots := #[.int 50], vm := .none },
  { cls := 20, slots := #[.int 51], vm := .none },
  { cls := 20, slots := #[.int 52], vm := .none },
  { cls := 20, slots := #[.int 53], vm := .none },
  { cls := 20, slots := #[.int 54], vm := .none },
  { cls := 20, slots := #[.int 55], vm := .none },
  { cls := 20, slots := #[.int 56], vm := .none },
  { cls := 20, slots := #[.int 57], vm := .none },
  { cls := 20, slots := #[.int 58], vm := .none },
  { cls := 20, slots := #[.int 59], vm := .none },
  { cls := 20, slots := #[.int 60], vm := .none },
  { cls := 20, slots := #[.int 61], vm := .none },
  { cls := 20, slots := #[.int 62], vm := .none },
  { cls := 20, slots := #[.int 63], vm := .none },
  { cls := 20, slots := #[.int 64], vm := .none },
  { cls := 20, slots := #[.int 65], vm := .none },
  { cls := 20, slots := #[.int 66], vm := .none },
  { cls := 20, slots := #[.int 67], vm := .none },
  { cls := 20, slots := #[.int 68], vm := .none },
  { cls := 20, slots := #[.int 69], vm := .none },
  { cls := 20, slots := #[.int 70], vm := .none },
  { cls := 20, slots := #[.int 71], vm := .none },
  { cls := 20, slots := #[.int 72], vm := .none },
  { cls := 20, slots := #[.int 73], vm := .none },
  { cls := 20, slots := #[.int 74], vm := .none },
  { cls := 20, slots := #[.int 75], vm := .none },
  { cls := 20, slots := #[.int 76], vm := .none },
  { cls := 20, slots := #[.int 77], vm := .none },
  { cls := 20, slots := #[.int 78], vm := .none },
  { cls := 20, slots := #[.int 79], vm := .none },
  { cls := 20, slots := #[.int 80], vm := .none },
  { cls := 20, slots := #[.int 81], vm := .none },
  { cls := 20, slots := #[.int 82], vm := .none },
  { cls := 20, slots := #[.int 83], vm := .none },
  { cls := 20, slots := #[.int 84], vm := .none },
  { cls := 20, slots := #[.int 85], vm := .none },
  { cls := 20, slots := #[.int 86], vm := .none },
  { cls := 20, slots := #[.int 87], vm := .none },
  { cls := 20, slots := #[.int 88], vm := .none },
  { cls := 20, slots := #[.int 89], vm := .none },
  { cls := 20, slots := #[.int 90], vm := .none },
  { cls := 20, slots := #[.int 91], vm := .none },
  { cls := 20, slots := #[.int 92], vm := .none },
  { cls := 20, slots := #[.int 93], vm := .none },
  { cls := 20, slots := #[.int 94], vm := .none },
  { cls := 20, slots := #[.int 95], vm := .none },
  { cls := 20, slots := #[.int 96], vm := .none },
  { cls := 20, slots := #[.int 97], vm := .none },
  { cls := 20, slots := #[.int 98], vm := .none },
  { cls := 20, slots := #[.int 99], vm := .none },
  { cls := 20, slots := #[.int 100], vm := .none },
  { cls := 20, slots := #[.int 101], vm := .none },
  { cls := 20, slots := #[.int 102], vm := .none },
  { cls := 20, slots := #[.int 103], vm := .none },
  { cls := 20, slots := #[.int 104], vm := .none },
  { cls := 20, slots := #[.int 105], vm := .none },
  { cls := 20, slots := #[.int 106], vm := .none },
  { cls := 20, slots := #[.int 107], vm := .none },
  { cls := 20, slots := #[.int 108], vm := .none },
  { cls := 20, slots := #[.int 109], vm := .none },
  { cls := 20, slots := #[.int 110], vm := .none },
  { cls := 20, slots := #[.int 111], vm := .none },
  { cls := 20, slots := #[.int 112], vm := .none },
  { cls := 20, slots := #[.int 113], vm := .none },
  { cls := 20, slots := #[.int 114], vm := .none },
  { cls := 20, slots := #[.int 115], vm := .none },
  { cls := 20, slots := #[.int 116], vm := .none },
  { cls := 20, slots := #[.int 117], vm := .none },
  { cls := 20, slots := #[.int 118], vm := .none },
  { cls := 20, slots := #[.int 119], vm := .none },
  { cls := 20, slots := #[.int 120], vm := .none },
  { cls := 20, slots := #[.int 121], vm := .none },
  { cls := 20, slots := #[.int 122], vm := .none },
  { cls := 20, slots := #[.int 123], vm := .none },
  { cls := 20, slots := #[.int 124], vm := .none },
  { cls := 20, slots := #[.int 125], vm := .none },
  { cls := 20, slots := #[.int 126], vm := .none },
  { cls := 20, slots := #[.int 127], vm := .none },
  { cls := 29, slots := #[], vm := .none },
  { cls := 29, slots := #[], vm := .none }]
def classes : Array Class := #[k0, k1, k2, k3, k4, k5, k6, k7, k8, k9, k10, k11, k12, k13, k14, k15, k16, k17, k18, k19, k20, k21, k22, k23, k24, k25, k26, k27, k28, k29]
def interned : List (Array UInt16 × Addr) := []
def slotsUsed : Nat := 521
def theMethod : MethodId := ⟨1, 2⟩
def args0 : Array Value := #[.int 5, .int 7, .int 1, .int 2, .int 3, .int 4]
def aboutOver (below : List Frame) : State where
  vm := { classes := classes, interned := interned.toArray }
  heap := heap
  slotsUsed := slotsUsed
  threads := #[{ frames := .invoking theMethod args0 :: below }]
def below0 : List Frame := [.native { method := ⟨0, 0⟩, args := #[] }]
def about1 : State := aboutOver below0
def p0 : Program := .bare "" "" ""
def e0 : Env := launch0.env 0 0 0
theorem w_frames : about1.frames = Frame.invoking theMethod args0 :: below0 := rfl
set_option maxRecDepth 65536 in
theorem w_args : argsFit about1.vm theMethod args0 = true := by decide +kernel
set_option maxRecDepth 65536 in
theorem w_heap : heapFits about1 = true := by decide +kernel
set_option maxRecDepth 65536 in
theorem w_runnable : about1.curStatus? = some .runnable := by decide +kernel
set_option maxRecDepth 65536 in
theorem w_alone : about1.alone = true := by decide +kernel
set_option maxRecDepth 65536 in
theorem w_named : about1.methodNamed? x = some theMethod := by decide +kernel
set_option maxRecDepth 65536 in
theorem w_hears : about1.hears theMethod below0 = true := by decide +kernel
set_option maxRecDepth 65536 in
theorem w_ripe : about1.ripe theMethod args0 below0 = true := by decide +kernel
theorem w_running : about1.status = .running := rfl
set_option maxRecDepth 65536 in
theorem w_room : about1.hasRoom e0.platform room_1 = true :=
  launch0.hasRoom_least _ room_1 (by decide +kernel) (by decide +kernel) (by decide +kernel) (by decide +kernel) (by decide +kernel) (by decide +kernel)
theorem allAtoms_all (ts : List Jvm.Cond) (a : Array Jvm.Value) (st : Jvm.State) : (allAtoms ts).before a st = ts.all (fun c => c.before a st) := by
  induction ts with
  | nil => rfl
  | cons c t ih =>
    show (Jvm.Cond.and c (allAtoms t)).before a st = _
    rw [Jvm.Cond.before_and, ih, List.all_cons]
def words1 : List Jvm.Cond := Jvm.Cond.code x code maxLocals ret :: tables_1
/-- a 'code' word, met by the world's own term for the bytes: nothing is compared byte by byte -/
theorem code_word {y : MethodName} {bytes : ByteArray} {mx : Nat} {rt : Option FieldType} {a : Array Value} {s : State} {m : MethodId} {meth : Method} {c : Code} (h1 : s.methodNamed? y = some m) (h2 : s.vm.method? m = some meth) (h3 : meth.code = some c) (h4 : c.code = bytes)
    (h5 : (c.maxLocals == mx && c.exceptionTable.isEmpty && decide (c.maxStack ≤ mostOperands) && decide (meth.sig.returnType = rt) && !meth.locks && decide (parseMethodDescriptor y.desc = some meth.sig)) = true) : (Jvm.Cond.code y bytes mx rt).before a s = true := by
  simp only [Bool.and_eq_true, beq_iff_eq, Bool.not_eq_true', decide_eq_true_eq] at h5
  obtain ⟨⟨⟨⟨⟨g1, g2⟩, g3⟩, g4⟩, g5⟩, g6⟩ := h5
  simp [Cond.before, Cond.holds, Cond.value, h1, h2, h3, h4, g1, g2, g3, g4, g5, g6]
def isCode : Jvm.Cond → Bool
  | .code _ _ _ _ => true
  | _ => false
theorem all_split {L : List Jvm.Cond} {P : Jvm.Cond → Bool} (h1 : L.all (fun c => isCode c || P c) = true) (h2 : ∀ c ∈ L.filter isCode, P c = true) : L.all P = true := by
  refine List.all_eq_true.mpr fun c hc => ?_
  have h := List.all_eq_true.mp h1 c hc
  rcases Bool.eq_false_or_eq_true (isCode c) with hi | hi
  · exact h2 c (List.mem_filter.mpr ⟨hc, hi⟩)
  · simpa [hi] using h
set_option maxRecDepth 65536 in
theorem w_c0 : (Jvm.Cond.code x code maxLocals ret).before args0 about1 = true := code_word (m := ⟨1, 2⟩) (meth := k1m2) (c := k1c2) (by decide +kernel) rfl rfl rfl (by decide +kernel)
set_option maxRecDepth 65536 in
theorem w_c1 : (Jvm.Cond.code ({ cls := "com/example/adept_layout/adeptlayout/layout/Nesting", name := "<init>", desc := "([I[I[Z[I[II)V" } : Jvm.MethodName) prog_15_method_1_code (8 : Nat) (Option.none : Option Jvm.ClassFile.FieldType)).before args0 about1 = true := code_word (m := ⟨2, 0⟩) (meth := k2m0) (c := k2c0) (by decide +kernel) rfl rfl rfl (by decide +kernel)
set_option maxRecDepth 65536 in
theorem w_c2 : (Jvm.Cond.code ({ cls := "java/lang/Object", name := "<init>", desc := "()V" } : Jvm.MethodName) object_method_1_code (1 : Nat) (Option.none : Option Jvm.ClassFile.FieldType)).before args0 about1 = true := code_word (m := ⟨0, 0⟩) (meth := k0m0) (c := k0c0) (by decide +kernel) rfl rfl rfl (by decide +kernel)
set_option maxRecDepth 65536 in
theorem w_c3 : (Jvm.Cond.code ({ cls := "java/util/ArrayList", name := "<init>", desc := "()V" } : Jvm.MethodName) jdk_38_method_2_code (1 : Nat) (Option.none : Option Jvm.ClassFile.FieldType)).before args0 about1 = true := code_word (m := ⟨12, 0⟩) (meth := k12m0) (c := k12c0) (by decide +kernel) rfl rfl rfl (by decide +kernel)
set_option maxRecDepth 65536 in
theorem w_c4 : (Jvm.Cond.code ({ cls := "java/util/AbstractList", name := "<init>", desc := "()V" } : Jvm.MethodName) jdk_39_method_1_code (1 : Nat) (Option.none : Option Jvm.ClassFile.FieldType)).before args0 about1 = true := code_word (m := ⟨8, 0⟩) (meth := k8m0) (c := k8c0) (by decide +kernel) rfl rfl rfl (by decide +kernel)
set_option maxRecDepth 65536 in
theorem w_c5 : (Jvm.Cond.code ({ cls := "java/util/AbstractCollection", name := "<init>", desc := "()V" } : Jvm.MethodName) jdk_22_method_1_code (1 : Nat) (Option.none : Option Jvm.ClassFile.FieldType)).before args0 about1 = true := code_word (m := ⟨5, 0⟩) (meth := k5m0) (c := k5c0) (by decide +kernel) rfl rfl rfl (by decide +kernel)
set_option maxRecDepth 65536 in
theorem w_c6 : (Jvm.Cond.code ({ cls := "java/util/ArrayList", name := "add", desc := "(Ljava/lang/Object;)Z" } : Jvm.MethodName) jdk_38_method_25_code (2 : Nat) (Option.some Jvm.ClassFile.FieldType.boolean)).before args0 about1 = true := code_word (m := ⟨12, 6⟩) (meth := k12m6) (c := k12c6) (by decide +kernel) rfl rfl rfl (by decide +kernel)
set_option maxRecDepth 65536 in
theorem w_c7 : (Jvm.Cond.code ({ cls := "java/util/ArrayList", name := "add", desc := "(Ljava/lang/Object;[Ljava/lang/Object;I)V" } : Jvm.MethodName) jdk_38_method_24_code (4 : Nat) (Option.none : Option Jvm.ClassFile.FieldType)).before args0 about1 = true := code_word (m := ⟨12, 5⟩) (meth := k12m5) (c := k12c5) (by decide +kernel) rfl rfl rfl (by decide +kernel)
set_option maxRecDepth 65536 in
theorem w_c8 : (Jvm.Cond.code ({ cls := "java/util/ArrayList", name := "grow", desc := "()[Ljava/lang/Object;" } : Jvm.MethodName) jdk_38_method_7_code (1 : Nat) (Option.some (Jvm.ClassFile.FieldType.array (Jvm.ClassFile.FieldType.object "java/lang/Object")))).before args0 about1 = true := code_word (m := ⟨12, 2⟩) (meth := k12m2) (c := k12c2) (by decide +kernel) rfl rfl rfl (by decide +kernel)
set_option maxRecDepth 65536 in
theorem w_c9 : (Jvm.Cond.code ({ cls := "java/util/ArrayList", name := "grow", desc := "(I)[Ljava/lang/Object;" } : Jvm.MethodName) jdk_38_method_6_code (4 : Nat) (Option.some (Jvm.ClassFile.FieldType.array (Jvm.ClassFile.FieldType.object "java/lang/Object")))).before args0 about1 = true := code_word (m := ⟨12, 1⟩) (meth := k12m1) (c := k12c1) (by decide +kernel) rfl rfl rfl (by decide +kernel)
set_option maxRecDepth 65536 in
theorem w_c10 : (Jvm.Cond.code ({ cls := "java/lang/Math", name := "max", desc := "(II)I" } : Jvm.MethodName) jdk_29_method_65_code (2 : Nat) (Option.some Jvm.ClassFile.FieldType.int)).before args0 about1 = true := code_word (m := ⟨13, 1⟩) (meth := k13m1) (c := k13c1) (by decide +kernel) rfl rfl rfl (by decide +kernel)
set_option maxRecDepth 65536 in
theorem w_c11 : (Jvm.Cond.code ({ cls := "java/util/ArrayList", name := "get", desc := "(I)Ljava/lang/Object;" } : Jvm.MethodName) jdk_38_method_20_code (2 : Nat) (Option.some (Jvm.ClassFile.FieldType.object "java/lang/Object"))).before args0 about1 = true := code_word (m := ⟨12, 4⟩) (meth := k12m4) (c := k12c4) (by decide +kernel) rfl rfl rfl (by decide +kernel)
set_option maxRecDepth 65536 in
theorem w_c12 : (Jvm.Cond.code ({ cls := "java/util/Objects", name := "checkIndex", desc := "(II)I" } : Jvm.MethodName) jdk_31_method_17_code (2 : Nat) (Option.some Jvm.ClassFile.FieldType.int)).before args0 about1 = true := code_word (m := ⟨14, 1⟩) (meth := k14m1) (c := k14c1) (by decide +kernel) rfl rfl rfl (by decide +kernel)
set_option maxRecDepth 65536 in
theorem w_c13 : (Jvm.Cond.code ({ cls := "jdk/internal/util/Preconditions", name := "checkIndex", desc := "(IILjava/util/function/BiFunction;)I" } : Jvm.MethodName) jdk_41_method_11_code (3 : Nat) (Option.some Jvm.ClassFile.FieldType.int)).before args0 about1 = true := code_word (m := ⟨15, 1⟩) (meth := k15m1) (c := k15c1) (by decide +kernel) rfl rfl rfl (by decide +kernel)
set_option maxRecDepth 65536 in
theorem w_c14 : (Jvm.Cond.code ({ cls := "java/util/ArrayList", name := "elementData", desc := "(I)Ljava/lang/Object;" } : Jvm.MethodName) jdk_38_method_18_code (2 : Nat) (Option.some (Jvm.ClassFile.FieldType.object "java/lang/Object"))).before args0 about1 = true := code_word (m := ⟨12, 3⟩) (meth := k12m3) (c := k12c3) (by decide +kernel) rfl rfl rfl (by decide +kernel)
set_option maxRecDepth 65536 in
theorem w_c15 : (Jvm.Cond.code ({ cls := "java/lang/Integer", name := "valueOf", desc := "(I)Ljava/lang/Integer;" } : Jvm.MethodName) jdk_33_method_22_code (1 : Nat) (Option.some (Jvm.ClassFile.FieldType.object "java/lang/Integer"))).before args0 about1 = true := code_word (m := ⟨20, 0⟩) (meth := k20m0) (c := k20c0) (by decide +kernel) rfl rfl rfl (by decide +kernel)
set_option maxRecDepth 65536 in
theorem w_c16 : (Jvm.Cond.code ({ cls := "java/lang/Math", name := "min", desc := "(II)I" } : Jvm.MethodName) jdk_29_method_69_code (2 : Nat) (Option.some Jvm.ClassFile.FieldType.int)).before args0 about1 = true := code_word (m := ⟨13, 2⟩) (meth := k13m2) (c := k13c2) (by decide +kernel) rfl rfl rfl (by decide +kernel)
set_option maxRecDepth 65536 in
theorem w_c17 : (Jvm.Cond.code ({ cls := "com/example/adept_layout/adeptlayout/layout/NestingChildHoldingPinLaw", name := "up", desc := "([II)I" } : Jvm.MethodName) method_2_code (2 : Nat) (Option.some Jvm.ClassFile.FieldType.int)).before args0 about1 = true := code_word (m := ⟨1, 1⟩) (meth := k1m1) (c := k1c1) (by decide +kernel) rfl rfl rfl (by decide +kernel)
set_option maxRecDepth 65536 in
theorem w_c18 : (Jvm.Cond.code ({ cls := "com/example/adept_layout/adeptlayout/layout/Nesting", name := "childHolding", desc := "(II)I" } : Jvm.MethodName) prog_15_method_15_code (4 : Nat) (Option.some Jvm.ClassFile.FieldType.int)).before args0 about1 = true := code_word (m := ⟨2, 1⟩) (meth := k2m1) (c := k2c1) (by decide +kernel) rfl rfl rfl (by decide +kernel)
def codes1 : List Jvm.Cond := [Jvm.Cond.code x code maxLocals ret, Jvm.Cond.code ({ cls := "com/example/adept_layout/adeptlayout/layout/Nesting", name := "<init>", desc := "([I[I[Z[I[II)V" } : Jvm.MethodName) prog_15_method_1_code (8 : Nat) (Option.none : Option Jvm.ClassFile.FieldType), Jvm.Cond.code ({ cls := "java/lang/Object", name := "<init>", desc := "()V" } : Jvm.MethodName) object_method_1_code (1 : Nat) (Option.none : Option Jvm.ClassFile.FieldType), Jvm.Cond.code ({ cls := "java/util/ArrayList", name := "<init>", desc := "()V" } : Jvm.MethodName) jdk_38_method_2_code (1 : Nat) (Option.none : Option Jvm.ClassFile.FieldType), Jvm.Cond.code ({ cls := "java/util/AbstractList", name := "<init>", desc := "()V" } : Jvm.MethodName) jdk_39_method_1_code (1 : Nat) (Option.none : Option Jvm.ClassFile.FieldType), Jvm.Cond.code ({ cls := "java/util/AbstractCollection", name := "<init>", desc := "()V" } : Jvm.MethodName) jdk_22_method_1_code (1 : Nat) (Option.none : Option Jvm.ClassFile.FieldType), Jvm.Cond.code ({ cls := "java/util/ArrayList", name := "add", desc := "(Ljava/lang/Object;)Z" } : Jvm.MethodName) jdk_38_method_25_code (2 : Nat) (Option.some Jvm.ClassFile.FieldType.boolean), Jvm.Cond.code ({ cls := "java/util/ArrayList", name := "add", desc := "(Ljava/lang/Object;[Ljava/lang/Object;I)V" } : Jvm.MethodName) jdk_38_method_24_code (4 : Nat) (Option.none : Option Jvm.ClassFile.FieldType), Jvm.Cond.code ({ cls := "java/util/ArrayList", name := "grow", desc := "()[Ljava/lang/Object;" } : Jvm.MethodName) jdk_38_method_7_code (1 : Nat) (Option.some (Jvm.ClassFile.FieldType.array (Jvm.ClassFile.FieldType.object "java/lang/Object"))), Jvm.Cond.code ({ cls := "java/util/ArrayList", name := "grow", desc := "(I)[Ljava/lang/Object;" } : Jvm.MethodName) jdk_38_method_6_code (4 : Nat) (Option.some (Jvm.ClassFile.FieldType.array (Jvm.ClassFile.FieldType.object "java/lang/Object"))), Jvm.Cond.code ({ cls := "java/lang/Math", name := "max", desc := "(II)I" } : Jvm.MethodName) jdk_29_method_65_code (2 : Nat) (Option.some Jvm.ClassFile.FieldType.int), Jvm.Cond.code ({ cls := "java/util/ArrayList", name := "get", desc := "(I)Ljava/lang/Object;" } : Jvm.MethodName) jdk_38_method_20_code (2 : Nat) (Option.some (Jvm.ClassFile.FieldType.object "java/lang/Object")), Jvm.Cond.code ({ cls := "java/util/Objects", name := "checkIndex", desc := "(II)I" } : Jvm.MethodName) jdk_31_method_17_code (2 : Nat) (Option.some Jvm.ClassFile.FieldType.int), Jvm.Cond.code ({ cls := "jdk/internal/util/Preconditions", name := "checkIndex", desc := "(IILjava/util/function/BiFunction;)I" } : Jvm.MethodName) jdk_41_method_11_code (3 : Nat) (Option.some Jvm.ClassFile.FieldType.int), Jvm.Cond.code ({ cls := "java/util/ArrayList", name := "elementData", desc := "(I)Ljava/lang/Object;" } : Jvm.MethodName) jdk_38_method_18_code (2 : Nat) (Option.some (Jvm.ClassFile.FieldType.object "java/lang/Object")), Jvm.Cond.code ({ cls := "java/lang/Integer", name := "valueOf", desc := "(I)Ljava/lang/Integer;" } : Jvm.MethodName) jdk_33_method_22_code (1 : Nat) (Option.some (Jvm.ClassFile.FieldType.object "java/lang/Integer")), Jvm.Cond.code ({ cls := "java/lang/Math", name := "min", desc := "(II)I" } : Jvm.MethodName) jdk_29_method_69_code (2 : Nat) (Option.some Jvm.ClassFile.FieldType.int), Jvm.Cond.code ({ cls := "com/example/adept_layout/adeptlayout/layout/NestingChildHoldingPinLaw", name := "up", desc := "([II)I" } : Jvm.MethodName) method_2_code (2 : Nat) (Option.some Jvm.ClassFile.FieldType.int), Jvm.Cond.code ({ cls := "com/example/adept_layout/adeptlayout/layout/Nesting", name := "childHolding", desc := "(II)I" } : Jvm.MethodName) prog_15_method_15_code (4 : Nat) (Option.some Jvm.ClassFile.FieldType.int)]
set_option maxRecDepth 65536 in
theorem codes_eq : words1.filter isCode = codes1 := rfl
theorem w_codes : ∀ c ∈ words1.filter isCode, c.before args0 about1 = true := by
  rw [codes_eq]
  intro c hc
  simp only [codes1, List.mem_cons, List.not_mem_nil, or_false] at hc
  rcases hc with rfl | rfl | rfl | rfl | rfl | rfl | rfl | rfl | rfl | rfl | rfl | rfl | rfl | rfl | rfl | rfl | rfl | rfl | rfl
  · exact w_c0
  · exact w_c1
  · exact w_c2
  · exact w_c3
  · exact w_c4
  · exact w_c5
  · exact w_c6
  · exact w_c7
  · exact w_c8
  · exact w_c9
  · exact w_c10
  · exact w_c11
  · exact w_c12
  · exact w_c13
  · exact w_c14
  · exact w_c15
  · exact w_c16
  · exact w_c17
  · exact w_c18
set_option maxRecDepth 65536 in
theorem w_t1 : (words1.take 24).all (fun c => isCode c || c.before args0 about1) = true := by decide +kernel
set_option maxRecDepth 65536 in
theorem w_t2 : ((words1.drop 24).take 24).all (fun c => isCode c || c.before args0 about1) = true := by decide +kernel
set_option maxRecDepth 65536 in
theorem w_t3 : (((words1.drop 24).drop 24).take 24).all (fun c => isCode c || c.before args0 about1) = true := by decide +kernel
set_option maxRecDepth 65536 in
theorem w_t4 : ((((words1.drop 24).drop 24).drop 24).take 24).all (fun c => isCode c || c.before args0 about1) = true := by decide +kernel
set_option maxRecDepth 65536 in
theorem w_t5 : (((((words1.drop 24).drop 24).drop 24).drop 24).take 24).all (fun c => isCode c || c.before args0 about1) = true := by decide +kernel
set_option maxRecDepth 65536 in
theorem w_t6 : (((((words1.drop 24).drop 24).drop 24).drop 24).drop 24).all (fun c => isCode c || c.before args0 about1) = true := by decide +kernel
theorem w_tables : (allAtoms (Jvm.Cond.code x code maxLocals ret :: tables_1)).before args0 about1 = true := by
  rw [allAtoms_all]
  show words1.all (fun c => c.before args0 about1) = true
  refine all_split ?_ w_codes
  rw [← List.take_append_drop 24 words1, List.all_append, w_t1, ← List.take_append_drop 24 (words1.drop 24), List.all_append, w_t2, ← List.take_append_drop 24 ((words1.drop 24).drop 24), List.all_append, w_t3, ← List.take_append_drop 24 (((words1.drop 24).drop 24).drop 24), List.all_append, w_t4, ← List.take_append_drop 24 ((((words1.drop 24).drop 24).drop 24).drop 24), List.all_append, w_t5, w_t6]
  rfl
set_option maxRecDepth 65536 in
theorem w_rest : rest_1_c.before args0 about1 = true := by decide +kernel
set_option maxRecDepth 65536 in
theorem w_case : (Jvm.Cond.and given_1 narrow_1).before args0 about1 = true := by decide +kernel
theorem w_applies : (headSpec (Jvm.Cond.code x code maxLocals ret :: tables_1) room_1).applies x e0.platform about1 = true :=
  (Spec.applies_iff w_frames).mpr ⟨w_running, w_runnable, w_alone, w_named, w_hears, w_ripe, w_room, w_tables⟩
theorem atStart : AtStart classFile x code maxLocals ret World_1 tables_1 room_1 Calls_1 rest_1 Pre_1 launch0 p0 e0 about1 theMethod args0 below0 :=
  ⟨lists_1, trivial, launch0.admits_env _ _ _, launch0.least_env, fairChoices_fair.cas, fairChoices_fair.clock, w_frames, w_args, w_heap, w_applies, trivial, w_rest, w_case⟩
end start1
theorem witness_1 : WitnessClaimed_1 := ⟨start1.p0, start1.e0, start1.about1, start1.theMethod, start1.args0, start1.below0, start1.atStart⟩
end Jvm.Pilot.@@N@@
