import JvmDerived
import JvmDerived.Pilot.@@N@@Statement
import JvmDerived.Pilot.@@N@@Code
set_option linter.unusedVariables false
set_option linter.unusedSimpArgs false
namespace Jvm.RoadKit
open Sem ClassFile Op Lib Jvm.Stand Jvm.Free Jvm.LawKit
section New
variable {p : Program} {l : Launch} {e : Env} {R : Room} {s : State} {m : MethodId} {args : Array Value} {below : List Frame} {meth : Method} {c : Code} {T : State} {locs : List Loc} {cells slots : Nat}
theorem retI (X : Stand p l e R s m args below meth c T locs cells slots) (hx : p.tables.exec = Jvm.exec) {pc : Nat} {Ls : Array Slot} {z : Int32} {rest : List Value} (hret : meth.sig.returnType = some .int) (hd : decode c.code pc = .ok (.ireturn, 1)) {fs : List Frame}
    (hl : ∀ (f : JFrame) (acts : List Action), f.method = m → f.locked = none → f.entered = [] → (doReturn e (T.setTop f) acts (some (.int z))).1 = T.setFrames fs) : Steps p.tables e below (T.setTop (mkF m pc Ls (.int z :: rest))) (T.setFrames fs) := by
  have hm' : T.vm.method? m = some meth := X.method'
  have hn : narrow .int (.int z) = .int z := rfl
  show Steps p.tables e below (T.setTop { method := m, pc := pc, locals := Ls, stack := _ :: rest, locked := none }) _
  jvm_step X.here [X.here.top, hx, hd, hm', hret, hn]
  first | (intro acts; rw [hl _ acts rfl rfl rfl]) | rw [hl _ _ rfl rfl rfl]
  exact Steps.refl _
/-- the run comes from S to a state of which Φ holds -/
def ownGo (tb : Tables) (e : Env) (below : List Frame) (S : State) (Φ : State → Prop) : Prop := ∃ t, Steps tb e below S t ∧ Φ t
theorem ownStep {tb : Tables} {S S' : State} {Φ : State → Prop} (h : ∀ t, Steps tb e below S' t → Steps tb e below S t) (k : ownGo tb e below S' Φ) : ownGo tb e below S Φ := by
  obtain ⟨t, a, b⟩ := k; exact ⟨t, h t a, b⟩
/-- a body's end: what its contract says -/
def ownEnd (below : List Frame) (s : State) (Q : Option Value → Heap → List Loc → Prop) (k n : Nat) (t : State) : Prop :=
  t.status = .running ∧ ∃ v L, Ended t below (.returned v) ∧ Q v t.heap L ∧ FrameEnd s (.returned v) t L k n
theorem ownFin {tb : Tables} {S : State} {Q : Option Value → Heap → List Loc → Prop} {k n : Nat} (h : ownGo tb e below S (ownEnd below s Q k n)) :
    ∃ s₂ o, Steps tb e below S s₂ ∧ s₂.status = .running ∧ Ended s₂ below o ∧ ∃ v L, o = .returned v ∧ Q v s₂.heap L ∧ FrameEnd s o s₂ L k n := by
  obtain ⟨t, a, b, v, L, c1, d, f⟩ := h; exact ⟨t, _, a, b, c1, v, L, rfl, d, f⟩
theorem ownRet (X : Stand p l e R s m args below meth c T locs cells slots) {g : JFrame} {v : Option Value} {Q : Option Value → Heap → List Loc → Prop} {k n : Nat} (hlocks : meth.locks = false) (hv : meth.sig.returnType = none → v = none)
    (hs : ∀ fs, (∀ (f : JFrame) (acts : List Action), f.method = m → f.locked = none → f.entered = [] → (doReturn e (T.setTop f) acts v).1 = T.setFrames fs) → Steps p.tables e below (T.setTop g) (T.setFrames fs))
    (hQ : Q v T.heap locs) (hc : cells ≤ k) (hn : slots ≤ n) : ownGo p.tables e below (T.setTop g) (ownEnd below s Q k n) := by
  obtain ⟨fs, hr, hrun, hended, hW, hsame⟩ := X.leave hv hlocks
  exact ⟨_, hs fs hr, hrun, v, locs, hended, hQ, ⟨_, rfl⟩, hW, hsame.mono hc hn⟩
end New
section Heaps
variable {Z : State} {h h' h0 : Heap} {ws : List Addr}
theorem own_extOf (K : Keep h h' []) : Ext h h' := ⟨K.1, fun a c q => K.2.1 a c q nin0⟩
theorem own_extRefl (h : Heap) : Ext h h := ⟨Nat.le_refl _, fun _ _ q => q⟩
theorem own_extTrans {h2 : Heap} (E : Ext h h') (F : Ext h' h2) : Ext h h2 := ⟨Nat.le_trans E.1 F.1, fun a c q => F.2 a c (E.2 a c q)⟩
theorem own_staKeep {C n d : String} {w : Value} (F : Sta Z h C n d w) (K : Keep h h' ws) (q : ∀ x ∈ ws, ∀ cell : Cell, h[x]? = some cell → cell.vm.isStatics = false) : Sta Z h' C n d w := by
  obtain ⟨cf, i, k, f, st, cell, h1, h2, h3, h4, h5, h6, h7⟩ := F
  exact ⟨cf, i, k, f, st, cell, h1, h2, h3, h4, K.2.1 st cell h5 (fun z => by rw [q st z cell h5] at h6; cases h6), h6, h7⟩
theorem own_insKeep {a : Addr} {C : String} {b : Bool} (F : Ins Z h a C b) (K : Keep h h' ws) : Ins Z h' a C b := by
  obtain ⟨cell, cT, h1, h2, h3⟩ := F
  obtain ⟨c', e1, e2, e3, -⟩ := K.2.2 a cell h1
  exact ⟨c', cT, e1, h2, by rw [e2, e3]; exact h3⟩
theorem own_scrSet {a : Addr} {cl : Cell} {z j x : Int32} (F : Scr Z h a cl z) (hj : ¬ (j < 0 ∨ cl.slots.size ≤ j.toNatClampNeg)) (W : Wr h h' a j.toNatClampNeg (.int x)) : ∃ cl', Scr Z h' a cl' z := by
  obtain ⟨A, S, N, H⟩ := F
  refine ⟨_, A.same W, by rw [sz_set]; exact S, N, fun i hi => ?_⟩
  rw [sz_set] at hi
  by_cases e : i = j
  · have q := get_hit (v := Value.int x) hj e
    rw [q, atv_of q]
  · have q := get_miss (c := cl) (v := Value.int x) (fun y => hj (Or.inl y)) (fun y => hi (Or.inl y)) e
    have r := H i hi
    rw [← q] at r
    rw [r, atv_of r]
theorem own_scrOf {a : Addr} {k : ClassId} {z : Int32} {vs : List Value} {d : Value} (F : Arv Z h a k .int z vs d) : ∃ cl, Scr Z h a cl z := by
  obtain ⟨c, A, q, S, N, H, G⟩ := F
  refine ⟨c, A, S, N, fun i hi => ?_⟩
  have lt : i.toNatClampNeg < c.slots.size := Nat.lt_of_not_le fun y => hi (Or.inr y)
  obtain ⟨w, hw⟩ := fit_I (G _ lt) (Or.inl rfl)
  have e := H _ lt
  rw [hw] at e
  rw [e, atv_of e]
end Heaps
section Start
variable {args : Array Value} {first s : State} {o : Option Outcome} {idx : List Nat} {t : Term}
theorem own_eqI {k : Int32} (h : (Cond.eq t (.int k)).value args first o s idx = some true) : t.eval args first o idx s = some (.int k) := by
  simp only [Cond.value, Term.eval] at h
  cases ht : t.eval args first o idx s with
  | none => simp [ht] at h
  | some x => cases x <;> simp [ht] at h ⊢; exact h
theorem own_len0 {k : Int32} {a : Addr} {cl : Cell} {ty : FieldType} (h : (Term.length t).eval args first o idx s = some (.int k)) (ht : t.eval args first o idx s = some (.ref a)) (A : Arr s s.heap a cl ty) : cl.slots.size < 2 ^ 31 ∧ cl.slots.size.toInt32 = k := by
  have e5 := A.fin (U := s) (Vm.Alike.refl _)
  simp only [Term.eval, ht, Option.bind_eq_bind, Option.bind_some, e5] at h
  by_cases q : cl.slots.size < 2 ^ 31
  · rw [if_pos q] at h; exact ⟨q, Value.int.inj (Option.some.inj h)⟩
  · rw [if_neg q] at h; cases h
theorem own_idxsub {k j : Int32} (hj : ¬ j < 0) : (Term.sub (.index 0) (.int k)).eval args s o [j.toNatClampNeg] s = some (.int (j - k)) := by
  have q : (Term.index 0).eval args s o [j.toNatClampNeg] s = some (.int j) := idx_at hj
  simp only [Term.eval] at q ⊢
  simpa using q
theorem own_arv0 {Z : State} {a : Addr} {cl : Cell} {ty : FieldType} {d : Value} (A : Arr Z s.heap a cl ty) (h : cl.slots.size < 2 ^ 31 ∧ cl.slots.size.toInt32 = (0 : Int32)) : Arv Z s.heap a cl.cls ty (0 : Int32) [] d := by
  have z : cl.slots.size = 0 := by
    have q := len_toInt h.1
    rw [h.2] at q
    have e0 : (0 : Int32).toInt = 0 := by decide
    omega
  exact ⟨cl, A, rfl, z, by decide, fun k hk => absurd hk (by omega), fun k hk => absurd hk (by omega)⟩
end Start
end Jvm.RoadKit
namespace Jvm.Pilot.@@N@@
open Jvm Jvm.ClassFile Sem Op Lib Jvm.Free Jvm.Stand Jvm.LawKit Jvm.RoadKit Bundle Jvm.Pilot.@@N@@.Jvm.D
theorem ownStaticUp {p : Program} {l : Launch} {e : Env} {R : Room} {s : State} {m : MethodId} {args : Array Value} {below : List Frame} {meth : Method} {c : Code} {T : State} {locs : List Loc} {cells slots : Nat} (X : Stand p l e R s m args below meth c T locs cells slots) (hexec : p.tables.exec = Jvm.exec) {own owner : String} {index : Nat} {x : MethodName} {bytes : ByteArray} {maxL : Nat} {ret : Option FieldType}
    (hown : s.vm.findClass own = some m.cls) (hlink : (Cond.methodLink own index x).before args s = true) (hsame : (Cond.sameMethod x.cls owner x.name x.desc).before args s = true)
    (hstat : (Cond.static ⟨owner, x.name, x.desc⟩).before args s = true) (hinit : (Cond.initialized owner).before args s = true) (hcode : (Cond.code ⟨owner, x.name, x.desc⟩ bytes maxL ret).before args s = true)
    (howner : owner ≠ "java/lang/invoke/MethodHandle" ∧ owner ≠ "java/lang/invoke/VarHandle")
    {W : Nat} {Pre : Pt → Array Value → Prop} {Post : Pt → Array Value → Option Value → Pt → Prop} (hK : Back l R p e below s args ⟨owner, x.name, x.desc⟩ 3 W Pre Post)
    {g : JFrame} (hg : g.method = m) (hsize : g.locals.size = c.maxLocals) {s₀ : State} (hcome : Steps p.tables e below s₀ (T.setTop g)) {argsL rest : List Value}
    (hlen : ∀ sig, parseMethodDescriptor x.desc = some sig → argsL.length = sig.parameters.length) (hstack : g.stack = argsL.reverse ++ rest) (hW : 2 * g.monitorRoom + (rest.map fun v => v.category).sum ≤ W)
    (hdg : decode c.code g.pc = .ok (.invokestatic index, 3)) (hpre : ∀ vm₁, s.WarmedH vm₁ → Pre ⟨T.setVm vm₁, locs, cells, slots⟩ argsL.toArray) :
    ∃ (v : Option Value) (vm₁ : Vm) (B : Pt), s.WarmedH vm₁ ∧ Stand p l e R s m args below meth c B.U B.locs B.cells B.slots ∧ Post ⟨T.setVm vm₁, locs, cells, slots⟩ argsL.toArray v B ∧
      Steps p.tables e below s₀ (B.U.setTop { g with pc := g.pc + 3, stack := v.toList ++ rest }) := by
  obtain ⟨mk, hnamed⟩ := Cond.code_named hcode
  obtain ⟨methM, cM, hmethM, -, -, -, -, -, -, hsigM⟩ := Cond.code_spec hnamed hcode
  exact X.staticBackUp hexec hown hlink hsame hstat hinit hnamed hmethM hsigM howner hK hg hsize hcome hlen hstack hW hdg hpre
def own_min (u v : Int32) : Int32 := if v < u then v else u
def own_max (u v : Int32) : Int32 := if u < v then v else u
theorem own_in10 {n : Int32} (h1 : ¬ n < (0 : Int32)) (h2 : n < (10 : Int32)) : ¬ (n < 0 ∨ 10 ≤ n.toNatClampNeg) := by
  have := nat_of h1
  have e10 : (10 : Int32).toInt = 10 := by decide
  rw [Int32.lt_iff_toInt_lt, e10] at h2
  rintro (q | q)
  · exact h1 q
  · omega
def own_box (Z : State) (h : Heap) (cl : Cell) (xx : Int32) (j : Int32) : Prop := ∃ b : Addr, cl.slots[j.toNatClampNeg]? = some (.ref b) ∧ Exa Z h b "java/lang/Integer" ∧ Fld Z h b "java/lang/Integer" "value" "I" (.int (xx + j))
def own_boxes (Z : State) (h : Heap) (cl : Cell) (nn xx : Int32) : Prop := ∀ j : Int32, ¬ j < (0 : Int32) → j < nn → own_box Z h cl xx j
theorem own_boxes.ext {Z : State} {h h' : Heap} {cl : Cell} {nn xx : Int32} (B : own_boxes Z h cl nn xx) (E : Ext h h') : own_boxes Z h' cl nn xx := fun j h1 h2 => by
  obtain ⟨b, q, e, f⟩ := B j h1 h2
  exact ⟨b, q, e.ext E, f.ext E⟩
def own_sub (Z : State) (h : Heap) (s a : Addr) (oo kq mc : Int32) : Prop := Exa Z h s "java/util/ArrayList$SubList" ∧ Fld Z h s "java/util/ArrayList$SubList" "root" "Ljava/util/ArrayList;" (.ref a) ∧ Fld Z h s "java/util/ArrayList$SubList" "offset" "I" (.int oo) ∧ Fld Z h s "java/util/ArrayList$SubList" "size" "I" (.int kq) ∧ Fld Z h s "java/util/AbstractList" "modCount" "I" (.int mc)
def own_subat (Z : State) (h : Heap) (clr : Cell) (a : Addr) (mc nn sz j : Int32) : Prop := ∃ (s : Addr) (oo kq : Int32), clr.slots[j.toNatClampNeg]? = some (.ref s) ∧ oo = j * sz ∧ kq = own_min nn (oo + sz) - oo ∧ own_sub Z h s a oo kq mc
def own_subs (Z : State) (h : Heap) (clr : Cell) (mm : Int32) (a : Addr) (mc nn sz : Int32) : Prop := ∀ j : Int32, ¬ j < (0 : Int32) → j < mm → own_subat Z h clr a mc nn sz j
theorem own_cin {k : Int32} (h1 : ¬ k < (-128 : Int32)) (h2 : ¬ (127 : Int32) < k) : ¬ (k + (128 : Int32)) < 0 ∧ (k + (128 : Int32)) < (256 : Int32) := by
  have e0 : (0 : Int32).toInt = 0 := by decide
  have e1 : (-128 : Int32).toInt = -128 := by decide
  have e2 : (127 : Int32).toInt = 127 := by decide
  have e3 : (128 : Int32).toInt = 128 := by decide
  have e4 : (256 : Int32).toInt = 256 := by decide
  have a := c_iadd k (128 : Int32)
  have r := rng32 (k + (128 : Int32))
  rw [Int32.lt_iff_toInt_lt, e1] at h1
  rw [Int32.lt_iff_toInt_lt, e2] at h2
  rw [e3] at a
  rw [Int32.lt_iff_toInt_lt, Int32.lt_iff_toInt_lt, e4]
  show ¬ _ < (0 : Int32).toInt ∧ _
  rw [e0]
  omega
theorem own_cval {k : Int32} : (k + (128 : Int32)) - (128 : Int32) = k := Int32.add_sub_cancel _ _
theorem own_lt10 {i n : Int32} (h : i < n) (h7 : ¬ (7 : Int32) < n) : i < (10 : Int32) := by
  have e7 : (7 : Int32).toInt = 7 := by decide
  have e10 : (10 : Int32).toInt = 10 := by decide
  rw [Int32.lt_iff_toInt_lt] at *
  rw [e7] at h7
  rw [e10]
  omega
theorem own_k0 {k : Int32} (h : 1 ≤ k.toInt) : (0 : Int32) < k := by
  have e0 : (0 : Int32).toInt = 0 := by decide
  rw [Int32.lt_iff_toInt_lt, e0]
  omega
theorem own_nlt {k i j : Int32} (h : ¬ i < k) (q : i.toInt ≤ j.toInt) : ¬ j < k := by
  rw [Int32.lt_iff_toInt_lt] at *
  omega
theorem own_oadd {k o t n : Int32} (ht : 0 ≤ t.toInt) (hk : t < k) (ku : o.toInt + k.toInt ≤ n.toInt) (ol : 0 ≤ o.toInt) (h7 : ¬ (7 : Int32) < n) : (o + t).toInt = o.toInt + t.toInt ∧ n.toInt ≤ 7 := by
  have e7 : (7 : Int32).toInt = 7 := by decide
  have a := c_iadd o t
  have r := rng32 (o + t)
  rw [Int32.lt_iff_toInt_lt] at *
  rw [e7] at h7
  omega
theorem own_jl {k o t n : Int32} (ht : 0 ≤ t.toInt) (hk : t < k) (ku : o.toInt + k.toInt ≤ n.toInt) (ol : 0 ≤ o.toInt) (h7 : ¬ (7 : Int32) < n) : ¬ (o + t) < (0 : Int32) := by
  have e0 : (0 : Int32).toInt = 0 := by decide
  have q := own_oadd ht hk ku ol h7
  rw [Int32.lt_iff_toInt_lt, e0, q.1]
  omega
theorem own_ju {k o t n : Int32} (ht : 0 ≤ t.toInt) (hk : t < k) (ku : o.toInt + k.toInt ≤ n.toInt) (ol : 0 ≤ o.toInt) (h7 : ¬ (7 : Int32) < n) : (o + t) < n := by
  have q := own_oadd ht hk ku ol h7
  rw [Int32.lt_iff_toInt_lt] at hk
  rw [Int32.lt_iff_toInt_lt, q.1]
  omega
theorem own_k7 {k o n : Int32} (ku : o.toInt + k.toInt ≤ n.toInt) (ol : 0 ≤ o.toInt) (h7 : ¬ (7 : Int32) < n) : ¬ (7 : Int32) < k := by
  have e7 : (7 : Int32).toInt = 7 := by decide
  rw [Int32.lt_iff_toInt_lt, e7] at h7
  rw [Int32.lt_iff_toInt_lt, e7]
  omega
def own_szp (cc sz : Int32) : Prop := 1 ≤ sz.toInt ∧ sz.toInt ≤ 10000 ∧ (1 < sz.toInt → sz.toInt * cc.toInt ≤ 10000) ∧ 10000 < (sz.toInt + 1) * cc.toInt
def own_cnt (nn sz mm : Int32) : Prop := 1 ≤ mm.toInt ∧ mm.toInt ≤ 7 ∧ (mm.toInt - 1) * sz.toInt < nn.toInt ∧ nn.toInt ≤ mm.toInt * sz.toInt
def own_pos (mm nn sz i p : Int32) : Prop := (i < mm ∧ p = i * sz) ∨ (¬ i < mm ∧ p = nn)
theorem own_ne0 {c : Int32} (h : 1 ≤ c.toInt) : c ≠ 0 := fun q => by
  rw [q] at h
  exact absurd h (by decide)
theorem own_szv {cc : Int32} (h : 1 ≤ cc.toInt) : ∃ z, own_max (1 : Int32) ((10000 : Int32) / cc) = z ∧ own_szp cc z := by
  refine ⟨_, rfl, ?_⟩
  have hne : cc ≠ -1 := fun q => by rw [q] at h; exact absurd h (by decide)
  have e1 : (1 : Int32).toInt = 1 := by decide
  have e2 : (10000 : Int32).toInt = 10000 := by decide
  have d := (c_idiv (10000 : Int32) cc _ rfl hne).1 (by decide)
  rw [e2] at d
  have d1 := Int.mul_ediv_add_emod 10000 cc.toInt
  have d2 := Int.emod_nonneg 10000 (show cc.toInt ≠ 0 by omega)
  have d3 := Int.emod_lt_of_pos 10000 (show 0 < cc.toInt by omega)
  have d4 : 0 ≤ 10000 / cc.toInt := Int.ediv_nonneg (by decide) (by omega)
  have d5 : 10000 / cc.toInt ≤ 10000 := Int.ediv_le_self _ (by decide)
  have d6 : ((10000 / cc.toInt) + 1) * cc.toInt = cc.toInt * (10000 / cc.toInt) + cc.toInt := by rw [Int.add_mul, Int.one_mul, Int.mul_comm]
  have d7 : (10000 / cc.toInt) * cc.toInt = cc.toInt * (10000 / cc.toInt) := Int.mul_comm _ _
  unfold own_max own_szp
  by_cases q : (1 : Int32) < (10000 : Int32) / cc
  · rw [if_pos q, d]
    rw [Int32.lt_iff_toInt_lt, d, e1] at q
    refine ⟨by omega, d5, fun _ => by omega, by omega⟩
  · rw [if_neg q, e1]
    rw [Int32.lt_iff_toInt_lt, d, e1] at q
    refine ⟨by decide, by decide, fun z => absurd z (by decide), ?_⟩
    have d8 : (10000 / cc.toInt + 1) * cc.toInt ≤ (1 + 1) * cc.toInt := Int.mul_le_mul_of_nonneg_right (by omega) (by omega)
    omega
theorem own_mulz {cc j z : Int32} (h : own_szp cc z) (h0 : 0 ≤ j.toInt) (h8 : j.toInt ≤ 8) : (j * z).toInt = j.toInt * z.toInt := by
  have a := c_imul j z
  have r := rng32 (j * z)
  have b1 : 0 ≤ j.toInt * z.toInt := Int.mul_nonneg h0 (by have := h.1; omega)
  have b2 : j.toInt * z.toInt ≤ 8 * 10000 := Int.mul_le_mul h8 h.2.1 (by have := h.1; omega) (by decide)
  omega
theorem own_run {cc nn sz mm ii oo kq : Int32} (hz : own_szp cc sz) (hc : own_cnt nn sz mm) (hn7 : ¬ (7 : Int32) < nn) (il : ¬ ii < (0 : Int32)) (iu : ii < mm) (ho : oo = ii * sz) (hk : kq = own_min nn (oo + sz) - oo) :
    0 ≤ oo.toInt ∧ 1 ≤ kq.toInt ∧ oo.toInt + kq.toInt ≤ nn.toInt ∧ kq.toInt ≤ sz.toInt ∧ (ii.toInt + 1 = mm.toInt → oo.toInt + kq.toInt = nn.toInt) ∧ (ii.toInt + 1 ≠ mm.toInt → kq.toInt = sz.toInt) := by
  have e0 : (0 : Int32).toInt = 0 := by decide
  have e7 : (7 : Int32).toInt = 7 := by decide
  rw [Int32.lt_iff_toInt_lt, e7] at hn7
  rw [Int32.lt_iff_toInt_lt, e0] at il
  rw [Int32.lt_iff_toInt_lt] at iu
  obtain ⟨c1, c2, c3, c4⟩ := hc
  have z1 := hz.1
  have z2 := hz.2.1
  have o1 := own_mulz (j := ii) hz (by omega) (by omega)
  rw [← ho] at o1
  have o2 : 0 ≤ ii.toInt * sz.toInt := Int.mul_nonneg (by omega) (by omega)
  have o3 : ii.toInt * sz.toInt ≤ (mm.toInt - 1) * sz.toInt := Int.mul_le_mul_of_nonneg_right (by omega) (by omega)
  have o4 : (ii.toInt + 1) * sz.toInt = ii.toInt * sz.toInt + sz.toInt := by rw [Int.add_mul, Int.one_mul]
  have o5 : ii.toInt + 1 ≠ mm.toInt → (ii.toInt + 1) * sz.toInt ≤ (mm.toInt - 1) * sz.toInt := fun q => Int.mul_le_mul_of_nonneg_right (by omega) (by omega)
  have o6 : ii.toInt + 1 = mm.toInt → (ii.toInt + 1) * sz.toInt = mm.toInt * sz.toInt := fun q => by rw [q]
  have a1 := c_iadd oo sz
  have r1 := rng32 (oo + sz)
  have s1 := c_isub (own_min nn (oo + sz)) oo
  have r2 := rng32 (own_min nn (oo + sz) - oo)
  rw [← hk] at s1 r2
  generalize ii.toInt * sz.toInt = P at *
  generalize (ii.toInt + 1) * sz.toInt = P1 at *
  generalize (mm.toInt - 1) * sz.toInt = M1 at *
  generalize mm.toInt * sz.toInt = M at *
  have a2 : (oo + sz).toInt = oo.toInt + sz.toInt := by omega
  unfold own_min at s1
  by_cases q : (oo + sz) < nn
  · rw [if_pos q] at s1
    rw [Int32.lt_iff_toInt_lt, a2] at q
    have k1 : kq.toInt = sz.toInt := by omega
    refine ⟨by omega, by omega, by omega, by omega, fun h => ?_, fun _ => k1⟩
    have := o6 h
    omega
  · rw [if_neg q] at s1
    rw [Int32.lt_iff_toInt_lt, a2] at q
    have k1 : kq.toInt = nn.toInt - oo.toInt := by omega
    refine ⟨by omega, by omega, by omega, by omega, fun _ => by omega, fun h => ?_⟩
    have := o5 h
    omega
theorem own_next {cc nn sz mm ii oo kq pp : Int32} (hz : own_szp cc sz) (hc : own_cnt nn sz mm) (hn7 : ¬ (7 : Int32) < nn) (il : ¬ ii < (0 : Int32)) (iu : ii < mm) (ho : oo = ii * sz) (hk : kq = own_min nn (oo + sz) - oo) (hp : pp = oo) : own_pos mm nn sz (ii + (1 : Int32)) (pp + kq) := by
  have r := own_run hz hc hn7 il iu ho hk
  have e0 : (0 : Int32).toInt = 0 := by decide
  have e1 : (1 : Int32).toInt = 1 := by decide
  have e7 : (7 : Int32).toInt = 7 := by decide
  rw [Int32.lt_iff_toInt_lt, e7] at hn7
  rw [Int32.lt_iff_toInt_lt, e0] at il
  rw [Int32.lt_iff_toInt_lt] at iu
  have a1 := c_iadd ii (1 : Int32)
  have b1 := rng32 (ii + (1 : Int32))
  have m7 := hc.2.1
  rw [e1] at a1
  have i1 : (ii + (1 : Int32)).toInt = ii.toInt + 1 := by omega
  subst hp
  by_cases q : ii.toInt + 1 = mm.toInt
  · refine Or.inr ⟨by rw [Int32.lt_iff_toInt_lt, i1]; omega, ?_⟩
    have a2 := c_iadd pp kq
    have b2 := rng32 (pp + kq)
    have q1 := r.2.2.2.2.1 q
    rw [← Int32.toInt_inj]
    have n1 := rng32 nn
    omega
  · refine Or.inl ⟨by rw [Int32.lt_iff_toInt_lt, i1]; omega, ?_⟩
    have k1 : kq = sz := by rw [← Int32.toInt_inj]; exact r.2.2.2.2.2 q
    rw [k1, Int32.add_mul, Int32.one_mul, ← ho]
theorem own_posE {mm nn sz i p : Int32} (h : own_pos mm nn sz i p) (q : i < mm) : p = i * sz := by
  rcases h with h | h
  · exact h.2
  · exact absurd q h.1
theorem own_ppos {cc mm nn sz ii p : Int32} (hz : own_szp cc sz) (hc : own_cnt nn sz mm) (hn1 : 1 ≤ nn.toInt) (il : ¬ ii < (0 : Int32)) (h : own_pos mm nn sz ii p) : ¬ p < (0 : Int32) := by
  have e0 : (0 : Int32).toInt = 0 := by decide
  rw [Int32.lt_iff_toInt_lt, e0] at il
  rw [Int32.lt_iff_toInt_lt, e0]
  rcases h with ⟨h1, h2⟩ | ⟨-, h2⟩
  · rw [Int32.lt_iff_toInt_lt] at h1
    have m7 := hc.2.1
    rw [h2, own_mulz hz (by omega) (by omega)]
    have := Int.mul_nonneg (show 0 ≤ ii.toInt by omega) (show 0 ≤ sz.toInt by have := hz.1; omega)
    omega
  · rw [h2]; omega
theorem own_stay {mm nn sz ii p : Int32} (iu : ii.toInt ≤ 7) (h : own_pos mm nn sz ii p) (q : ¬ ii < mm) : own_pos mm nn sz (ii + (1 : Int32)) p := by
  have e1 : (1 : Int32).toInt = 1 := by decide
  have a1 := c_iadd ii (1 : Int32)
  have b1 := rng32 (ii + (1 : Int32))
  have b2 := rng32 ii
  rw [e1] at a1
  rcases h with h | h
  · exact absurd h.1 q
  · refine Or.inr ⟨?_, h.2⟩
    rw [Int32.lt_iff_toInt_lt] at q ⊢
    omega
theorem own_pos0 {nn sz mm : Int32} (hc : own_cnt nn sz mm) : own_pos mm nn sz (0 : Int32) (0 : Int32) := by
  have e0 : (0 : Int32).toInt = 0 := by decide
  refine Or.inl ⟨?_, by simp⟩
  rw [Int32.lt_iff_toInt_lt, e0]
  have := hc.1
  omega
theorem own_pos8 {nn sz mm p : Int32} (hc : own_cnt nn sz mm) (h : own_pos mm nn sz (8 : Int32) p) : p = nn := by
  have e8 : (8 : Int32).toInt = 8 := by decide
  rcases h with ⟨h, -⟩ | h
  · rw [Int32.lt_iff_toInt_lt, e8] at h
    have := hc.2.1
    omega
  · exact h.2
theorem own_k1 {k : Int32} (h : 1 ≤ k.toInt) : ¬ k < (1 : Int32) := by
  have e1 : (1 : Int32).toInt = 1 := by decide
  rw [Int32.lt_iff_toInt_lt, e1]
  omega
theorem own_lmul {a b : Int32} : (a.toInt64 * b.toInt64).toInt = a.toInt * b.toInt := by
  have q := c_lmul a.toInt64 b.toInt64
  have r := rng64 (a.toInt64 * b.toInt64)
  have ra := rng32 a
  have rb := rng32 b
  rw [c_i2l, c_i2l] at q
  have h1 : (a.toInt * b.toInt).natAbs ≤ 2147483648 * 2147483648 := by rw [Int.natAbs_mul]; exact Nat.mul_le_mul (by omega) (by omega)
  generalize a.toInt * b.toInt = P at *
  omega
theorem own_c1 {cc sz k : Int32} (hz : own_szp cc sz) (hcc : 1 ≤ cc.toInt) (hk : k.toInt ≤ sz.toInt) (h : (1 : Int32) < k) : ¬ (0 : Int32) < lcmpW (k.toInt64 * cc.toInt64) (10000 : Int64) := by
  have e1 : (1 : Int32).toInt = 1 := by decide
  have e2 : (10000 : Int64).toInt = 10000 := by decide
  rw [Int32.lt_iff_toInt_lt, e1] at h
  rw [lw_gt, Int64.lt_iff_toInt_lt, own_lmul, e2]
  have a := hz.2.2.1 (by omega)
  have b : k.toInt * cc.toInt ≤ sz.toInt * cc.toInt := Int.mul_le_mul_of_nonneg_right hk (by omega)
  omega
theorem own_c2 {cc sz k : Int32} (hz : own_szp cc sz) (hk : k.toInt = sz.toInt) : (0 : Int32) < lcmpW ((k + (1 : Int32)).toInt64 * cc.toInt64) (10000 : Int64) := by
  have e1 : (1 : Int32).toInt = 1 := by decide
  have e2 : (10000 : Int64).toInt = 10000 := by decide
  have a := c_iadd k (1 : Int32)
  have r := rng32 (k + (1 : Int32))
  have z1 := hz.1
  have z2 := hz.2.1
  rw [e1] at a
  have k1 : (k + (1 : Int32)).toInt = sz.toInt + 1 := by omega
  rw [lw_gt, Int64.lt_iff_toInt_lt, own_lmul, e2, k1]
  exact hz.2.2.2
theorem own_nlast {nn sz mm ii : Int32} (hc : own_cnt nn sz mm) (h : ¬ ii = (mm - (1 : Int32))) : ii.toInt + 1 ≠ mm.toInt := fun q => h (by
  have e1 : (1 : Int32).toInt = 1 := by decide
  have a := c_isub mm (1 : Int32)
  have r := rng32 (mm - (1 : Int32))
  have c1 := hc.1
  have c2 := hc.2.1
  rw [e1] at a
  rw [← Int32.toInt_inj]
  omega)
theorem own_m7 {nn sz mm : Int32} (hc : own_cnt nn sz mm) : ¬ (7 : Int32) < mm := by
  have e7 : (7 : Int32).toInt = 7 := by decide
  have := hc.2.1
  rw [Int32.lt_iff_toInt_lt, e7]
  omega
theorem own_min_le (u v : Int32) : ¬ u < own_min u v := by
  unfold own_min
  by_cases q : v < u
  · rw [if_pos q]
    rw [Int32.lt_iff_toInt_lt] at *
    omega
  · rw [if_neg q, Int32.lt_iff_toInt_lt]
    omega
theorem own_osum {a b o z : Int32} (h : o = a * z) (q : a + (1 : Int32) = b) : o + z = b * z := by rw [h, ← q, Int32.add_mul, Int32.one_mul]
theorem own_onn {cc j o z : Int32} (h : own_szp cc z) (ho : o = j * z) (h0 : 0 ≤ j.toInt) (h8 : j.toInt ≤ 8) : ¬ o < (0 : Int32) := by
  have e0 : (0 : Int32).toInt = 0 := by decide
  rw [Int32.lt_iff_toInt_lt, e0, ho, own_mulz h h0 h8]
  have := Int.mul_nonneg h0 (show 0 ≤ z.toInt by have := h.1; omega)
  omega
theorem own_loe {cc nn j o z : Int32} (h : own_szp cc z) (hn7 : ¬ (7 : Int32) < nn) (ho : o = j * z) (h0 : 0 ≤ j.toInt) (h8 : j.toInt ≤ 8) (hl : o < nn) : ¬ own_min nn (o + z) < o := by
  have e7 : (7 : Int32).toInt = 7 := by decide
  rw [Int32.lt_iff_toInt_lt, e7] at hn7
  rw [Int32.lt_iff_toInt_lt] at hl
  have a := c_iadd o z
  have r := rng32 (o + z)
  have z1 := h.1
  have z2 := h.2.1
  have o0 := own_onn h ho h0 h8
  have e0 : (0 : Int32).toInt = 0 := by decide
  rw [Int32.lt_iff_toInt_lt, e0] at o0
  unfold own_min
  rw [Int32.lt_iff_toInt_lt]
  by_cases q : (o + z) < nn
  · rw [if_pos q]; omega
  · rw [if_neg q]; omega
theorem own_o7 {cc nn o z : Int32} (h : own_szp cc z) (hn7 : ¬ (7 : Int32) < nn) (ho : o = (7 : Int32) * z) : ¬ o < nn := by
  have e7 : (7 : Int32).toInt = 7 := by decide
  have m := own_mulz (j := (7 : Int32)) h (by decide) (by decide)
  rw [Int32.lt_iff_toInt_lt, e7] at hn7
  rw [Int32.lt_iff_toInt_lt, ho, m, e7]
  have := h.1
  omega
theorem own_o0 {nn o z : Int32} (hn1 : 1 ≤ nn.toInt) (ho : o = (0 : Int32) * z) : o < nn := by
  have e0 : (0 : Int32).toInt = 0 := by decide
  rw [ho, Int32.zero_mul, Int32.lt_iff_toInt_lt, e0]
  omega
theorem own_cntj {cc nn sz i j o o' : Int32} (h : own_szp cc sz) (hj : i.toInt + 1 = j.toInt) (h1 : 1 ≤ j.toInt) (h7 : j.toInt ≤ 7) (ho : o = i * sz) (hl : o < nn) (ho' : o' = j * sz) (hg : ¬ o' < nn) : own_cnt nn sz j := by
  have a := own_mulz (j := i) h (by omega) (by omega)
  have b := own_mulz (j := j) h (by omega) (by omega)
  rw [← ho] at a
  rw [← ho'] at b
  rw [Int32.lt_iff_toInt_lt] at hl hg
  refine ⟨h1, h7, ?_, by omega⟩
  have e : j.toInt - 1 = i.toInt := by omega
  rw [e]
  omega
theorem own_all1 {P : Int32 → Prop} (p0 : P (0 : Int32)) : ∀ i : Int32, ¬ i < (0 : Int32) → i < (1 : Int32) → P i := fun i h1 h2 => by
  have e0 : (0 : Int32).toInt = 0 := by decide
  have eK : (1 : Int32).toInt = 1 := by decide
  rw [Int32.lt_iff_toInt_lt, e0] at h1
  rw [Int32.lt_iff_toInt_lt, eK] at h2
  by_cases q0 : i = (0 : Int32)
  · exact q0 ▸ p0
  rw [← Int32.toInt_inj, show (0 : Int32).toInt = 0 from by decide] at q0
  omega
theorem own_all2 {P : Int32 → Prop} (p0 : P (0 : Int32)) (p1 : P (1 : Int32)) : ∀ i : Int32, ¬ i < (0 : Int32) → i < (2 : Int32) → P i := fun i h1 h2 => by
  have e0 : (0 : Int32).toInt = 0 := by decide
  have eK : (2 : Int32).toInt = 2 := by decide
  rw [Int32.lt_iff_toInt_lt, e0] at h1
  rw [Int32.lt_iff_toInt_lt, eK] at h2
  by_cases q0 : i = (0 : Int32)
  · exact q0 ▸ p0
  by_cases q1 : i = (1 : Int32)
  · exact q1 ▸ p1
  rw [← Int32.toInt_inj, show (0 : Int32).toInt = 0 from by decide] at q0
  rw [← Int32.toInt_inj, show (1 : Int32).toInt = 1 from by decide] at q1
  omega
theorem own_all3 {P : Int32 → Prop} (p0 : P (0 : Int32)) (p1 : P (1 : Int32)) (p2 : P (2 : Int32)) : ∀ i : Int32, ¬ i < (0 : Int32) → i < (3 : Int32) → P i := fun i h1 h2 => by
  have e0 : (0 : Int32).toInt = 0 := by decide
  have eK : (3 : Int32).toInt = 3 := by decide
  rw [Int32.lt_iff_toInt_lt, e0] at h1
  rw [Int32.lt_iff_toInt_lt, eK] at h2
  by_cases q0 : i = (0 : Int32)
  · exact q0 ▸ p0
  by_cases q1 : i = (1 : Int32)
  · exact q1 ▸ p1
  by_cases q2 : i = (2 : Int32)
  · exact q2 ▸ p2
  rw [← Int32.toInt_inj, show (0 : Int32).toInt = 0 from by decide] at q0
  rw [← Int32.toInt_inj, show (1 : Int32).toInt = 1 from by decide] at q1
  rw [← Int32.toInt_inj, show (2 : Int32).toInt = 2 from by decide] at q2
  omega
theorem own_all4 {P : Int32 → Prop} (p0 : P (0 : Int32)) (p1 : P (1 : Int32)) (p2 : P (2 : Int32)) (p3 : P (3 : Int32)) : ∀ i : Int32, ¬ i < (0 : Int32) → i < (4 : Int32) → P i := fun i h1 h2 => by
  have e0 : (0 : Int32).toInt = 0 := by decide
  have eK : (4 : Int32).toInt = 4 := by decide
  rw [Int32.lt_iff_toInt_lt, e0] at h1
  rw [Int32.lt_iff_toInt_lt, eK] at h2
  by_cases q0 : i = (0 : Int32)
  · exact q0 ▸ p0
  by_cases q1 : i = (1 : Int32)
  · exact q1 ▸ p1
  by_cases q2 : i = (2 : Int32)
  · exact q2 ▸ p2
  by_cases q3 : i = (3 : Int32)
  · exact q3 ▸ p3
  rw [← Int32.toInt_inj, show (0 : Int32).toInt = 0 from by decide] at q0
  rw [← Int32.toInt_inj, show (1 : Int32).toInt = 1 from by decide] at q1
  rw [← Int32.toInt_inj, show (2 : Int32).toInt = 2 from by decide] at q2
  rw [← Int32.toInt_inj, show (3 : Int32).toInt = 3 from by decide] at q3
  omega
theorem own_all5 {P : Int32 → Prop} (p0 : P (0 : Int32)) (p1 : P (1 : Int32)) (p2 : P (2 : Int32)) (p3 : P (3 : Int32)) (p4 : P (4 : Int32)) : ∀ i : Int32, ¬ i < (0 : Int32) → i < (5 : Int32) → P i := fun i h1 h2 => by
  have e0 : (0 : Int32).toInt = 0 := by decide
  have eK : (5 : Int32).toInt = 5 := by decide
  rw [Int32.lt_iff_toInt_lt, e0] at h1
  rw [Int32.lt_iff_toInt_lt, eK] at h2
  by_cases q0 : i = (0 : Int32)
  · exact q0 ▸ p0
  by_cases q1 : i = (1 : Int32)
  · exact q1 ▸ p1
  by_cases q2 : i = (2 : Int32)
  · exact q2 ▸ p2
  by_cases q3 : i = (3 : Int32)
  · exact q3 ▸ p3
  by_cases q4 : i = (4 : Int32)
  · exact q4 ▸ p4
  rw [← Int32.toInt_inj, show (0 : Int32).toInt = 0 from by decide] at q0
  rw [← Int32.toInt_inj, show (1 : Int32).toInt = 1 from by decide] at q1
  rw [← Int32.toInt_inj, show (2 : Int32).toInt = 2 from by decide] at q2
  rw [← Int32.toInt_inj, show (3 : Int32).toInt = 3 from by decide] at q3
  rw [← Int32.toInt_inj, show (4 : Int32).toInt = 4 from by decide] at q4
  omega
theorem own_all6 {P : Int32 → Prop} (p0 : P (0 : Int32)) (p1 : P (1 : Int32)) (p2 : P (2 : Int32)) (p3 : P (3 : Int32)) (p4 : P (4 : Int32)) (p5 : P (5 : Int32)) : ∀ i : Int32, ¬ i < (0 : Int32) → i < (6 : Int32) → P i := fun i h1 h2 => by
  have e0 : (0 : Int32).toInt = 0 := by decide
  have eK : (6 : Int32).toInt = 6 := by decide
  rw [Int32.lt_iff_toInt_lt, e0] at h1
  rw [Int32.lt_iff_toInt_lt, eK] at h2
  by_cases q0 : i = (0 : Int32)
  · exact q0 ▸ p0
  by_cases q1 : i = (1 : Int32)
  · exact q1 ▸ p1
  by_cases q2 : i = (2 : Int32)
  · exact q2 ▸ p2
  by_cases q3 : i = (3 : Int32)
  · exact q3 ▸ p3
  by_cases q4 : i = (4 : Int32)
  · exact q4 ▸ p4
  by_cases q5 : i = (5 : Int32)
  · exact q5 ▸ p5
  rw [← Int32.toInt_inj, show (0 : Int32).toInt = 0 from by decide] at q0
  rw [← Int32.toInt_inj, show (1 : Int32).toInt = 1 from by decide] at q1
  rw [← Int32.toInt_inj, show (2 : Int32).toInt = 2 from by decide] at q2
  rw [← Int32.toInt_inj, show (3 : Int32).toInt = 3 from by decide] at q3
  rw [← Int32.toInt_inj, show (4 : Int32).toInt = 4 from by decide] at q4
  rw [← Int32.toInt_inj, show (5 : Int32).toInt = 5 from by decide] at q5
  omega
theorem own_all7 {P : Int32 → Prop} (p0 : P (0 : Int32)) (p1 : P (1 : Int32)) (p2 : P (2 : Int32)) (p3 : P (3 : Int32)) (p4 : P (4 : Int32)) (p5 : P (5 : Int32)) (p6 : P (6 : Int32)) : ∀ i : Int32, ¬ i < (0 : Int32) → i < (7 : Int32) → P i := fun i h1 h2 => by
  have e0 : (0 : Int32).toInt = 0 := by decide
  have eK : (7 : Int32).toInt = 7 := by decide
  rw [Int32.lt_iff_toInt_lt, e0] at h1
  rw [Int32.lt_iff_toInt_lt, eK] at h2
  by_cases q0 : i = (0 : Int32)
  · exact q0 ▸ p0
  by_cases q1 : i = (1 : Int32)
  · exact q1 ▸ p1
  by_cases q2 : i = (2 : Int32)
  · exact q2 ▸ p2
  by_cases q3 : i = (3 : Int32)
  · exact q3 ▸ p3
  by_cases q4 : i = (4 : Int32)
  · exact q4 ▸ p4
  by_cases q5 : i = (5 : Int32)
  · exact q5 ▸ p5
  by_cases q6 : i = (6 : Int32)
  · exact q6 ▸ p6
  rw [← Int32.toInt_inj, show (0 : Int32).toInt = 0 from by decide] at q0
  rw [← Int32.toInt_inj, show (1 : Int32).toInt = 1 from by decide] at q1
  rw [← Int32.toInt_inj, show (2 : Int32).toInt = 2 from by decide] at q2
  rw [← Int32.toInt_inj, show (3 : Int32).toInt = 3 from by decide] at q3
  rw [← Int32.toInt_inj, show (4 : Int32).toInt = 4 from by decide] at q4
  rw [← Int32.toInt_inj, show (5 : Int32).toInt = 5 from by decide] at q5
  rw [← Int32.toInt_inj, show (6 : Int32).toInt = 6 from by decide] at q6
  omega
theorem own_n7 (x : Int32) : ∃ z, (x &&& (7 : Int32)) = z ∧ ¬ (7 : Int32) < z ∧ ¬ z < (0 : Int32) := by
  refine ⟨_, rfl, ?_⟩
  have b := c_mask x (7 : Int32) 3 (by decide) (by decide)
  have e0 : (0 : Int32).toInt = 0 := by decide
  have e7 : (7 : Int32).toInt = 7 := by decide
  rw [Int32.lt_iff_toInt_lt, Int32.lt_iff_toInt_lt, b, e0, e7]
  omega
theorem own_cc1 (x : Int32) : 1 ≤ ((1 : Int32) + (x &&& (16383 : Int32))).toInt := by
  have b := c_mask x (16383 : Int32) 14 (by decide) (by decide)
  have e1 : (1 : Int32).toInt = 1 := by decide
  have a := c_iadd (1 : Int32) (x &&& (16383 : Int32))
  have r := rng32 ((1 : Int32) + (x &&& (16383 : Int32)))
  rw [e1] at a
  omega
theorem own_cc2 (y : Int32) : 1 ≤ (own_max (1 : Int32) y).toInt := by
  have e1 : (1 : Int32).toInt = 1 := by decide
  unfold own_max
  by_cases q : (1 : Int32) < y
  · rw [if_pos q]
    rw [Int32.lt_iff_toInt_lt, e1] at q
    omega
  · rw [if_neg q, e1]
    omega
theorem own_eq0 {n : Int32} (h : ¬ n < (0 : Int32)) (q : ¬ (0 : Int32) < n) : n = (0 : Int32) := by
  rw [Int32.lt_iff_toInt_lt] at h q
  rw [← Int32.toInt_inj]
  omega
theorem own_eqk {i k n : Int32} (h : i < n) (q : ¬ k < n) (e : i.toInt + 1 = k.toInt) : n = k := by
  rw [Int32.lt_iff_toInt_lt] at h q
  rw [← Int32.toInt_inj]
  omega
theorem own_neq {b a n m : Nat} (h : b < n ∨ m ≤ b) (h1 : n ≤ a) (h2 : a < m) : b ≠ a := by omega
theorem own_m8 {nn sz mm : Int32} (hc : own_cnt nn sz mm) : ¬ (8 : Int32) < mm := by
  have e8 : (8 : Int32).toInt = 8 := by decide
  have := hc.2.1
  rw [Int32.lt_iff_toInt_lt, e8]
  omega
theorem own_nz {n : Int32} (h : 1 ≤ n.toInt) : ¬ n = (0 : Int32) := fun q => by
  rw [q] at h
  exact absurd h (by decide)
theorem own_al_acol_d0 : decode jdk_22_method_1_code 0 = .ok (.aload_n 0, 1) := by decide +kernel
theorem own_al_acol_d1 : decode jdk_22_method_1_code 1 = .ok (.invokespecial 1, 3) := by decide +kernel
theorem own_al_acol_d4 : decode jdk_22_method_1_code 4 = .ok (.return_, 1) := by decide +kernel
theorem own_al_acol_pn : plainName "java/util/AbstractCollection" = true := by first | (simp [plainName, overriddenIn]; done) | decide +kernel
theorem own_al_acol_ef (m : MethodId) (x0 : Addr) : entryFrame m #[(.ref x0)] 1 = mkF m 0 #[.val (.ref x0)] [] := by first | (simp [entryFrame, mkF, argsToLocals, Value.category]; done) | rfl
def own_al_acol_Q (Z : State) (a : Addr) (h0 : Heap) (n0 : Nat) (vv_ : Option Value) (hh_ : Heap) (LL_ : List Loc) : Prop := vv_ = none ∧ Fr n0 LL_ ∧ hh_ = h0
set_option maxRecDepth 65536 in
set_option maxHeartbeats 40000000 in
theorem own_al_acol (l : Launch) (Z : State) (a0 : Array Value) (hw : ∀ d ∈ tables_1, d.before a0 Z = true) (ws : List Jvm.Cond) (a : Addr) (h0 : Heap) (n0 : Nat) (Z0 : n0 ≤ h0.size) :
    MetFree l (⟨"java/util/AbstractCollection", "<init>", "()V"⟩ : MethodName) (head1 (Jvm.Cond.code (⟨"java/util/AbstractCollection", "<init>", "()V"⟩ : MethodName) jdk_22_method_1_code 1 none :: ws) ({ frames := 1, cells := 0, slots := 0, locals := 12 } : Room)) (fun aa_ UU_ => aa_ = #[(.ref a)] ∧ Z.Warmed39 UU_.vm ∧ UU_.heap = h0) (fun _ _ _ _ _ => True) (fun _ UU_ oo_ UV_ => ∃ vv_ LL_, oo_ = .returned vv_ ∧ own_al_acol_Q Z a h0 n0 vv_ UV_.heap LL_ ∧ FrameEnd UU_ oo_ UV_ LL_ ({ frames := 1, cells := 0, slots := 0, locals := 12 } : Room).cells ({ frames := 1, cells := 0, slots := 0, locals := 12 } : Room).slots) := by
  refine MetFree.of_bodySF (plainFor_of_name own_al_acol_pn) hisR ?_
  intro p e s m args below meth c s₁ Bd hml0 hP hK
  obtain ⟨rfl, hZ, hh⟩ := hP
  have hx := Bd.exec
  have hby := Bd.bytes
  have hml : c.maxLocals = 1 := hml0
  have hown : s.vm.findClass "java/util/AbstractCollection" = some m.cls := findClass_of_methodNamed Bd.named
  have hnm := (name_of_methodNamed Bd.named Bd.method).1
  have X0 : Stand p l e ({ frames := 1, cells := 0, slots := 0, locals := 12 } : Room) s m #[(.ref a)] below meth c s₁ [] 0 0 := Stand.of_body Bd
  have e0 : s₁.heap = h0 := by rw [← hh, Bd.state]; rfl
  have N0 := Fr.nil n0
  have KP0 : Keep h0 h0 [] := Keep.refl _ _
  refine ownFin (Q := own_al_acol_Q Z a h0 n0) ?_
  refine ownStep (fun _ k => castTop (own_al_acol_ef m a) k) ?_
  show ownGo p.tables e below (s₁.setTop (mkF m 0 #[.val (.ref a)] [])) _
  refine ownStep (fun _ k => XS.aloadN X0.here hx rfl (hb hby own_al_acol_d0) rfl rfl k) ?_
  show ownGo p.tables e below (s₁.setTop (mkF m 1 #[.val (.ref a)] [(.ref a)])) _
  obtain ⟨T1, X1, e1, st1⟩ := initO X0 hx hZ hown (hw _ (List.mem_of_getElem? (i := 23) rfl)) (hw _ (List.mem_of_getElem? (i := 24) rfl)) (hw _ (List.mem_of_getElem? (i := 25) rfl)) e0 (g := (mkF m 1 #[.val (.ref a)] [(.ref a)])) rfl (by rw [hml]; rfl) rfl (hb hby own_al_acol_d1) (by decide) (W := 0) (by show 2 * 0 + _ ≤ _; exact Nat.le_of_eq rfl) (by decide)
  refine ownStep st1 ?_
  show ownGo p.tables e below (T1.setTop (mkF m 4 #[.val (.ref a)] [])) _
  exact ownRet X1 (v := none) Bd.notSynchronized (fun _ => rfl) (fun _ hr => X1.returnOut hx Bd.returns (hb hby own_al_acol_d4) hr) (by rw [e1]; exact ⟨rfl, N0, rfl⟩) (by decide) (by decide)
theorem own_al_alist_d0 : decode jdk_39_method_1_code 0 = .ok (.aload_n 0, 1) := by decide +kernel
theorem own_al_alist_d1 : decode jdk_39_method_1_code 1 = .ok (.invokespecial 1, 3) := by decide +kernel
theorem own_al_alist_d4 : decode jdk_39_method_1_code 4 = .ok (.aload_n 0, 1) := by decide +kernel
theorem own_al_alist_d5 : decode jdk_39_method_1_code 5 = .ok (.iconst 0, 1) := by decide +kernel
theorem own_al_alist_d6 : decode jdk_39_method_1_code 6 = .ok (.putfield 7, 3) := by decide +kernel
theorem own_al_alist_d9 : decode jdk_39_method_1_code 9 = .ok (.return_, 1) := by decide +kernel
theorem own_al_alist_pn : plainName "java/util/AbstractList" = true := by first | (simp [plainName, overriddenIn]; done) | decide +kernel
theorem own_al_alist_pd0 : parseMethodDescriptor "()V" = some ⟨[], none⟩ := by decide +kernel
theorem own_al_alist_ef (m : MethodId) (x0 : Addr) : entryFrame m #[(.ref x0)] 1 = mkF m 0 #[.val (.ref x0)] [] := by first | (simp [entryFrame, mkF, argsToLocals, Value.category]; done) | rfl
def own_al_alist_Q (Z : State) (a : Addr) (h0 : Heap) (n0 : Nat) (vv_ : Option Value) (hh_ : Heap) (LL_ : List Loc) : Prop := vv_ = none ∧ Fr n0 LL_ ∧ Keep h0 hh_ [a] ∧ (Fld Z hh_ a "java/util/ArrayList" "elementData" "[Ljava/lang/Object;" .null) ∧ (Fld Z hh_ a "java/util/ArrayList" "size" "I" (.int (0 : Int32))) ∧ (Fld Z hh_ a "java/util/AbstractList" "modCount" "I" (.int (0 : Int32)))
set_option maxRecDepth 65536 in
set_option maxHeartbeats 40000000 in
theorem own_al_alist (l : Launch) (Z : State) (a0 : Array Value) (hw : ∀ d ∈ tables_1, d.before a0 Z = true) (ws : List Jvm.Cond) (a : Addr) (h0 : Heap) (n0 : Nat) (Z0 : n0 ≤ h0.size) (E : Exa Z h0 a "java/util/ArrayList") (Fe : Fld Z h0 a "java/util/ArrayList" "elementData" "[Ljava/lang/Object;" .null) (Fs : Fld Z h0 a "java/util/ArrayList" "size" "I" (.int (0 : Int32))) (Fm : Fld Z h0 a "java/util/AbstractList" "modCount" "I" (.int (0 : Int32))) (g : n0 ≤ a) :
    MetFree l (⟨"java/util/AbstractList", "<init>", "()V"⟩ : MethodName) (head1 (Jvm.Cond.code (⟨"java/util/AbstractList", "<init>", "()V"⟩ : MethodName) jdk_39_method_1_code 1 none :: ws) ({ frames := 2, cells := 0, slots := 0, locals := 24 } : Room)) (fun aa_ UU_ => aa_ = #[(.ref a)] ∧ Z.Warmed39 UU_.vm ∧ UU_.heap = h0) (fun _ _ _ _ _ => True) (fun _ UU_ oo_ UV_ => ∃ vv_ LL_, oo_ = .returned vv_ ∧ own_al_alist_Q Z a h0 n0 vv_ UV_.heap LL_ ∧ FrameEnd UU_ oo_ UV_ LL_ ({ frames := 2, cells := 0, slots := 0, locals := 24 } : Room).cells ({ frames := 2, cells := 0, slots := 0, locals := 24 } : Room).slots) := by
  refine MetFree.of_bodySF (plainFor_of_name own_al_alist_pn) hisR ?_
  intro p e s m args below meth c s₁ Bd hml0 hP hK
  obtain ⟨rfl, hZ, hh⟩ := hP
  have hx := Bd.exec
  have hby := Bd.bytes
  have hml : c.maxLocals = 1 := hml0
  have hown : s.vm.findClass "java/util/AbstractList" = some m.cls := findClass_of_methodNamed Bd.named
  have hnm := (name_of_methodNamed Bd.named Bd.method).1
  have X0 : Stand p l e ({ frames := 2, cells := 0, slots := 0, locals := 24 } : Room) s m #[(.ref a)] below meth c s₁ [] 0 0 := Stand.of_body Bd
  have e0 : s₁.heap = h0 := by rw [← hh, Bd.state]; rfl
  have N0 := Fr.nil n0
  have KP0 : Keep h0 h0 [a] := Keep.refl _ _
  refine ownFin (Q := own_al_alist_Q Z a h0 n0) ?_
  refine ownStep (fun _ k => castTop (own_al_alist_ef m a) k) ?_
  show ownGo p.tables e below (s₁.setTop (mkF m 0 #[.val (.ref a)] [])) _
  refine ownStep (fun _ k => XS.aloadN X0.here hx rfl (hb hby own_al_alist_d0) rfl rfl k) ?_
  show ownGo p.tables e below (s₁.setTop (mkF m 1 #[.val (.ref a)] [(.ref a)])) _
  have Zs2 : n0 ≤ h0.size := Nat.le_trans Z0 KP0.1
  obtain ⟨_, _, ⟨T1, L1, k1, n1⟩, -, X1, ⟨Lc1, hQ1, l1, y1, z1⟩, st1⟩ := X0.specialBack hx (y := (⟨"java/util/AbstractCollection", "<init>", "()V"⟩ : MethodName)) rfl hown (mvT hZ (hw _ (List.mem_of_getElem? (i := 17) rfl))) (mvT hZ (hw _ (List.mem_of_getElem? (i := 18) rfl))) (mvT hZ (hw _ (List.mem_of_getElem? (i := 22) rfl))) (by decide) (backOf (W := 0) (own_al_acol l Z a0 hw [] a h0 n0 Zs2 ) hZ (hw _ (List.mem_of_getElem? (i := 22) rfl)) (hw _ (List.mem_of_getElem? (i := 21) rfl)) (by decide) (by decide)) (g := (mkF m 1 #[.val (.ref a)] [(.ref a)])) rfl (by rw [hml]; rfl) (Steps.refl _) (a := a) (argsL := []) (rest := []) (lenOf own_al_alist_pd0 rfl) rfl (by show 2 * 0 + _ ≤ _; exact Nat.le_of_eq rfl) (hb hby own_al_alist_d1) (fun _ _ => ⟨rfl, e0, (by decide : 0 + 0 ≤ _), (by decide : 0 + 0 ≤ _)⟩)
  dsimp only [Pt.U, Pt.locs, Pt.cells, Pt.slots] at X1 l1 y1 z1 st1 hQ1
  obtain rfl : k1 = 0 := y1
  obtain rfl : n1 = 0 := z1
  obtain ⟨rfl, N1q, R1⟩ := hQ1
  have N1 : Fr n0 L1 := l1 ▸ Fr.app N0 N1q
  refine ownStep (fun _ k => st1.trans k) ?_
  refine ownStep (fun _ k => XS.aloadN X1.here hx rfl (hb hby own_al_alist_d4) rfl rfl k) ?_
  refine ownStep (fun _ k => XS.iconst X1.here hx rfl (hb hby own_al_alist_d5) k) ?_
  show ownGo p.tables e below (T1.setTop (mkF m 6 #[.val (.ref a)] [(.int (0 : Int32)), (.ref a)])) _
  obtain ⟨T3, h3, X3, e3, W3, st3⟩ := putF X1 hx hZ hown (host := "") (Or.inl (hw _ (List.mem_of_getElem? (i := 26) rfl))) Via.refl R1 Fm E (Or.inl (hw _ (List.mem_of_getElem? (i := 27) rfl))) (hw _ (List.mem_of_getElem? (i := 6) rfl)) (ty := .int) (by decide) rfl rfl (g := (mkF m 6 #[.val (.ref a)] [(.int (0 : Int32)), (.ref a)])) rfl rfl (hb hby own_al_alist_d6)
  have N4 := Fr.snoc X3 N1 g
  have KP5 : Keep h0 h3 [a] := KP0.wr W3 (Or.inl (List.mem_of_getElem? (i := 0) rfl))
  have F6 : Fld Z h3 a "java/util/AbstractList" "modCount" "I" (.int (0 : Int32)) := Fm.same W3
  refine ownStep st3 ?_
  show ownGo p.tables e below (T3.setTop (mkF m 9 #[.val (.ref a)] [])) _
  have Q7 : Fld Z h3 a "java/util/ArrayList" "elementData" "[Ljava/lang/Object;" .null := (Fe.other W3 (Or.inr (slot_ne (Or.inl (hw _ (List.mem_of_getElem? (i := 30) rfl))) (Or.inl (hw _ (List.mem_of_getElem? (i := 27) rfl))) (by decide) (t := (.array (.object "java/lang/Object"))) (t' := .int) (by decide) (by decide))))
  have Q8 : Fld Z h3 a "java/util/ArrayList" "size" "I" (.int (0 : Int32)) := (Fs.other W3 (Or.inr (slot_ne (Or.inl (hw _ (List.mem_of_getElem? (i := 48) rfl))) (Or.inl (hw _ (List.mem_of_getElem? (i := 27) rfl))) (by decide) (t := .int) (t' := .int) (by decide) (by decide))))
  exact ownRet X3 (v := none) Bd.notSynchronized (fun _ => rfl) (fun _ hr => X3.returnOut hx Bd.returns (hb hby own_al_alist_d9) hr) (by rw [e3]; exact ⟨rfl, N4, KP5, Q7, Q8, F6⟩) (by decide) (by decide)
theorem own_al_init_d0 : decode jdk_38_method_2_code 0 = .ok (.aload_n 0, 1) := by decide +kernel
theorem own_al_init_d1 : decode jdk_38_method_2_code 1 = .ok (.invokespecial 1, 3) := by decide +kernel
theorem own_al_init_d4 : decode jdk_38_method_2_code 4 = .ok (.aload_n 0, 1) := by decide +kernel
theorem own_al_init_d5 : decode jdk_38_method_2_code 5 = .ok (.getstatic 39, 3) := by decide +kernel
theorem own_al_init_d8 : decode jdk_38_method_2_code 8 = .ok (.putfield 9, 3) := by decide +kernel
theorem own_al_init_d11 : decode jdk_38_method_2_code 11 = .ok (.return_, 1) := by decide +kernel
theorem own_al_init_pn : plainName "java/util/ArrayList" = true := by first | (simp [plainName, overriddenIn]; done) | decide +kernel
theorem own_al_init_pd0 : parseMethodDescriptor "()V" = some ⟨[], none⟩ := by decide +kernel
theorem own_al_init_ef (m : MethodId) (x0 : Addr) : entryFrame m #[(.ref x0)] 1 = mkF m 0 #[.val (.ref x0)] [] := by first | (simp [entryFrame, mkF, argsToLocals, Value.category]; done) | rfl
def own_al_init_Q (Z : State) (a : Addr) (ed : Addr) (h0 : Heap) (n0 : Nat) (vv_ : Option Value) (hh_ : Heap) (LL_ : List Loc) : Prop := vv_ = none ∧ Fr n0 LL_ ∧ Keep h0 hh_ [a] ∧ (Fld Z hh_ a "java/util/ArrayList" "elementData" "[Ljava/lang/Object;" (.ref ed)) ∧ (Fld Z hh_ a "java/util/ArrayList" "size" "I" (.int (0 : Int32))) ∧ (Fld Z hh_ a "java/util/AbstractList" "modCount" "I" (.int (0 : Int32)))
set_option maxRecDepth 65536 in
set_option maxHeartbeats 40000000 in
theorem own_al_init (l : Launch) (Z : State) (a0 : Array Value) (hw : ∀ d ∈ tables_1, d.before a0 Z = true) (ws : List Jvm.Cond) (a : Addr) (ed : Addr) (h0 : Heap) (n0 : Nat) (Z0 : n0 ≤ h0.size) (hOld : Old Z n0 h0) (S : Sta Z Z.heap "java/util/ArrayList" "DEFAULTCAPACITY_EMPTY_ELEMENTDATA" "[Ljava/lang/Object;" (.ref ed)) (E : Exa Z h0 a "java/util/ArrayList") (Fe : Fld Z h0 a "java/util/ArrayList" "elementData" "[Ljava/lang/Object;" .null) (Fs : Fld Z h0 a "java/util/ArrayList" "size" "I" (.int (0 : Int32))) (Fm : Fld Z h0 a "java/util/AbstractList" "modCount" "I" (.int (0 : Int32))) (g : n0 ≤ a) :
    MetFree l (⟨"java/util/ArrayList", "<init>", "()V"⟩ : MethodName) (head1 (Jvm.Cond.code (⟨"java/util/ArrayList", "<init>", "()V"⟩ : MethodName) jdk_38_method_2_code 1 none :: ws) ({ frames := 3, cells := 0, slots := 0, locals := 36 } : Room)) (fun aa_ UU_ => aa_ = #[(.ref a)] ∧ Z.Warmed39 UU_.vm ∧ UU_.heap = h0) (fun _ _ _ _ _ => True) (fun _ UU_ oo_ UV_ => ∃ vv_ LL_, oo_ = .returned vv_ ∧ own_al_init_Q Z a ed h0 n0 vv_ UV_.heap LL_ ∧ FrameEnd UU_ oo_ UV_ LL_ ({ frames := 3, cells := 0, slots := 0, locals := 36 } : Room).cells ({ frames := 3, cells := 0, slots := 0, locals := 36 } : Room).slots) := by
  refine MetFree.of_bodySF (plainFor_of_name own_al_init_pn) hisR ?_
  intro p e s m args below meth c s₁ Bd hml0 hP hK
  obtain ⟨rfl, hZ, hh⟩ := hP
  have hx := Bd.exec
  have hby := Bd.bytes
  have hml : c.maxLocals = 1 := hml0
  have hown : s.vm.findClass "java/util/ArrayList" = some m.cls := findClass_of_methodNamed Bd.named
  have hnm := (name_of_methodNamed Bd.named Bd.method).1
  have X0 : Stand p l e ({ frames := 3, cells := 0, slots := 0, locals := 36 } : Room) s m #[(.ref a)] below meth c s₁ [] 0 0 := Stand.of_body Bd
  have e0 : s₁.heap = h0 := by rw [← hh, Bd.state]; rfl
  have N0 := Fr.nil n0
  have KP0 : Keep h0 h0 [a] := Keep.refl _ _
  refine ownFin (Q := own_al_init_Q Z a ed h0 n0) ?_
  refine ownStep (fun _ k => castTop (own_al_init_ef m a) k) ?_
  show ownGo p.tables e below (s₁.setTop (mkF m 0 #[.val (.ref a)] [])) _
  refine ownStep (fun _ k => XS.aloadN X0.here hx rfl (hb hby own_al_init_d0) rfl rfl k) ?_
  show ownGo p.tables e below (s₁.setTop (mkF m 1 #[.val (.ref a)] [(.ref a)])) _
  have Zs2 : n0 ≤ h0.size := Nat.le_trans Z0 KP0.1
  obtain ⟨_, _, ⟨T1, L1, k1, n1⟩, -, X1, ⟨Lc1, hQ1, l1, y1, z1⟩, st1⟩ := X0.specialBack hx (y := (⟨"java/util/AbstractList", "<init>", "()V"⟩ : MethodName)) rfl hown (mvT hZ (hw _ (List.mem_of_getElem? (i := 11) rfl))) (mvT hZ (hw _ (List.mem_of_getElem? (i := 12) rfl))) (mvT hZ (hw _ (List.mem_of_getElem? (i := 16) rfl))) (by decide) (backOf (W := 0) (own_al_alist l Z a0 hw [] a h0 n0 Zs2 E Fe Fs Fm g) hZ (hw _ (List.mem_of_getElem? (i := 16) rfl)) (hw _ (List.mem_of_getElem? (i := 15) rfl)) (by decide) (by decide)) (g := (mkF m 1 #[.val (.ref a)] [(.ref a)])) rfl (by rw [hml]; rfl) (Steps.refl _) (a := a) (argsL := []) (rest := []) (lenOf own_al_init_pd0 rfl) rfl (by show 2 * 0 + _ ≤ _; exact Nat.le_of_eq rfl) (hb hby own_al_init_d1) (fun _ _ => ⟨rfl, e0, (by decide : 0 + 0 ≤ _), (by decide : 0 + 0 ≤ _)⟩)
  dsimp only [Pt.U, Pt.locs, Pt.cells, Pt.slots] at X1 l1 y1 z1 st1 hQ1
  obtain rfl : k1 = 0 := y1
  obtain rfl : n1 = 0 := z1
  obtain ⟨rfl, N1q, R1, P3, P4, P5⟩ := hQ1
  have N1 : Fr n0 L1 := l1 ▸ Fr.app N0 N1q
  refine ownStep (fun _ k => st1.trans k) ?_
  have KP6 : Keep h0 T1.heap [a] := KP0.trans R1 (allS (Or.inl (List.mem_of_getElem? (i := 0) rfl)) all0)
  refine ownStep (fun _ k => XS.aloadN X1.here hx rfl (hb hby own_al_init_d4) rfl rfl k) ?_
  show ownGo p.tables e below (T1.setTop (mkF m 5 #[.val (.ref a)] [(.ref a)])) _
  have Q7 : Old Z n0 T1.heap := (hOld.keep R1 (allS g all0))
  have Q8 : Sta Z T1.heap "java/util/ArrayList" "DEFAULTCAPACITY_EMPTY_ELEMENTDATA" "[Ljava/lang/Object;" (.ref ed) := S.ext Q7.2
  obtain ⟨T9, X9, e9, st9⟩ := getS2 X1 hx hZ hown (host := "") (Or.inl (hw _ (List.mem_of_getElem? (i := 28) rfl))) Via.refl rfl Q8 (g := (mkF m 5 #[.val (.ref a)] [(.ref a)])) rfl (hb hby own_al_init_d5)
  refine ownStep st9 ?_
  show ownGo p.tables e below (T9.setTop (mkF m 8 #[.val (.ref a)] [(.ref ed), (.ref a)])) _
  have Q10 : Exa Z T1.heap a "java/util/ArrayList" := (E.keep R1)
  obtain ⟨T11, h11, X11, e11, W11, st11⟩ := putF X9 hx hZ hown (host := "") (Or.inl (hw _ (List.mem_of_getElem? (i := 29) rfl))) Via.refl e9 P3 Q10 (Or.inl (hw _ (List.mem_of_getElem? (i := 30) rfl))) (hw _ (List.mem_of_getElem? (i := 6) rfl)) (ty := (.array (.object "java/lang/Object"))) (by decide) rfl rfl (g := (mkF m 8 #[.val (.ref a)] [(.ref ed), (.ref a)])) rfl rfl (hb hby own_al_init_d8)
  have N12 := Fr.snoc X11 N1 g
  have KP13 : Keep h0 h11 [a] := KP6.wr W11 (Or.inl (List.mem_of_getElem? (i := 0) rfl))
  have F14 : Fld Z h11 a "java/util/ArrayList" "elementData" "[Ljava/lang/Object;" (.ref ed) := P3.same W11
  refine ownStep st11 ?_
  show ownGo p.tables e below (T11.setTop (mkF m 11 #[.val (.ref a)] [])) _
  have Q15 : Fld Z h11 a "java/util/ArrayList" "size" "I" (.int (0 : Int32)) := (P4.other W11 (Or.inr (slot_ne (Or.inl (hw _ (List.mem_of_getElem? (i := 48) rfl))) (Or.inl (hw _ (List.mem_of_getElem? (i := 30) rfl))) (by decide) (t := .int) (t' := (.array (.object "java/lang/Object"))) (by decide) (by decide))))
  have Q16 : Fld Z h11 a "java/util/AbstractList" "modCount" "I" (.int (0 : Int32)) := (P5.other W11 (Or.inr (slot_ne (Or.inl (hw _ (List.mem_of_getElem? (i := 27) rfl))) (Or.inl (hw _ (List.mem_of_getElem? (i := 30) rfl))) (by decide) (t := .int) (t' := (.array (.object "java/lang/Object"))) (by decide) (by decide))))
  exact ownRet X11 (v := none) Bd.notSynchronized (fun _ => rfl) (fun _ hr => X11.returnOut hx Bd.returns (hb hby own_al_init_d11) hr) (by rw [e11]; exact ⟨rfl, N12, KP13, F14, Q15, Q16⟩) (by decide) (by decide)
theorem own_mmax_d0 : decode jdk_29_method_65_code 0 = .ok (.iload_n 0, 1) := by decide +kernel
theorem own_mmax_d1 : decode jdk_29_method_65_code 1 = .ok (.iload_n 1, 1) := by decide +kernel
theorem own_mmax_d2 : decode jdk_29_method_65_code 2 = .ok (.if_icmp .lt 7, 3) := by decide +kernel
theorem own_mmax_d5 : decode jdk_29_method_65_code 5 = .ok (.iload_n 0, 1) := by decide +kernel
theorem own_mmax_d6 : decode jdk_29_method_65_code 6 = .ok (.goto 4, 3) := by decide +kernel
theorem own_mmax_d9 : decode jdk_29_method_65_code 9 = .ok (.iload_n 1, 1) := by decide +kernel
theorem own_mmax_d10 : decode jdk_29_method_65_code 10 = .ok (.ireturn, 1) := by decide +kernel
theorem own_mmax_ef (m : MethodId) (x0 : Int32) (x1 : Int32) : entryFrame m #[(.int x0), (.int x1)] 2 = mkF m 0 #[.val (.int x0), .val (.int x1)] [] := by first | (simp [entryFrame, mkF, argsToLocals, Value.category]; done) | rfl
def own_mmax_Q (Z : State) (u : Int32) (v : Int32) (h0 : Heap) (n0 : Nat) (vv_ : Option Value) (hh_ : Heap) (LL_ : List Loc) : Prop := vv_ = some (.int (own_max u v)) ∧ Fr n0 LL_ ∧ hh_ = h0
set_option maxRecDepth 65536 in
set_option maxHeartbeats 40000000 in
theorem own_mmax (l : Launch) (Z : State) (a0 : Array Value) (hw : ∀ d ∈ tables_1, d.before a0 Z = true) (ws : List Jvm.Cond) (u : Int32) (v : Int32) (h0 : Heap) (n0 : Nat) (Z0 : n0 ≤ h0.size) :
    MetFree l (⟨"java/lang/Math", "max", "(II)I"⟩ : MethodName) (head1 (Jvm.Cond.code (⟨"java/lang/Math", "max", "(II)I"⟩ : MethodName) jdk_29_method_65_code 2 (some .int) :: ws) ({ frames := 0, cells := 0, slots := 0, locals := 0 } : Room)) (fun aa_ UU_ => aa_ = #[(.int u), (.int v)] ∧ Z.Warmed39 UU_.vm ∧ UU_.heap = h0) (fun _ _ _ _ _ => True) (fun _ UU_ oo_ UV_ => ∃ vv_ LL_, oo_ = .returned vv_ ∧ own_mmax_Q Z u v h0 n0 vv_ UV_.heap LL_ ∧ FrameEnd UU_ oo_ UV_ LL_ ({ frames := 0, cells := 0, slots := 0, locals := 0 } : Room).cells ({ frames := 0, cells := 0, slots := 0, locals := 0 } : Room).slots) := by
  refine MetFree.of_bodySF (Jvm.Free.JP.mathPlain rfl (by decide +kernel)) hisR ?_
  intro p e s m args below meth c s₁ Bd hml0 hP hK
  obtain ⟨rfl, hZ, hh⟩ := hP
  have hx := Bd.exec
  have hby := Bd.bytes
  have hml : c.maxLocals = 2 := hml0
  have hown : s.vm.findClass "java/lang/Math" = some m.cls := findClass_of_methodNamed Bd.named
  have hnm := (name_of_methodNamed Bd.named Bd.method).1
  have X0 : Stand p l e ({ frames := 0, cells := 0, slots := 0, locals := 0 } : Room) s m #[(.int u), (.int v)] below meth c s₁ [] 0 0 := Stand.of_body Bd
  have e0 : s₁.heap = h0 := by rw [← hh, Bd.state]; rfl
  have N0 := Fr.nil n0
  have KP0 : Keep h0 h0 [] := Keep.refl _ _
  refine ownFin (Q := own_mmax_Q Z u v h0 n0) ?_
  refine ownStep (fun _ k => castTop (own_mmax_ef m u v) k) ?_
  show ownGo p.tables e below (s₁.setTop (mkF m 0 #[.val (.int u), .val (.int v)] [])) _
  refine ownStep (fun _ k => XS.iloadN X0.here hx rfl (hb hby own_mmax_d0) rfl  k) ?_
  refine ownStep (fun _ k => XS.iloadN X0.here hx rfl (hb hby own_mmax_d1) rfl  k) ?_
  show ownGo p.tables e below (s₁.setTop (mkF m 2 #[.val (.int u), .val (.int v)] [(.int v), (.int u)])) _
  by_cases hc2 : u < v
  · skip
    refine ownStep (fun _ k => XS.icmpYes X0.here hx rfl (pc0 := 2) (pc' := 9) rfl (hb hby own_mmax_d2) rfl (tlt (hc2 : u < v)).1 (by decide) (by decide) k) ?_
    refine ownStep (fun _ k => XS.iloadN X0.here hx rfl (hb hby own_mmax_d9) rfl  k) ?_
    show ownGo p.tables e below (s₁.setTop (mkF m 10 #[.val (.int u), .val (.int v)] [(.int v)])) _
    exact ownRet X0 (v := some (.int v)) Bd.notSynchronized (fun h => by rw [Bd.returns] at h; cases h) (fun _ hr => retI X0 hx Bd.returns (hb hby own_mmax_d10) hr) (by rw [e0]; exact ⟨(by rw [own_max, if_pos hc2]), N0, rfl⟩) (by decide) (by decide)
  · skip
    refine ownStep (fun _ k => XS.icmpNo X0.here hx rfl (hb hby own_mmax_d2) rfl (flt (hc2 : ¬ u < v)).1 k) ?_
    refine ownStep (fun _ k => XS.iloadN X0.here hx rfl (hb hby own_mmax_d5) rfl  k) ?_
    refine ownStep (fun _ k => XS.goto X0.here hx rfl (pc0 := 6) (pc' := 10) rfl (hb hby own_mmax_d6) (by decide) (by decide) k) ?_
    show ownGo p.tables e below (s₁.setTop (mkF m 10 #[.val (.int u), .val (.int v)] [(.int u)])) _
    exact ownRet X0 (v := some (.int u)) Bd.notSynchronized (fun h => by rw [Bd.returns] at h; cases h) (fun _ hr => retI X0 hx Bd.returns (hb hby own_mmax_d10) hr) (by rw [e0]; exact ⟨(by rw [own_max, if_neg hc2]), N0, rfl⟩) (by decide) (by decide)
theorem own_mmin_d0 : decode jdk_29_method_69_code 0 = .ok (.iload_n 0, 1) := by decide +kernel
theorem own_mmin_d1 : decode jdk_29_method_69_code 1 = .ok (.iload_n 1, 1) := by decide +kernel
theorem own_mmin_d2 : decode jdk_29_method_69_code 2 = .ok (.if_icmp .gt 7, 3) := by decide +kernel
theorem own_mmin_d5 : decode jdk_29_method_69_code 5 = .ok (.iload_n 0, 1) := by decide +kernel
theorem own_mmin_d6 : decode jdk_29_method_69_code 6 = .ok (.goto 4, 3) := by decide +kernel
theorem own_mmin_d9 : decode jdk_29_method_69_code 9 = .ok (.iload_n 1, 1) := by decide +kernel
theorem own_mmin_d10 : decode jdk_29_method_69_code 10 = .ok (.ireturn, 1) := by decide +kernel
theorem own_mmin_ef (m : MethodId) (x0 : Int32) (x1 : Int32) : entryFrame m #[(.int x0), (.int x1)] 2 = mkF m 0 #[.val (.int x0), .val (.int x1)] [] := by first | (simp [entryFrame, mkF, argsToLocals, Value.category]; done) | rfl
def own_mmin_Q (Z : State) (u : Int32) (v : Int32) (h0 : Heap) (n0 : Nat) (vv_ : Option Value) (hh_ : Heap) (LL_ : List Loc) : Prop := vv_ = some (.int (own_min u v)) ∧ Fr n0 LL_ ∧ hh_ = h0
set_option maxRecDepth 65536 in
set_option maxHeartbeats 40000000 in
theorem own_mmin (l : Launch) (Z : State) (a0 : Array Value) (hw : ∀ d ∈ tables_1, d.before a0 Z = true) (ws : List Jvm.Cond) (u : Int32) (v : Int32) (h0 : Heap) (n0 : Nat) (Z0 : n0 ≤ h0.size) :
    MetFree l (⟨"java/lang/Math", "min", "(II)I"⟩ : MethodName) (head1 (Jvm.Cond.code (⟨"java/lang/Math", "min", "(II)I"⟩ : MethodName) jdk_29_method_69_code 2 (some .int) :: ws) ({ frames := 0, cells := 0, slots := 0, locals := 0 } : Room)) (fun aa_ UU_ => aa_ = #[(.int u), (.int v)] ∧ Z.Warmed39 UU_.vm ∧ UU_.heap = h0) (fun _ _ _ _ _ => True) (fun _ UU_ oo_ UV_ => ∃ vv_ LL_, oo_ = .returned vv_ ∧ own_mmin_Q Z u v h0 n0 vv_ UV_.heap LL_ ∧ FrameEnd UU_ oo_ UV_ LL_ ({ frames := 0, cells := 0, slots := 0, locals := 0 } : Room).cells ({ frames := 0, cells := 0, slots := 0, locals := 0 } : Room).slots) := by
  refine MetFree.of_bodySF (Jvm.Free.JP.mathPlain rfl (by decide +kernel)) hisR ?_
  intro p e s m args below meth c s₁ Bd hml0 hP hK
  obtain ⟨rfl, hZ, hh⟩ := hP
  have hx := Bd.exec
  have hby := Bd.bytes
  have hml : c.maxLocals = 2 := hml0
  have hown : s.vm.findClass "java/lang/Math" = some m.cls := findClass_of_methodNamed Bd.named
  have hnm := (name_of_methodNamed Bd.named Bd.method).1
  have X0 : Stand p l e ({ frames := 0, cells := 0, slots := 0, locals := 0 } : Room) s m #[(.int u), (.int v)] below meth c s₁ [] 0 0 := Stand.of_body Bd
  have e0 : s₁.heap = h0 := by rw [← hh, Bd.state]; rfl
  have N0 := Fr.nil n0
  have KP0 : Keep h0 h0 [] := Keep.refl _ _
  refine ownFin (Q := own_mmin_Q Z u v h0 n0) ?_
  refine ownStep (fun _ k => castTop (own_mmin_ef m u v) k) ?_
  show ownGo p.tables e below (s₁.setTop (mkF m 0 #[.val (.int u), .val (.int v)] [])) _
  refine ownStep (fun _ k => XS.iloadN X0.here hx rfl (hb hby own_mmin_d0) rfl  k) ?_
  refine ownStep (fun _ k => XS.iloadN X0.here hx rfl (hb hby own_mmin_d1) rfl  k) ?_
  show ownGo p.tables e below (s₁.setTop (mkF m 2 #[.val (.int u), .val (.int v)] [(.int v), (.int u)])) _
  by_cases hc2 : v < u
  · skip
    refine ownStep (fun _ k => XS.icmpYes X0.here hx rfl (pc0 := 2) (pc' := 9) rfl (hb hby own_mmin_d2) rfl (tlt (hc2 : v < u)).2.2.1 (by decide) (by decide) k) ?_
    refine ownStep (fun _ k => XS.iloadN X0.here hx rfl (hb hby own_mmin_d9) rfl  k) ?_
    show ownGo p.tables e below (s₁.setTop (mkF m 10 #[.val (.int u), .val (.int v)] [(.int v)])) _
    exact ownRet X0 (v := some (.int v)) Bd.notSynchronized (fun h => by rw [Bd.returns] at h; cases h) (fun _ hr => retI X0 hx Bd.returns (hb hby own_mmin_d10) hr) (by rw [e0]; exact ⟨(by rw [own_min, if_pos hc2]), N0, rfl⟩) (by decide) (by decide)
  · skip
    refine ownStep (fun _ k => XS.icmpNo X0.here hx rfl (hb hby own_mmin_d2) rfl (flt (hc2 : ¬ v < u)).2.2.1 k) ?_
    refine ownStep (fun _ k => XS.iloadN X0.here hx rfl (hb hby own_mmin_d5) rfl  k) ?_
    refine ownStep (fun _ k => XS.goto X0.here hx rfl (pc0 := 6) (pc' := 10) rfl (hb hby own_mmin_d6) (by decide) (by decide) k) ?_
    show ownGo p.tables e below (s₁.setTop (mkF m 10 #[.val (.int u), .val (.int v)] [(.int u)])) _
    exact ownRet X0 (v := some (.int u)) Bd.notSynchronized (fun h => by rw [Bd.returns] at h; cases h) (fun _ hr => retI X0 hx Bd.returns (hb hby own_mmin_d10) hr) (by rw [e0]; exact ⟨(by rw [own_min, if_neg hc2]), N0, rfl⟩) (by decide) (by decide)
theorem own_nin_d0 : decode jdk_18_method_1_code 0 = .ok (.aload_n 0, 1) := by decide +kernel
theorem own_nin_d1 : decode jdk_18_method_1_code 1 = .ok (.invokespecial 1, 3) := by decide +kernel
theorem own_nin_d4 : decode jdk_18_method_1_code 4 = .ok (.return_, 1) := by decide +kernel
theorem own_nin_pn : plainName "java/lang/Number" = true := by first | (simp [plainName, overriddenIn]; done) | decide +kernel
theorem own_nin_ef (m : MethodId) (x0 : Addr) : entryFrame m #[(.ref x0)] 1 = mkF m 0 #[.val (.ref x0)] [] := by first | (simp [entryFrame, mkF, argsToLocals, Value.category]; done) | rfl
def own_nin_Q (Z : State) (a : Addr) (h0 : Heap) (n0 : Nat) (vv_ : Option Value) (hh_ : Heap) (LL_ : List Loc) : Prop := vv_ = none ∧ Fr n0 LL_ ∧ hh_ = h0
set_option maxRecDepth 65536 in
set_option maxHeartbeats 40000000 in
theorem own_nin (l : Launch) (Z : State) (a0 : Array Value) (hw : ∀ d ∈ tables_1, d.before a0 Z = true) (ws : List Jvm.Cond) (a : Addr) (h0 : Heap) (n0 : Nat) (Z0 : n0 ≤ h0.size) :
    MetFree l (⟨"java/lang/Number", "<init>", "()V"⟩ : MethodName) (head1 (Jvm.Cond.code (⟨"java/lang/Number", "<init>", "()V"⟩ : MethodName) jdk_18_method_1_code 1 none :: ws) ({ frames := 1, cells := 0, slots := 0, locals := 12 } : Room)) (fun aa_ UU_ => aa_ = #[(.ref a)] ∧ Z.Warmed39 UU_.vm ∧ UU_.heap = h0) (fun _ _ _ _ _ => True) (fun _ UU_ oo_ UV_ => ∃ vv_ LL_, oo_ = .returned vv_ ∧ own_nin_Q Z a h0 n0 vv_ UV_.heap LL_ ∧ FrameEnd UU_ oo_ UV_ LL_ ({ frames := 1, cells := 0, slots := 0, locals := 12 } : Room).cells ({ frames := 1, cells := 0, slots := 0, locals := 12 } : Room).slots) := by
  refine MetFree.of_bodySF (plainFor_of_name own_nin_pn) hisR ?_
  intro p e s m args below meth c s₁ Bd hml0 hP hK
  obtain ⟨rfl, hZ, hh⟩ := hP
  have hx := Bd.exec
  have hby := Bd.bytes
  have hml : c.maxLocals = 1 := hml0
  have hown : s.vm.findClass "java/lang/Number" = some m.cls := findClass_of_methodNamed Bd.named
  have hnm := (name_of_methodNamed Bd.named Bd.method).1
  have X0 : Stand p l e ({ frames := 1, cells := 0, slots := 0, locals := 12 } : Room) s m #[(.ref a)] below meth c s₁ [] 0 0 := Stand.of_body Bd
  have e0 : s₁.heap = h0 := by rw [← hh, Bd.state]; rfl
  have N0 := Fr.nil n0
  have KP0 : Keep h0 h0 [] := Keep.refl _ _
  refine ownFin (Q := own_nin_Q Z a h0 n0) ?_
  refine ownStep (fun _ k => castTop (own_nin_ef m a) k) ?_
  show ownGo p.tables e below (s₁.setTop (mkF m 0 #[.val (.ref a)] [])) _
  refine ownStep (fun _ k => XS.aloadN X0.here hx rfl (hb hby own_nin_d0) rfl rfl k) ?_
  show ownGo p.tables e below (s₁.setTop (mkF m 1 #[.val (.ref a)] [(.ref a)])) _
  obtain ⟨T1, X1, e1, st1⟩ := initO X0 hx hZ hown (hw _ (List.mem_of_getElem? (i := 195) rfl)) (hw _ (List.mem_of_getElem? (i := 24) rfl)) (hw _ (List.mem_of_getElem? (i := 25) rfl)) e0 (g := (mkF m 1 #[.val (.ref a)] [(.ref a)])) rfl (by rw [hml]; rfl) rfl (hb hby own_nin_d1) (by decide) (W := 0) (by show 2 * 0 + _ ≤ _; exact Nat.le_of_eq rfl) (by decide)
  refine ownStep st1 ?_
  show ownGo p.tables e below (T1.setTop (mkF m 4 #[.val (.ref a)] [])) _
  exact ownRet X1 (v := none) Bd.notSynchronized (fun _ => rfl) (fun _ hr => X1.returnOut hx Bd.returns (hb hby own_nin_d4) hr) (by rw [e1]; exact ⟨rfl, N0, rfl⟩) (by decide) (by decide)
theorem own_iin_d0 : decode jdk_33_method_23_code 0 = .ok (.aload_n 0, 1) := by decide +kernel
theorem own_iin_d1 : decode jdk_33_method_23_code 1 = .ok (.invokespecial 202, 3) := by decide +kernel
theorem own_iin_d4 : decode jdk_33_method_23_code 4 = .ok (.aload_n 0, 1) := by decide +kernel
theorem own_iin_d5 : decode jdk_33_method_23_code 5 = .ok (.iload_n 1, 1) := by decide +kernel
theorem own_iin_d6 : decode jdk_33_method_23_code 6 = .ok (.putfield 205, 3) := by decide +kernel
theorem own_iin_d9 : decode jdk_33_method_23_code 9 = .ok (.return_, 1) := by decide +kernel
theorem own_iin_pn : plainName "java/lang/Integer" = true := by first | (simp [plainName, overriddenIn]; done) | decide +kernel
theorem own_iin_pd0 : parseMethodDescriptor "()V" = some ⟨[], none⟩ := by decide +kernel
theorem own_iin_ef (m : MethodId) (x0 : Addr) (x1 : Int32) : entryFrame m #[(.ref x0), (.int x1)] 2 = mkF m 0 #[.val (.ref x0), .val (.int x1)] [] := by first | (simp [entryFrame, mkF, argsToLocals, Value.category]; done) | rfl
def own_iin_Q (Z : State) (a : Addr) (kv : Int32) (h0 : Heap) (n0 : Nat) (vv_ : Option Value) (hh_ : Heap) (LL_ : List Loc) : Prop := vv_ = none ∧ Fr n0 LL_ ∧ Keep h0 hh_ [a] ∧ (Fld Z hh_ a "java/lang/Integer" "value" "I" (.int kv))
set_option maxRecDepth 65536 in
set_option maxHeartbeats 40000000 in
theorem own_iin (l : Launch) (Z : State) (a0 : Array Value) (hw : ∀ d ∈ tables_1, d.before a0 Z = true) (ws : List Jvm.Cond) (a : Addr) (kv : Int32) (h0 : Heap) (n0 : Nat) (Z0 : n0 ≤ h0.size) (E : Exa Z h0 a "java/lang/Integer") (Fv : Fld Z h0 a "java/lang/Integer" "value" "I" (.int (0 : Int32))) (g : n0 ≤ a) :
    MetFree l (⟨"java/lang/Integer", "<init>", "(I)V"⟩ : MethodName) (head1 (Jvm.Cond.code (⟨"java/lang/Integer", "<init>", "(I)V"⟩ : MethodName) jdk_33_method_23_code 2 none :: ws) ({ frames := 2, cells := 0, slots := 0, locals := 24 } : Room)) (fun aa_ UU_ => aa_ = #[(.ref a), (.int kv)] ∧ Z.Warmed39 UU_.vm ∧ UU_.heap = h0) (fun _ _ _ _ _ => True) (fun _ UU_ oo_ UV_ => ∃ vv_ LL_, oo_ = .returned vv_ ∧ own_iin_Q Z a kv h0 n0 vv_ UV_.heap LL_ ∧ FrameEnd UU_ oo_ UV_ LL_ ({ frames := 2, cells := 0, slots := 0, locals := 24 } : Room).cells ({ frames := 2, cells := 0, slots := 0, locals := 24 } : Room).slots) := by
  refine MetFree.of_bodySF (plainFor_of_name own_iin_pn) hisR ?_
  intro p e s m args below meth c s₁ Bd hml0 hP hK
  obtain ⟨rfl, hZ, hh⟩ := hP
  have hx := Bd.exec
  have hby := Bd.bytes
  have hml : c.maxLocals = 2 := hml0
  have hown : s.vm.findClass "java/lang/Integer" = some m.cls := findClass_of_methodNamed Bd.named
  have hnm := (name_of_methodNamed Bd.named Bd.method).1
  have X0 : Stand p l e ({ frames := 2, cells := 0, slots := 0, locals := 24 } : Room) s m #[(.ref a), (.int kv)] below meth c s₁ [] 0 0 := Stand.of_body Bd
  have e0 : s₁.heap = h0 := by rw [← hh, Bd.state]; rfl
  have N0 := Fr.nil n0
  have KP0 : Keep h0 h0 [a] := Keep.refl _ _
  refine ownFin (Q := own_iin_Q Z a kv h0 n0) ?_
  refine ownStep (fun _ k => castTop (own_iin_ef m a kv) k) ?_
  show ownGo p.tables e below (s₁.setTop (mkF m 0 #[.val (.ref a), .val (.int kv)] [])) _
  refine ownStep (fun _ k => XS.aloadN X0.here hx rfl (hb hby own_iin_d0) rfl rfl k) ?_
  show ownGo p.tables e below (s₁.setTop (mkF m 1 #[.val (.ref a), .val (.int kv)] [(.ref a)])) _
  have Zs2 : n0 ≤ h0.size := Nat.le_trans Z0 KP0.1
  obtain ⟨_, _, ⟨T1, L1, k1, n1⟩, -, X1, ⟨Lc1, hQ1, l1, y1, z1⟩, st1⟩ := X0.specialBack hx (y := (⟨"java/lang/Number", "<init>", "()V"⟩ : MethodName)) rfl hown (mvT hZ (hw _ (List.mem_of_getElem? (i := 189) rfl))) (mvT hZ (hw _ (List.mem_of_getElem? (i := 190) rfl))) (mvT hZ (hw _ (List.mem_of_getElem? (i := 194) rfl))) (by decide) (backOf (W := 0) (own_nin l Z a0 hw [] a h0 n0 Zs2 ) hZ (hw _ (List.mem_of_getElem? (i := 194) rfl)) (hw _ (List.mem_of_getElem? (i := 193) rfl)) (by decide) (by decide)) (g := (mkF m 1 #[.val (.ref a), .val (.int kv)] [(.ref a)])) rfl (by rw [hml]; rfl) (Steps.refl _) (a := a) (argsL := []) (rest := []) (lenOf own_iin_pd0 rfl) rfl (by show 2 * 0 + _ ≤ _; exact Nat.le_of_eq rfl) (hb hby own_iin_d1) (fun _ _ => ⟨rfl, e0, (by decide : 0 + 0 ≤ _), (by decide : 0 + 0 ≤ _)⟩)
  dsimp only [Pt.U, Pt.locs, Pt.cells, Pt.slots] at X1 l1 y1 z1 st1 hQ1
  obtain rfl : k1 = 0 := y1
  obtain rfl : n1 = 0 := z1
  obtain ⟨rfl, N1q, R1⟩ := hQ1
  have N1 : Fr n0 L1 := l1 ▸ Fr.app N0 N1q
  refine ownStep (fun _ k => st1.trans k) ?_
  refine ownStep (fun _ k => XS.aloadN X1.here hx rfl (hb hby own_iin_d4) rfl rfl k) ?_
  refine ownStep (fun _ k => XS.iloadN X1.here hx rfl (hb hby own_iin_d5) rfl  k) ?_
  show ownGo p.tables e below (T1.setTop (mkF m 6 #[.val (.ref a), .val (.int kv)] [(.int kv), (.ref a)])) _
  obtain ⟨T3, h3, X3, e3, W3, st3⟩ := putF X1 hx hZ hown (host := "") (Or.inl (hw _ (List.mem_of_getElem? (i := 182) rfl))) Via.refl R1 Fv E (Or.inr ⟨(hw _ (List.mem_of_getElem? (i := 183) rfl)), rfl, hnm⟩) (hw _ (List.mem_of_getElem? (i := 185) rfl)) (ty := .int) (by decide) rfl rfl (g := (mkF m 6 #[.val (.ref a), .val (.int kv)] [(.int kv), (.ref a)])) rfl rfl (hb hby own_iin_d6)
  have N4 := Fr.snoc X3 N1 g
  have KP5 : Keep h0 h3 [a] := KP0.wr W3 (Or.inl (List.mem_of_getElem? (i := 0) rfl))
  have F6 : Fld Z h3 a "java/lang/Integer" "value" "I" (.int kv) := Fv.same W3
  refine ownStep st3 ?_
  show ownGo p.tables e below (T3.setTop (mkF m 9 #[.val (.ref a), .val (.int kv)] [])) _
  exact ownRet X3 (v := none) Bd.notSynchronized (fun _ => rfl) (fun _ hr => X3.returnOut hx Bd.returns (hb hby own_iin_d9) hr) (by rw [e3]; exact ⟨rfl, N4, KP5, F6⟩) (by decide) (by decide)
theorem own_val_d0 : decode jdk_33_method_22_code 0 = .ok (.iload_n 0, 1) := by decide +kernel
theorem own_val_d1 : decode jdk_33_method_22_code 1 = .ok (.bipush (-128), 2) := by decide +kernel
theorem own_val_d3 : decode jdk_33_method_22_code 3 = .ok (.if_icmp .lt 20, 3) := by decide +kernel
theorem own_val_d6 : decode jdk_33_method_22_code 6 = .ok (.iload_n 0, 1) := by decide +kernel
theorem own_val_d7 : decode jdk_33_method_22_code 7 = .ok (.getstatic 191, 3) := by decide +kernel
theorem own_val_d10 : decode jdk_33_method_22_code 10 = .ok (.if_icmp .gt 13, 3) := by decide +kernel
theorem own_val_d13 : decode jdk_33_method_22_code 13 = .ok (.getstatic 195, 3) := by decide +kernel
theorem own_val_d16 : decode jdk_33_method_22_code 16 = .ok (.iload_n 0, 1) := by decide +kernel
theorem own_val_d17 : decode jdk_33_method_22_code 17 = .ok (.sipush 128, 3) := by decide +kernel
theorem own_val_d20 : decode jdk_33_method_22_code 20 = .ok (.iadd, 1) := by decide +kernel
theorem own_val_d21 : decode jdk_33_method_22_code 21 = .ok (.aaload, 1) := by decide +kernel
theorem own_val_d22 : decode jdk_33_method_22_code 22 = .ok (.areturn, 1) := by decide +kernel
theorem own_val_d23 : decode jdk_33_method_22_code 23 = .ok (.new 1, 3) := by decide +kernel
theorem own_val_d26 : decode jdk_33_method_22_code 26 = .ok (.dup, 1) := by decide +kernel
theorem own_val_d27 : decode jdk_33_method_22_code 27 = .ok (.iload_n 0, 1) := by decide +kernel
theorem own_val_d28 : decode jdk_33_method_22_code 28 = .ok (.invokespecial 199, 3) := by decide +kernel
theorem own_val_d31 : decode jdk_33_method_22_code 31 = .ok (.areturn, 1) := by decide +kernel
theorem own_val_pn : plainName "java/lang/Integer" = true := by first | (simp [plainName, overriddenIn]; done) | decide +kernel
theorem own_val_pd0 : parseMethodDescriptor "(I)V" = some ⟨[.int], none⟩ := by decide +kernel
theorem own_val_ef (m : MethodId) (x0 : Int32) : entryFrame m #[(.int x0)] 1 = mkF m 0 #[.val (.int x0)] [] := by first | (simp [entryFrame, mkF, argsToLocals, Value.category]; done) | rfl
def own_val_Q (Z : State) (ed : Addr) (kd : ClassId) (ca : Addr) (clc : Cell) (kv : Int32) (h0 : Heap) (n0 : Nat) (vv_ : Option Value) (hh_ : Heap) (LL_ : List Loc) : Prop := ∃ rb : Addr, vv_ = some (.ref rb) ∧ Fr n0 LL_ ∧ Ext h0 hh_ ∧ (Exa Z hh_ rb "java/lang/Integer") ∧ (Fld Z hh_ rb "java/lang/Integer" "value" "I" (.int kv)) ∧ (rb < n0 ∨ h0.size ≤ rb)
set_option maxRecDepth 65536 in
set_option maxHeartbeats 40000000 in
theorem own_val (l : Launch) (Z : State) (a0 : Array Value) (hw : ∀ d ∈ tables_1, d.before a0 Z = true) (ws : List Jvm.Cond) (ed : Addr) (kd : ClassId) (ca : Addr) (clc : Cell) (kv : Int32) (h0 : Heap) (n0 : Nat) (Z0 : n0 ≤ h0.size) (hOld : Old Z n0 h0) (S : Sta Z Z.heap "java/util/ArrayList" "DEFAULTCAPACITY_EMPTY_ELEMENTDATA" "[Ljava/lang/Object;" (.ref ed)) (V : Arv Z Z.heap ed kd (.object "java/lang/Object") (0 : Int32) [] .null) (Sh : Sta Z Z.heap "java/lang/Integer$IntegerCache" "high" "I" (.int (127 : Int32))) (Sc : Sta Z Z.heap "java/lang/Integer$IntegerCache" "cache" "[Ljava/lang/Integer;" (.ref ca)) (BX : Bxs Z ca clc "java/lang/Integer" "I" (256 : Int32) (fun j => .int (j - (128 : Int32)))) :
    MetFree l (⟨"java/lang/Integer", "valueOf", "(I)Ljava/lang/Integer;"⟩ : MethodName) (head1 (Jvm.Cond.code (⟨"java/lang/Integer", "valueOf", "(I)Ljava/lang/Integer;"⟩ : MethodName) jdk_33_method_22_code 1 (some (.object "java/lang/Integer")) :: ws) ({ frames := 3, cells := 1, slots := 1, locals := 38 } : Room)) (fun aa_ UU_ => aa_ = #[(.int kv)] ∧ Z.Warmed39 UU_.vm ∧ UU_.heap = h0) (fun _ _ _ _ _ => True) (fun _ UU_ oo_ UV_ => ∃ vv_ LL_, oo_ = .returned vv_ ∧ own_val_Q Z ed kd ca clc kv h0 n0 vv_ UV_.heap LL_ ∧ FrameEnd UU_ oo_ UV_ LL_ ({ frames := 3, cells := 1, slots := 1, locals := 38 } : Room).cells ({ frames := 3, cells := 1, slots := 1, locals := 38 } : Room).slots) := by
  refine MetFree.of_bodySF (plainFor_of_name own_val_pn) hisR ?_
  intro p e s m args below meth c s₁ Bd hml0 hP hK
  obtain ⟨rfl, hZ, hh⟩ := hP
  have hx := Bd.exec
  have hby := Bd.bytes
  have hml : c.maxLocals = 1 := hml0
  have hown : s.vm.findClass "java/lang/Integer" = some m.cls := findClass_of_methodNamed Bd.named
  have hnm := (name_of_methodNamed Bd.named Bd.method).1
  have X0 : Stand p l e ({ frames := 3, cells := 1, slots := 1, locals := 38 } : Room) s m #[(.int kv)] below meth c s₁ [] 0 0 := Stand.of_body Bd
  have e0 : s₁.heap = h0 := by rw [← hh, Bd.state]; rfl
  have N0 := Fr.nil n0
  have KP0 : Keep h0 h0 [] := Keep.refl _ _
  refine ownFin (Q := own_val_Q Z ed kd ca clc kv h0 n0) ?_
  refine ownStep (fun _ k => castTop (own_val_ef m kv) k) ?_
  show ownGo p.tables e below (s₁.setTop (mkF m 0 #[.val (.int kv)] [])) _
  refine ownStep (fun _ k => XS.iloadN X0.here hx rfl (hb hby own_val_d0) rfl  k) ?_
  refine ownStep (fun _ k => XS.bipush X0.here hx rfl (hb hby own_val_d1) k) ?_
  show ownGo p.tables e below (s₁.setTop (mkF m 3 #[.val (.int kv)] [(.int (-128 : Int32)), (.int kv)])) _
  by_cases hc3 : kv < (-128 : Int32)
  · skip
    refine ownStep (fun _ k => XS.icmpYes X0.here hx rfl (pc0 := 3) (pc' := 23) rfl (hb hby own_val_d3) rfl (tlt (hc3 : kv < (-128 : Int32))).1 (by decide) (by decide) k) ?_
    show ownGo p.tables e below (s₁.setTop (mkF m 23 #[.val (.int kv)] [])) _
    obtain ⟨T1, h1, X1, e1, E1, A1, D1, U1, st1⟩ := newO X0 hx hZ hown (hw _ (List.mem_of_getElem? (i := 184) rfl)) (hw _ (List.mem_of_getElem? (i := 185) rfl)) (hw _ (List.mem_of_getElem? (i := 52) rfl)) e0 (g := (mkF m 23 #[.val (.int kv)] [])) rfl (hb hby own_val_d23) (by decide) (by decide)
    obtain ⟨b1, g1⟩ : ∃ z, z = h0.size := ⟨_, rfl⟩
    rw [← g1] at A1 D1 U1 st1
    have gh_b1 : h0.size ≤ b1 := Nat.le_trans KP0.1 (Nat.le_of_eq g1.symm)
    have gn_b1 : n0 ≤ b1 := Nat.le_trans Z0 gh_b1
    have KP2 : Keep h0 h1 [] := KP0.ext E1
    have F3 : Fld Z h1 b1 "java/lang/Integer" "value" "I" (.int (0 : Int32)) := D1 (Or.inr (hw _ (List.mem_of_getElem? (i := 183) rfl))) (ty := .int) (by decide)
    refine ownStep st1 ?_
    refine ownStep (fun _ k => XS.dup X1.here hx rfl (hb hby own_val_d26) rfl rfl k) ?_
    refine ownStep (fun _ k => XS.iloadN X1.here hx rfl (hb hby own_val_d27) rfl  k) ?_
    show ownGo p.tables e below (T1.setTop (mkF m 28 #[.val (.int kv)] [(.int kv), (.ref b1), (.ref b1)])) _
    have Zs5 : n0 ≤ h1.size := Nat.le_trans Z0 KP2.1
    obtain ⟨_, _, ⟨T4, L4, k4, n4⟩, -, X4, ⟨Lc4, hQ4, l4, y4, z4⟩, st4⟩ := X1.specialBack hx (y := (⟨"java/lang/Integer", "<init>", "(I)V"⟩ : MethodName)) rfl hown (mvT hZ (hw _ (List.mem_of_getElem? (i := 186) rfl))) (mvT hZ (hw _ (List.mem_of_getElem? (i := 187) rfl))) (mvT hZ (hw _ (List.mem_of_getElem? (i := 188) rfl))) (by decide) (backOf (W := 1) (own_iin l Z a0 hw [] b1 kv h1 n0 Zs5 A1 F3 gn_b1) hZ (hw _ (List.mem_of_getElem? (i := 188) rfl)) (hw _ (List.mem_of_getElem? (i := 52) rfl)) (by decide) (by decide)) (g := (mkF m 28 #[.val (.int kv)] [(.int kv), (.ref b1), (.ref b1)])) rfl (by rw [hml]; rfl) (Steps.refl _) (a := b1) (argsL := [(.int kv)]) (rest := [(.ref b1)]) (lenOf own_val_pd0 rfl) rfl (by show 2 * 0 + _ ≤ _; exact Nat.le_of_eq rfl) (hb hby own_val_d28) (fun _ _ => ⟨rfl, e1, (by decide : 1 + 0 ≤ _), (by decide : 1 + 0 ≤ _)⟩)
    dsimp only [Pt.U, Pt.locs, Pt.cells, Pt.slots] at X4 l4 y4 z4 st4 hQ4
    obtain rfl : k4 = 1 := y4
    obtain rfl : n4 = 1 := z4
    obtain ⟨rfl, N4q, R4, P6⟩ := hQ4
    have N4 : Fr n0 L4 := l4 ▸ Fr.app N0 N4q
    refine ownStep (fun _ k => st4.trans k) ?_
    have KP7 : Keep h0 T4.heap [] := KP2.trans R4 (allS (Or.inr gh_b1) all0)
    show ownGo p.tables e below (T4.setTop (mkF m 31 #[.val (.int kv)] [(.ref b1)])) _
    have Q8 : Exa Z T4.heap b1 "java/lang/Integer" := (A1.keep R4)
    exact ownRet X4 (v := some (.ref b1)) Bd.notSynchronized (fun h => by rw [Bd.returns] at h; cases h) (fun _ hr => retOut X4 hx (t := (.object "java/lang/Integer")) Bd.returns rfl (Or.inr (Or.inr (Or.inr (Or.inr ⟨rfl, rfl, rfl⟩)))) (hb hby own_val_d31) hr) (⟨b1, rfl, N4, (own_extOf KP7), Q8, P6, (Or.inr gh_b1)⟩) (by decide) (by decide)
  · skip
    refine ownStep (fun _ k => XS.icmpNo X0.here hx rfl (hb hby own_val_d3) rfl (flt (hc3 : ¬ kv < (-128 : Int32))).1 k) ?_
    refine ownStep (fun _ k => XS.iloadN X0.here hx rfl (hb hby own_val_d6) rfl  k) ?_
    show ownGo p.tables e below (s₁.setTop (mkF m 7 #[.val (.int kv)] [(.int kv)])) _
    have Q9 : Sta Z h0 "java/lang/Integer$IntegerCache" "high" "I" (.int (127 : Int32)) := Sh.ext hOld.2
    obtain ⟨T10, X10, e10, st10⟩ := getS2 X0 hx hZ hown (host := "") (Or.inl (hw _ (List.mem_of_getElem? (i := 54) rfl))) Via.refl e0 Q9 (g := (mkF m 7 #[.val (.int kv)] [(.int kv)])) rfl (hb hby own_val_d7)
    refine ownStep st10 ?_
    show ownGo p.tables e below (T10.setTop (mkF m 10 #[.val (.int kv)] [(.int (127 : Int32)), (.int kv)])) _
    by_cases hc10 : (127 : Int32) < kv
    · skip
      refine ownStep (fun _ k => XS.icmpYes X10.here hx rfl (pc0 := 10) (pc' := 23) rfl (hb hby own_val_d10) rfl (tlt (hc10 : (127 : Int32) < kv)).2.2.1 (by decide) (by decide) k) ?_
      show ownGo p.tables e below (T10.setTop (mkF m 23 #[.val (.int kv)] [])) _
      obtain ⟨T11, h11, X11, e11, E11, A11, D11, U11, st11⟩ := newO X10 hx hZ hown (hw _ (List.mem_of_getElem? (i := 184) rfl)) (hw _ (List.mem_of_getElem? (i := 185) rfl)) (hw _ (List.mem_of_getElem? (i := 52) rfl)) e10 (g := (mkF m 23 #[.val (.int kv)] [])) rfl (hb hby own_val_d23) (by decide) (by decide)
      obtain ⟨b11, g11⟩ : ∃ z, z = h0.size := ⟨_, rfl⟩
      rw [← g11] at A11 D11 U11 st11
      have gh_b11 : h0.size ≤ b11 := Nat.le_trans KP0.1 (Nat.le_of_eq g11.symm)
      have gn_b11 : n0 ≤ b11 := Nat.le_trans Z0 gh_b11
      have KP12 : Keep h0 h11 [] := KP0.ext E11
      have F13 : Fld Z h11 b11 "java/lang/Integer" "value" "I" (.int (0 : Int32)) := D11 (Or.inr (hw _ (List.mem_of_getElem? (i := 183) rfl))) (ty := .int) (by decide)
      refine ownStep st11 ?_
      refine ownStep (fun _ k => XS.dup X11.here hx rfl (hb hby own_val_d26) rfl rfl k) ?_
      refine ownStep (fun _ k => XS.iloadN X11.here hx rfl (hb hby own_val_d27) rfl  k) ?_
      show ownGo p.tables e below (T11.setTop (mkF m 28 #[.val (.int kv)] [(.int kv), (.ref b11), (.ref b11)])) _
      have Zs15 : n0 ≤ h11.size := Nat.le_trans Z0 KP12.1
      obtain ⟨_, _, ⟨T14, L14, k14, n14⟩, -, X14, ⟨Lc14, hQ14, l14, y14, z14⟩, st14⟩ := X11.specialBack hx (y := (⟨"java/lang/Integer", "<init>", "(I)V"⟩ : MethodName)) rfl hown (mvT hZ (hw _ (List.mem_of_getElem? (i := 186) rfl))) (mvT hZ (hw _ (List.mem_of_getElem? (i := 187) rfl))) (mvT hZ (hw _ (List.mem_of_getElem? (i := 188) rfl))) (by decide) (backOf (W := 1) (own_iin l Z a0 hw [] b11 kv h11 n0 Zs15 A11 F13 gn_b11) hZ (hw _ (List.mem_of_getElem? (i := 188) rfl)) (hw _ (List.mem_of_getElem? (i := 52) rfl)) (by decide) (by decide)) (g := (mkF m 28 #[.val (.int kv)] [(.int kv), (.ref b11), (.ref b11)])) rfl (by rw [hml]; rfl) (Steps.refl _) (a := b11) (argsL := [(.int kv)]) (rest := [(.ref b11)]) (lenOf own_val_pd0 rfl) rfl (by show 2 * 0 + _ ≤ _; exact Nat.le_of_eq rfl) (hb hby own_val_d28) (fun _ _ => ⟨rfl, e11, (by decide : 1 + 0 ≤ _), (by decide : 1 + 0 ≤ _)⟩)
      dsimp only [Pt.U, Pt.locs, Pt.cells, Pt.slots] at X14 l14 y14 z14 st14 hQ14
      obtain rfl : k14 = 1 := y14
      obtain rfl : n14 = 1 := z14
      obtain ⟨rfl, N14q, R14, P16⟩ := hQ14
      have N14 : Fr n0 L14 := l14 ▸ Fr.app N0 N14q
      refine ownStep (fun _ k => st14.trans k) ?_
      have KP17 : Keep h0 T14.heap [] := KP12.trans R14 (allS (Or.inr gh_b11) all0)
      show ownGo p.tables e below (T14.setTop (mkF m 31 #[.val (.int kv)] [(.ref b11)])) _
      have Q18 : Exa Z T14.heap b11 "java/lang/Integer" := (A11.keep R14)
      exact ownRet X14 (v := some (.ref b11)) Bd.notSynchronized (fun h => by rw [Bd.returns] at h; cases h) (fun _ hr => retOut X14 hx (t := (.object "java/lang/Integer")) Bd.returns rfl (Or.inr (Or.inr (Or.inr (Or.inr ⟨rfl, rfl, rfl⟩)))) (hb hby own_val_d31) hr) (⟨b11, rfl, N14, (own_extOf KP17), Q18, P16, (Or.inr gh_b11)⟩) (by decide) (by decide)
    · skip
      refine ownStep (fun _ k => XS.icmpNo X10.here hx rfl (hb hby own_val_d10) rfl (flt (hc10 : ¬ (127 : Int32) < kv)).2.2.1 k) ?_
      show ownGo p.tables e below (T10.setTop (mkF m 13 #[.val (.int kv)] [])) _
      have Q19 : Sta Z h0 "java/lang/Integer$IntegerCache" "cache" "[Ljava/lang/Integer;" (.ref ca) := Sc.ext hOld.2
      obtain ⟨T20, X20, e20, st20⟩ := getS2 X10 hx hZ hown (host := "") (Or.inl (hw _ (List.mem_of_getElem? (i := 56) rfl))) Via.refl e10 Q19 (g := (mkF m 13 #[.val (.int kv)] [])) rfl (hb hby own_val_d13)
      refine ownStep st20 ?_
      refine ownStep (fun _ k => XS.iloadN X20.here hx rfl (hb hby own_val_d16) rfl  k) ?_
      refine ownStep (fun _ k => XS.sipush X20.here hx rfl (hb hby own_val_d17) k) ?_
      refine ownStep (fun _ k => XS.iadd X20.here hx rfl (hb hby own_val_d20) rfl k) ?_
      show ownGo p.tables e below (T20.setTop (mkF m 21 #[.val (.int kv)] [(.int (kv + (128 : Int32))), (.ref ca)])) _
      have BX' := BX
      obtain ⟨AA21, SS21, NN21, HH21⟩ := BX'
      have Ac21 := AA21.ext hOld.2
      have hin21 : ¬ ((kv + (128 : Int32)) < 0 ∨ clc.slots.size ≤ ((kv + (128 : Int32))).toNatClampNeg) := inb_of SS21 (own_cin hc3 hc10)
      obtain ⟨bx, hat21, Ebx, Fbx⟩ := HH21 _ hin21
      dsimp only at Fbx
      rw [own_cval] at Fbx
      have obx : bx < n0 ∨ h0.size ≤ bx := Or.inl (hOld.1 ▸ Ebx.lt)
      refine ownStep (X20.aaload hx (j := (kv + (128 : Int32))) (v := (.ref bx)) (by rw [e20]; exact Ac21.1) (State.isArrayOf_alike hZ.alike Ac21.2.1) rfl Ac21.2.2 hin21 hat21 (g := (mkF m 21 #[.val (.int kv)] [(.int (kv + (128 : Int32))), (.ref ca)])) rfl rfl (hb hby own_val_d21)) ?_
      show ownGo p.tables e below (T20.setTop (mkF m 22 #[.val (.int kv)] [(.ref bx)])) _
      have Q22 : Exa Z h0 bx "java/lang/Integer" := Ebx.ext hOld.2
      have Q23 : Fld Z h0 bx "java/lang/Integer" "value" "I" (.int kv) := Fbx.ext hOld.2
      exact ownRet X20 (v := some (.ref bx)) Bd.notSynchronized (fun h => by rw [Bd.returns] at h; cases h) (fun _ hr => retOut X20 hx (t := (.object "java/lang/Integer")) Bd.returns rfl (Or.inr (Or.inr (Or.inr (Or.inr ⟨rfl, rfl, rfl⟩)))) (hb hby own_val_d22) hr) (by rw [e20]; exact ⟨bx, rfl, N0, (own_extOf KP0), Q22, Q23, obx⟩) (by decide) (by decide)
theorem own_iv_d0 : decode jdk_33_method_27_code 0 = .ok (.aload_n 0, 1) := by decide +kernel
theorem own_iv_d1 : decode jdk_33_method_27_code 1 = .ok (.getfield 205, 3) := by decide +kernel
theorem own_iv_d4 : decode jdk_33_method_27_code 4 = .ok (.ireturn, 1) := by decide +kernel
theorem own_iv_pn : plainName "java/lang/Integer" = true := by first | (simp [plainName, overriddenIn]; done) | decide +kernel
theorem own_iv_ef (m : MethodId) (x0 : Addr) : entryFrame m #[(.ref x0)] 1 = mkF m 0 #[.val (.ref x0)] [] := by first | (simp [entryFrame, mkF, argsToLocals, Value.category]; done) | rfl
def own_iv_Q (Z : State) (a : Addr) (kv : Int32) (h0 : Heap) (n0 : Nat) (vv_ : Option Value) (hh_ : Heap) (LL_ : List Loc) : Prop := vv_ = some (.int kv) ∧ Fr n0 LL_ ∧ hh_ = h0
set_option maxRecDepth 65536 in
set_option maxHeartbeats 40000000 in
theorem own_iv (l : Launch) (Z : State) (a0 : Array Value) (hw : ∀ d ∈ tables_1, d.before a0 Z = true) (ws : List Jvm.Cond) (a : Addr) (kv : Int32) (h0 : Heap) (n0 : Nat) (Z0 : n0 ≤ h0.size) (Fv : Fld Z h0 a "java/lang/Integer" "value" "I" (.int kv)) :
    MetFree l (⟨"java/lang/Integer", "intValue", "()I"⟩ : MethodName) (head1 (Jvm.Cond.code (⟨"java/lang/Integer", "intValue", "()I"⟩ : MethodName) jdk_33_method_27_code 1 (some .int) :: ws) ({ frames := 0, cells := 0, slots := 0, locals := 0 } : Room)) (fun aa_ UU_ => aa_ = #[(.ref a)] ∧ Z.Warmed39 UU_.vm ∧ UU_.heap = h0) (fun _ _ _ _ _ => True) (fun _ UU_ oo_ UV_ => ∃ vv_ LL_, oo_ = .returned vv_ ∧ own_iv_Q Z a kv h0 n0 vv_ UV_.heap LL_ ∧ FrameEnd UU_ oo_ UV_ LL_ ({ frames := 0, cells := 0, slots := 0, locals := 0 } : Room).cells ({ frames := 0, cells := 0, slots := 0, locals := 0 } : Room).slots) := by
  refine MetFree.of_bodySF (plainFor_of_name own_iv_pn) hisR ?_
  intro p e s m args below meth c s₁ Bd hml0 hP hK
  obtain ⟨rfl, hZ, hh⟩ := hP
  have hx := Bd.exec
  have hby := Bd.bytes
  have hml : c.maxLocals = 1 := hml0
  have hown : s.vm.findClass "java/lang/Integer" = some m.cls := findClass_of_methodNamed Bd.named
  have hnm := (name_of_methodNamed Bd.named Bd.method).1
  have X0 : Stand p l e ({ frames := 0, cells := 0, slots := 0, locals := 0 } : Room) s m #[(.ref a)] below meth c s₁ [] 0 0 := Stand.of_body Bd
  have e0 : s₁.heap = h0 := by rw [← hh, Bd.state]; rfl
  have N0 := Fr.nil n0
  have KP0 : Keep h0 h0 [] := Keep.refl _ _
  refine ownFin (Q := own_iv_Q Z a kv h0 n0) ?_
  refine ownStep (fun _ k => castTop (own_iv_ef m a) k) ?_
  show ownGo p.tables e below (s₁.setTop (mkF m 0 #[.val (.ref a)] [])) _
  refine ownStep (fun _ k => XS.aloadN X0.here hx rfl (hb hby own_iv_d0) rfl rfl k) ?_
  show ownGo p.tables e below (s₁.setTop (mkF m 1 #[.val (.ref a)] [(.ref a)])) _
  obtain ⟨T1, X1, e1, st1⟩ := getF X0 hx hZ hown (host := "") (Or.inl (hw _ (List.mem_of_getElem? (i := 182) rfl))) Via.refl e0 Fv (g := (mkF m 1 #[.val (.ref a)] [(.ref a)])) rfl rfl (hb hby own_iv_d1)
  refine ownStep st1 ?_
  show ownGo p.tables e below (T1.setTop (mkF m 4 #[.val (.ref a)] [(.int kv)])) _
  exact ownRet X1 (v := some (.int kv)) Bd.notSynchronized (fun h => by rw [Bd.returns] at h; cases h) (fun _ hr => retI X1 hx Bd.returns (hb hby own_iv_d4) hr) (by rw [e1]; exact ⟨rfl, N0, rfl⟩) (by decide) (by decide)
theorem own_asz_d0 : decode jdk_38_method_8_code 0 = .ok (.aload_n 0, 1) := by decide +kernel
theorem own_asz_d1 : decode jdk_38_method_8_code 1 = .ok (.getfield 48, 3) := by decide +kernel
theorem own_asz_d4 : decode jdk_38_method_8_code 4 = .ok (.ireturn, 1) := by decide +kernel
theorem own_asz_pn : plainName "java/util/ArrayList" = true := by first | (simp [plainName, overriddenIn]; done) | decide +kernel
theorem own_asz_ef (m : MethodId) (x0 : Addr) : entryFrame m #[(.ref x0)] 1 = mkF m 0 #[.val (.ref x0)] [] := by first | (simp [entryFrame, mkF, argsToLocals, Value.category]; done) | rfl
def own_asz_Q (Z : State) (a : Addr) (nn : Int32) (h0 : Heap) (n0 : Nat) (vv_ : Option Value) (hh_ : Heap) (LL_ : List Loc) : Prop := vv_ = some (.int nn) ∧ Fr n0 LL_ ∧ hh_ = h0
set_option maxRecDepth 65536 in
set_option maxHeartbeats 40000000 in
theorem own_asz (l : Launch) (Z : State) (a0 : Array Value) (hw : ∀ d ∈ tables_1, d.before a0 Z = true) (ws : List Jvm.Cond) (a : Addr) (nn : Int32) (h0 : Heap) (n0 : Nat) (Z0 : n0 ≤ h0.size) (Fs : Fld Z h0 a "java/util/ArrayList" "size" "I" (.int nn)) :
    MetFree l (⟨"java/util/ArrayList", "size", "()I"⟩ : MethodName) (head1 (Jvm.Cond.code (⟨"java/util/ArrayList", "size", "()I"⟩ : MethodName) jdk_38_method_8_code 1 (some .int) :: ws) ({ frames := 0, cells := 0, slots := 0, locals := 0 } : Room)) (fun aa_ UU_ => aa_ = #[(.ref a)] ∧ Z.Warmed39 UU_.vm ∧ UU_.heap = h0) (fun _ _ _ _ _ => True) (fun _ UU_ oo_ UV_ => ∃ vv_ LL_, oo_ = .returned vv_ ∧ own_asz_Q Z a nn h0 n0 vv_ UV_.heap LL_ ∧ FrameEnd UU_ oo_ UV_ LL_ ({ frames := 0, cells := 0, slots := 0, locals := 0 } : Room).cells ({ frames := 0, cells := 0, slots := 0, locals := 0 } : Room).slots) := by
  refine MetFree.of_bodySF (plainFor_of_name own_asz_pn) hisR ?_
  intro p e s m args below meth c s₁ Bd hml0 hP hK
  obtain ⟨rfl, hZ, hh⟩ := hP
  have hx := Bd.exec
  have hby := Bd.bytes
  have hml : c.maxLocals = 1 := hml0
  have hown : s.vm.findClass "java/util/ArrayList" = some m.cls := findClass_of_methodNamed Bd.named
  have hnm := (name_of_methodNamed Bd.named Bd.method).1
  have X0 : Stand p l e ({ frames := 0, cells := 0, slots := 0, locals := 0 } : Room) s m #[(.ref a)] below meth c s₁ [] 0 0 := Stand.of_body Bd
  have e0 : s₁.heap = h0 := by rw [← hh, Bd.state]; rfl
  have N0 := Fr.nil n0
  have KP0 : Keep h0 h0 [] := Keep.refl _ _
  refine ownFin (Q := own_asz_Q Z a nn h0 n0) ?_
  refine ownStep (fun _ k => castTop (own_asz_ef m a) k) ?_
  show ownGo p.tables e below (s₁.setTop (mkF m 0 #[.val (.ref a)] [])) _
  refine ownStep (fun _ k => XS.aloadN X0.here hx rfl (hb hby own_asz_d0) rfl rfl k) ?_
  show ownGo p.tables e below (s₁.setTop (mkF m 1 #[.val (.ref a)] [(.ref a)])) _
  obtain ⟨T1, X1, e1, st1⟩ := getF X0 hx hZ hown (host := "") (Or.inl (hw _ (List.mem_of_getElem? (i := 47) rfl))) Via.refl e0 Fs (g := (mkF m 1 #[.val (.ref a)] [(.ref a)])) rfl rfl (hb hby own_asz_d1)
  refine ownStep st1 ?_
  show ownGo p.tables e below (T1.setTop (mkF m 4 #[.val (.ref a)] [(.int nn)])) _
  exact ownRet X1 (v := some (.int nn)) Bd.notSynchronized (fun h => by rw [Bd.returns] at h; cases h) (fun _ hr => retI X1 hx Bd.returns (hb hby own_asz_d4) hr) (by rw [e1]; exact ⟨rfl, N0, rfl⟩) (by decide) (by decide)
theorem own_alist2_d0 : decode jdk_39_method_1_code 0 = .ok (.aload_n 0, 1) := by decide +kernel
theorem own_alist2_d1 : decode jdk_39_method_1_code 1 = .ok (.invokespecial 1, 3) := by decide +kernel
theorem own_alist2_d4 : decode jdk_39_method_1_code 4 = .ok (.aload_n 0, 1) := by decide +kernel
theorem own_alist2_d5 : decode jdk_39_method_1_code 5 = .ok (.iconst 0, 1) := by decide +kernel
theorem own_alist2_d6 : decode jdk_39_method_1_code 6 = .ok (.putfield 7, 3) := by decide +kernel
theorem own_alist2_d9 : decode jdk_39_method_1_code 9 = .ok (.return_, 1) := by decide +kernel
theorem own_alist2_pn : plainName "java/util/AbstractList" = true := by first | (simp [plainName, overriddenIn]; done) | decide +kernel
theorem own_alist2_pd0 : parseMethodDescriptor "()V" = some ⟨[], none⟩ := by decide +kernel
theorem own_alist2_ef (m : MethodId) (x0 : Addr) : entryFrame m #[(.ref x0)] 1 = mkF m 0 #[.val (.ref x0)] [] := by first | (simp [entryFrame, mkF, argsToLocals, Value.category]; done) | rfl
def own_alist2_Q (Z : State) (s_ : Addr) (h0 : Heap) (n0 : Nat) (vv_ : Option Value) (hh_ : Heap) (LL_ : List Loc) : Prop := vv_ = none ∧ Fr n0 LL_ ∧ Keep h0 hh_ [s_] ∧ (Fld Z hh_ s_ "java/util/ArrayList$SubList" "root" "Ljava/util/ArrayList;" .null) ∧ (Fld Z hh_ s_ "java/util/ArrayList$SubList" "parent" "Ljava/util/ArrayList$SubList;" .null) ∧ (Fld Z hh_ s_ "java/util/ArrayList$SubList" "offset" "I" (.int (0 : Int32))) ∧ (Fld Z hh_ s_ "java/util/ArrayList$SubList" "size" "I" (.int (0 : Int32))) ∧ (Fld Z hh_ s_ "java/util/AbstractList" "modCount" "I" (.int (0 : Int32)))
set_option maxRecDepth 65536 in
set_option maxHeartbeats 40000000 in
theorem own_alist2 (l : Launch) (Z : State) (a0 : Array Value) (hw : ∀ d ∈ tables_1, d.before a0 Z = true) (ws : List Jvm.Cond) (s_ : Addr) (h0 : Heap) (n0 : Nat) (Z0 : n0 ≤ h0.size) (E : Exa Z h0 s_ "java/util/ArrayList$SubList") (F1 : Fld Z h0 s_ "java/util/ArrayList$SubList" "root" "Ljava/util/ArrayList;" .null) (F2 : Fld Z h0 s_ "java/util/ArrayList$SubList" "parent" "Ljava/util/ArrayList$SubList;" .null) (F3 : Fld Z h0 s_ "java/util/ArrayList$SubList" "offset" "I" (.int (0 : Int32))) (F4 : Fld Z h0 s_ "java/util/ArrayList$SubList" "size" "I" (.int (0 : Int32))) (F5 : Fld Z h0 s_ "java/util/AbstractList" "modCount" "I" (.int (0 : Int32))) (g : n0 ≤ s_) :
    MetFree l (⟨"java/util/AbstractList", "<init>", "()V"⟩ : MethodName) (head1 (Jvm.Cond.code (⟨"java/util/AbstractList", "<init>", "()V"⟩ : MethodName) jdk_39_method_1_code 1 none :: ws) ({ frames := 2, cells := 0, slots := 0, locals := 24 } : Room)) (fun aa_ UU_ => aa_ = #[(.ref s_)] ∧ Z.Warmed39 UU_.vm ∧ UU_.heap = h0) (fun _ _ _ _ _ => True) (fun _ UU_ oo_ UV_ => ∃ vv_ LL_, oo_ = .returned vv_ ∧ own_alist2_Q Z s_ h0 n0 vv_ UV_.heap LL_ ∧ FrameEnd UU_ oo_ UV_ LL_ ({ frames := 2, cells := 0, slots := 0, locals := 24 } : Room).cells ({ frames := 2, cells := 0, slots := 0, locals := 24 } : Room).slots) := by
  refine MetFree.of_bodySF (plainFor_of_name own_alist2_pn) hisR ?_
  intro p e s m args below meth c s₁ Bd hml0 hP hK
  obtain ⟨rfl, hZ, hh⟩ := hP
  have hx := Bd.exec
  have hby := Bd.bytes
  have hml : c.maxLocals = 1 := hml0
  have hown : s.vm.findClass "java/util/AbstractList" = some m.cls := findClass_of_methodNamed Bd.named
  have hnm := (name_of_methodNamed Bd.named Bd.method).1
  have X0 : Stand p l e ({ frames := 2, cells := 0, slots := 0, locals := 24 } : Room) s m #[(.ref s_)] below meth c s₁ [] 0 0 := Stand.of_body Bd
  have e0 : s₁.heap = h0 := by rw [← hh, Bd.state]; rfl
  have N0 := Fr.nil n0
  have KP0 : Keep h0 h0 [s_] := Keep.refl _ _
  refine ownFin (Q := own_alist2_Q Z s_ h0 n0) ?_
  refine ownStep (fun _ k => castTop (own_alist2_ef m s_) k) ?_
  show ownGo p.tables e below (s₁.setTop (mkF m 0 #[.val (.ref s_)] [])) _
  refine ownStep (fun _ k => XS.aloadN X0.here hx rfl (hb hby own_alist2_d0) rfl rfl k) ?_
  show ownGo p.tables e below (s₁.setTop (mkF m 1 #[.val (.ref s_)] [(.ref s_)])) _
  have Zs2 : n0 ≤ h0.size := Nat.le_trans Z0 KP0.1
  obtain ⟨_, _, ⟨T1, L1, k1, n1⟩, -, X1, ⟨Lc1, hQ1, l1, y1, z1⟩, st1⟩ := X0.specialBack hx (y := (⟨"java/util/AbstractCollection", "<init>", "()V"⟩ : MethodName)) rfl hown (mvT hZ (hw _ (List.mem_of_getElem? (i := 17) rfl))) (mvT hZ (hw _ (List.mem_of_getElem? (i := 18) rfl))) (mvT hZ (hw _ (List.mem_of_getElem? (i := 22) rfl))) (by decide) (backOf (W := 0) (own_al_acol l Z a0 hw [] s_ h0 n0 Zs2 ) hZ (hw _ (List.mem_of_getElem? (i := 22) rfl)) (hw _ (List.mem_of_getElem? (i := 21) rfl)) (by decide) (by decide)) (g := (mkF m 1 #[.val (.ref s_)] [(.ref s_)])) rfl (by rw [hml]; rfl) (Steps.refl _) (a := s_) (argsL := []) (rest := []) (lenOf own_alist2_pd0 rfl) rfl (by show 2 * 0 + _ ≤ _; exact Nat.le_of_eq rfl) (hb hby own_alist2_d1) (fun _ _ => ⟨rfl, e0, (by decide : 0 + 0 ≤ _), (by decide : 0 + 0 ≤ _)⟩)
  dsimp only [Pt.U, Pt.locs, Pt.cells, Pt.slots] at X1 l1 y1 z1 st1 hQ1
  obtain rfl : k1 = 0 := y1
  obtain rfl : n1 = 0 := z1
  obtain ⟨rfl, N1q, R1⟩ := hQ1
  have N1 : Fr n0 L1 := l1 ▸ Fr.app N0 N1q
  refine ownStep (fun _ k => st1.trans k) ?_
  refine ownStep (fun _ k => XS.aloadN X1.here hx rfl (hb hby own_alist2_d4) rfl rfl k) ?_
  refine ownStep (fun _ k => XS.iconst X1.here hx rfl (hb hby own_alist2_d5) k) ?_
  show ownGo p.tables e below (T1.setTop (mkF m 6 #[.val (.ref s_)] [(.int (0 : Int32)), (.ref s_)])) _
  obtain ⟨T3, h3, X3, e3, W3, st3⟩ := putF X1 hx hZ hown (host := "") (Or.inl (hw _ (List.mem_of_getElem? (i := 26) rfl))) Via.refl R1 F5 E (Or.inl (hw _ (List.mem_of_getElem? (i := 108) rfl))) (hw _ (List.mem_of_getElem? (i := 99) rfl)) (ty := .int) (by decide) rfl rfl (g := (mkF m 6 #[.val (.ref s_)] [(.int (0 : Int32)), (.ref s_)])) rfl rfl (hb hby own_alist2_d6)
  have N4 := Fr.snoc X3 N1 g
  have KP5 : Keep h0 h3 [s_] := KP0.wr W3 (Or.inl (List.mem_of_getElem? (i := 0) rfl))
  have F6 : Fld Z h3 s_ "java/util/AbstractList" "modCount" "I" (.int (0 : Int32)) := F5.same W3
  refine ownStep st3 ?_
  show ownGo p.tables e below (T3.setTop (mkF m 9 #[.val (.ref s_)] [])) _
  have Q7 : Fld Z h3 s_ "java/util/ArrayList$SubList" "root" "Ljava/util/ArrayList;" .null := (F1.other W3 (Or.inr (slot_ne (Or.inr (hw _ (List.mem_of_getElem? (i := 110) rfl))) (Or.inl (hw _ (List.mem_of_getElem? (i := 108) rfl))) (by decide) (t := (.object "java/util/ArrayList")) (t' := .int) (by decide) (by decide))))
  have Q8 : Fld Z h3 s_ "java/util/ArrayList$SubList" "parent" "Ljava/util/ArrayList$SubList;" .null := (F2.other W3 (Or.inr (slot_ne (Or.inr (hw _ (List.mem_of_getElem? (i := 112) rfl))) (Or.inl (hw _ (List.mem_of_getElem? (i := 108) rfl))) (by decide) (t := (.object "java/util/ArrayList$SubList")) (t' := .int) (by decide) (by decide))))
  have Q9 : Fld Z h3 s_ "java/util/ArrayList$SubList" "offset" "I" (.int (0 : Int32)) := (F3.other W3 (Or.inr (slot_ne (Or.inr (hw _ (List.mem_of_getElem? (i := 114) rfl))) (Or.inl (hw _ (List.mem_of_getElem? (i := 108) rfl))) (by decide) (t := .int) (t' := .int) (by decide) (by decide))))
  have Q10 : Fld Z h3 s_ "java/util/ArrayList$SubList" "size" "I" (.int (0 : Int32)) := (F4.other W3 (Or.inr (slot_ne (Or.inl (hw _ (List.mem_of_getElem? (i := 116) rfl))) (Or.inl (hw _ (List.mem_of_getElem? (i := 108) rfl))) (by decide) (t := .int) (t' := .int) (by decide) (by decide))))
  exact ownRet X3 (v := none) Bd.notSynchronized (fun _ => rfl) (fun _ hr => X3.returnOut hx Bd.returns (hb hby own_alist2_d9) hr) (by rw [e3]; exact ⟨rfl, N4, KP5, Q7, Q8, Q9, Q10, F6⟩) (by decide) (by decide)
theorem own_sin_d0 : decode jdk_130_method_1_code 0 = .ok (.aload_n 0, 1) := by decide +kernel
theorem own_sin_d1 : decode jdk_130_method_1_code 1 = .ok (.invokespecial 1, 3) := by decide +kernel
theorem own_sin_d4 : decode jdk_130_method_1_code 4 = .ok (.aload_n 0, 1) := by decide +kernel
theorem own_sin_d5 : decode jdk_130_method_1_code 5 = .ok (.aload_n 1, 1) := by decide +kernel
theorem own_sin_d6 : decode jdk_130_method_1_code 6 = .ok (.putfield 7, 3) := by decide +kernel
theorem own_sin_d9 : decode jdk_130_method_1_code 9 = .ok (.aload_n 0, 1) := by decide +kernel
theorem own_sin_d10 : decode jdk_130_method_1_code 10 = .ok (.aconst_null, 1) := by decide +kernel
theorem own_sin_d11 : decode jdk_130_method_1_code 11 = .ok (.putfield 13, 3) := by decide +kernel
theorem own_sin_d14 : decode jdk_130_method_1_code 14 = .ok (.aload_n 0, 1) := by decide +kernel
theorem own_sin_d15 : decode jdk_130_method_1_code 15 = .ok (.iload_n 2, 1) := by decide +kernel
theorem own_sin_d16 : decode jdk_130_method_1_code 16 = .ok (.putfield 17, 3) := by decide +kernel
theorem own_sin_d19 : decode jdk_130_method_1_code 19 = .ok (.aload_n 0, 1) := by decide +kernel
theorem own_sin_d20 : decode jdk_130_method_1_code 20 = .ok (.iload_n 3, 1) := by decide +kernel
theorem own_sin_d21 : decode jdk_130_method_1_code 21 = .ok (.iload_n 2, 1) := by decide +kernel
theorem own_sin_d22 : decode jdk_130_method_1_code 22 = .ok (.isub, 1) := by decide +kernel
theorem own_sin_d23 : decode jdk_130_method_1_code 23 = .ok (.putfield 21, 3) := by decide +kernel
theorem own_sin_d26 : decode jdk_130_method_1_code 26 = .ok (.aload_n 0, 1) := by decide +kernel
theorem own_sin_d27 : decode jdk_130_method_1_code 27 = .ok (.aload_n 1, 1) := by decide +kernel
theorem own_sin_d28 : decode jdk_130_method_1_code 28 = .ok (.getfield 24, 3) := by decide +kernel
theorem own_sin_d31 : decode jdk_130_method_1_code 31 = .ok (.putfield 29, 3) := by decide +kernel
theorem own_sin_d34 : decode jdk_130_method_1_code 34 = .ok (.return_, 1) := by decide +kernel
theorem own_sin_pn : plainName "java/util/ArrayList$SubList" = true := by first | (simp [plainName, overriddenIn]; done) | decide +kernel
theorem own_sin_pd0 : parseMethodDescriptor "()V" = some ⟨[], none⟩ := by decide +kernel
theorem own_sin_ef (m : MethodId) (x0 : Addr) (x1 : Addr) (x2 : Int32) (x3 : Int32) : entryFrame m #[(.ref x0), (.ref x1), (.int x2), (.int x3)] 4 = mkF m 0 #[.val (.ref x0), .val (.ref x1), .val (.int x2), .val (.int x3)] [] := by first | (simp [entryFrame, mkF, argsToLocals, Value.category]; done) | rfl
def own_sin_Q (Z : State) (s_ : Addr) (a : Addr) (mc : Int32) (oo : Int32) (eo : Int32) (h0 : Heap) (n0 : Nat) (vv_ : Option Value) (hh_ : Heap) (LL_ : List Loc) : Prop := vv_ = none ∧ Fr n0 LL_ ∧ Keep h0 hh_ [s_] ∧ (Fld Z hh_ s_ "java/util/ArrayList$SubList" "root" "Ljava/util/ArrayList;" (.ref a)) ∧ (Fld Z hh_ s_ "java/util/ArrayList$SubList" "offset" "I" (.int oo)) ∧ (Fld Z hh_ s_ "java/util/ArrayList$SubList" "size" "I" (.int (eo - oo))) ∧ (Fld Z hh_ s_ "java/util/AbstractList" "modCount" "I" (.int mc))
set_option maxRecDepth 65536 in
set_option maxHeartbeats 40000000 in
theorem own_sin (l : Launch) (Z : State) (a0 : Array Value) (hw : ∀ d ∈ tables_1, d.before a0 Z = true) (ws : List Jvm.Cond) (s_ : Addr) (a : Addr) (mc : Int32) (oo : Int32) (eo : Int32) (h0 : Heap) (n0 : Nat) (Z0 : n0 ≤ h0.size) (E : Exa Z h0 s_ "java/util/ArrayList$SubList") (F1 : Fld Z h0 s_ "java/util/ArrayList$SubList" "root" "Ljava/util/ArrayList;" .null) (F2 : Fld Z h0 s_ "java/util/ArrayList$SubList" "parent" "Ljava/util/ArrayList$SubList;" .null) (F3 : Fld Z h0 s_ "java/util/ArrayList$SubList" "offset" "I" (.int (0 : Int32))) (F4 : Fld Z h0 s_ "java/util/ArrayList$SubList" "size" "I" (.int (0 : Int32))) (F5 : Fld Z h0 s_ "java/util/AbstractList" "modCount" "I" (.int (0 : Int32))) (g : n0 ≤ s_) (Ea : Exa Z h0 a "java/util/ArrayList") (Fm : Fld Z h0 a "java/util/AbstractList" "modCount" "I" (.int mc)) (dn : a ≠ s_) :
    MetFree l (⟨"java/util/ArrayList$SubList", "<init>", "(Ljava/util/ArrayList;II)V"⟩ : MethodName) (head1 (Jvm.Cond.code (⟨"java/util/ArrayList$SubList", "<init>", "(Ljava/util/ArrayList;II)V"⟩ : MethodName) jdk_130_method_1_code 4 none :: ws) ({ frames := 3, cells := 0, slots := 0, locals := 36 } : Room)) (fun aa_ UU_ => aa_ = #[(.ref s_), (.ref a), (.int oo), (.int eo)] ∧ Z.Warmed39 UU_.vm ∧ UU_.heap = h0) (fun _ _ _ _ _ => True) (fun _ UU_ oo_ UV_ => ∃ vv_ LL_, oo_ = .returned vv_ ∧ own_sin_Q Z s_ a mc oo eo h0 n0 vv_ UV_.heap LL_ ∧ FrameEnd UU_ oo_ UV_ LL_ ({ frames := 3, cells := 0, slots := 0, locals := 36 } : Room).cells ({ frames := 3, cells := 0, slots := 0, locals := 36 } : Room).slots) := by
  refine MetFree.of_bodySF (plainFor_of_name own_sin_pn) hisR ?_
  intro p e s m args below meth c s₁ Bd hml0 hP hK
  obtain ⟨rfl, hZ, hh⟩ := hP
  have hx := Bd.exec
  have hby := Bd.bytes
  have hml : c.maxLocals = 4 := hml0
  have hown : s.vm.findClass "java/util/ArrayList$SubList" = some m.cls := findClass_of_methodNamed Bd.named
  have hnm := (name_of_methodNamed Bd.named Bd.method).1
  have X0 : Stand p l e ({ frames := 3, cells := 0, slots := 0, locals := 36 } : Room) s m #[(.ref s_), (.ref a), (.int oo), (.int eo)] below meth c s₁ [] 0 0 := Stand.of_body Bd
  have e0 : s₁.heap = h0 := by rw [← hh, Bd.state]; rfl
  have N0 := Fr.nil n0
  have KP0 : Keep h0 h0 [s_] := Keep.refl _ _
  refine ownFin (Q := own_sin_Q Z s_ a mc oo eo h0 n0) ?_
  refine ownStep (fun _ k => castTop (own_sin_ef m s_ a oo eo) k) ?_
  show ownGo p.tables e below (s₁.setTop (mkF m 0 #[.val (.ref s_), .val (.ref a), .val (.int oo), .val (.int eo)] [])) _
  refine ownStep (fun _ k => XS.aloadN X0.here hx rfl (hb hby own_sin_d0) rfl rfl k) ?_
  show ownGo p.tables e below (s₁.setTop (mkF m 1 #[.val (.ref s_), .val (.ref a), .val (.int oo), .val (.int eo)] [(.ref s_)])) _
  have Zs2 : n0 ≤ h0.size := Nat.le_trans Z0 KP0.1
  obtain ⟨_, _, ⟨T1, L1, k1, n1⟩, -, X1, ⟨Lc1, hQ1, l1, y1, z1⟩, st1⟩ := X0.specialBack hx (y := (⟨"java/util/AbstractList", "<init>", "()V"⟩ : MethodName)) rfl hown (mvT hZ (hw _ (List.mem_of_getElem? (i := 105) rfl))) (mvT hZ (hw _ (List.mem_of_getElem? (i := 12) rfl))) (mvT hZ (hw _ (List.mem_of_getElem? (i := 16) rfl))) (by decide) (backOf (W := 0) (own_alist2 l Z a0 hw [] s_ h0 n0 Zs2 E F1 F2 F3 F4 F5 g) hZ (hw _ (List.mem_of_getElem? (i := 16) rfl)) (hw _ (List.mem_of_getElem? (i := 15) rfl)) (by decide) (by decide)) (g := (mkF m 1 #[.val (.ref s_), .val (.ref a), .val (.int oo), .val (.int eo)] [(.ref s_)])) rfl (by rw [hml]; rfl) (Steps.refl _) (a := s_) (argsL := []) (rest := []) (lenOf own_sin_pd0 rfl) rfl (by show 2 * 0 + _ ≤ _; exact Nat.le_of_eq rfl) (hb hby own_sin_d1) (fun _ _ => ⟨rfl, e0, (by decide : 0 + 0 ≤ _), (by decide : 0 + 0 ≤ _)⟩)
  dsimp only [Pt.U, Pt.locs, Pt.cells, Pt.slots] at X1 l1 y1 z1 st1 hQ1
  obtain rfl : k1 = 0 := y1
  obtain rfl : n1 = 0 := z1
  obtain ⟨rfl, N1q, R1, P3, P4, P5, P6, P7⟩ := hQ1
  have N1 : Fr n0 L1 := l1 ▸ Fr.app N0 N1q
  refine ownStep (fun _ k => st1.trans k) ?_
  have KP8 : Keep h0 T1.heap [s_] := KP0.trans R1 (allS (Or.inl (List.mem_of_getElem? (i := 0) rfl)) all0)
  refine ownStep (fun _ k => XS.aloadN X1.here hx rfl (hb hby own_sin_d4) rfl rfl k) ?_
  refine ownStep (fun _ k => XS.aloadN X1.here hx rfl (hb hby own_sin_d5) rfl rfl k) ?_
  show ownGo p.tables e below (T1.setTop (mkF m 6 #[.val (.ref s_), .val (.ref a), .val (.int oo), .val (.int eo)] [(.ref a), (.ref s_)])) _
  have Q9 : Exa Z T1.heap s_ "java/util/ArrayList$SubList" := (E.keep R1)
  obtain ⟨T10, h10, X10, e10, W10, st10⟩ := putF X1 hx hZ hown (host := "") (Or.inl (hw _ (List.mem_of_getElem? (i := 109) rfl))) Via.refl rfl P3 Q9 (Or.inr ⟨(hw _ (List.mem_of_getElem? (i := 110) rfl)), rfl, hnm⟩) (hw _ (List.mem_of_getElem? (i := 99) rfl)) (ty := (.object "java/util/ArrayList")) (by decide) rfl rfl (g := (mkF m 6 #[.val (.ref s_), .val (.ref a), .val (.int oo), .val (.int eo)] [(.ref a), (.ref s_)])) rfl rfl (hb hby own_sin_d6)
  have N11 := Fr.snoc X10 N1 g
  have KP12 : Keep h0 h10 [s_] := KP8.wr W10 (Or.inl (List.mem_of_getElem? (i := 0) rfl))
  have F13 : Fld Z h10 s_ "java/util/ArrayList$SubList" "root" "Ljava/util/ArrayList;" (.ref a) := P3.same W10
  refine ownStep st10 ?_
  refine ownStep (fun _ k => XS.aloadN X10.here hx rfl (hb hby own_sin_d9) rfl rfl k) ?_
  refine ownStep (fun _ k => XS.aconstNull X10.here hx rfl (hb hby own_sin_d10) k) ?_
  show ownGo p.tables e below (T10.setTop (mkF m 11 #[.val (.ref s_), .val (.ref a), .val (.int oo), .val (.int eo)] [.null, (.ref s_)])) _
  have Q14 : Fld Z h10 s_ "java/util/ArrayList$SubList" "parent" "Ljava/util/ArrayList$SubList;" .null := (P4.other W10 (Or.inr (slot_ne (Or.inr (hw _ (List.mem_of_getElem? (i := 112) rfl))) (Or.inr (hw _ (List.mem_of_getElem? (i := 110) rfl))) (by decide) (t := (.object "java/util/ArrayList$SubList")) (t' := (.object "java/util/ArrayList")) (by decide) (by decide))))
  have Q15 : Exa Z h10 s_ "java/util/ArrayList$SubList" := (Q9.wr W10)
  obtain ⟨T16, h16, X16, e16, W16, st16⟩ := putF X10 hx hZ hown (host := "") (Or.inl (hw _ (List.mem_of_getElem? (i := 111) rfl))) Via.refl e10 Q14 Q15 (Or.inr ⟨(hw _ (List.mem_of_getElem? (i := 112) rfl)), rfl, hnm⟩) (hw _ (List.mem_of_getElem? (i := 99) rfl)) (ty := (.object "java/util/ArrayList$SubList")) (by decide) rfl rfl (g := (mkF m 11 #[.val (.ref s_), .val (.ref a), .val (.int oo), .val (.int eo)] [.null, (.ref s_)])) rfl rfl (hb hby own_sin_d11)
  have N17 := Fr.snoc X16 N11 g
  have KP18 : Keep h0 h16 [s_] := KP12.wr W16 (Or.inl (List.mem_of_getElem? (i := 0) rfl))
  have F19 : Fld Z h16 s_ "java/util/ArrayList$SubList" "parent" "Ljava/util/ArrayList$SubList;" .null := Q14.same W16
  refine ownStep st16 ?_
  refine ownStep (fun _ k => XS.aloadN X16.here hx rfl (hb hby own_sin_d14) rfl rfl k) ?_
  refine ownStep (fun _ k => XS.iloadN X16.here hx rfl (hb hby own_sin_d15) rfl  k) ?_
  show ownGo p.tables e below (T16.setTop (mkF m 16 #[.val (.ref s_), .val (.ref a), .val (.int oo), .val (.int eo)] [(.int oo), (.ref s_)])) _
  have Q20 : Fld Z h16 s_ "java/util/ArrayList$SubList" "offset" "I" (.int (0 : Int32)) := ((P5.other W10 (Or.inr (slot_ne (Or.inr (hw _ (List.mem_of_getElem? (i := 114) rfl))) (Or.inr (hw _ (List.mem_of_getElem? (i := 110) rfl))) (by decide) (t := .int) (t' := (.object "java/util/ArrayList")) (by decide) (by decide)))).other W16 (Or.inr (slot_ne (Or.inr (hw _ (List.mem_of_getElem? (i := 114) rfl))) (Or.inr (hw _ (List.mem_of_getElem? (i := 112) rfl))) (by decide) (t := .int) (t' := (.object "java/util/ArrayList$SubList")) (by decide) (by decide))))
  have Q21 : Exa Z h16 s_ "java/util/ArrayList$SubList" := (Q15.wr W16)
  obtain ⟨T22, h22, X22, e22, W22, st22⟩ := putF X16 hx hZ hown (host := "") (Or.inl (hw _ (List.mem_of_getElem? (i := 113) rfl))) Via.refl e16 Q20 Q21 (Or.inr ⟨(hw _ (List.mem_of_getElem? (i := 114) rfl)), rfl, hnm⟩) (hw _ (List.mem_of_getElem? (i := 99) rfl)) (ty := .int) (by decide) rfl rfl (g := (mkF m 16 #[.val (.ref s_), .val (.ref a), .val (.int oo), .val (.int eo)] [(.int oo), (.ref s_)])) rfl rfl (hb hby own_sin_d16)
  have N23 := Fr.snoc X22 N17 g
  have KP24 : Keep h0 h22 [s_] := KP18.wr W22 (Or.inl (List.mem_of_getElem? (i := 0) rfl))
  have F25 : Fld Z h22 s_ "java/util/ArrayList$SubList" "offset" "I" (.int oo) := Q20.same W22
  refine ownStep st22 ?_
  refine ownStep (fun _ k => XS.aloadN X22.here hx rfl (hb hby own_sin_d19) rfl rfl k) ?_
  refine ownStep (fun _ k => XS.iloadN X22.here hx rfl (hb hby own_sin_d20) rfl  k) ?_
  refine ownStep (fun _ k => XS.iloadN X22.here hx rfl (hb hby own_sin_d21) rfl  k) ?_
  refine ownStep (fun _ k => XS.isub X22.here hx rfl (hb hby own_sin_d22) rfl k) ?_
  show ownGo p.tables e below (T22.setTop (mkF m 23 #[.val (.ref s_), .val (.ref a), .val (.int oo), .val (.int eo)] [(.int (eo - oo)), (.ref s_)])) _
  have Q26 : Fld Z h22 s_ "java/util/ArrayList$SubList" "size" "I" (.int (0 : Int32)) := (((P6.other W10 (Or.inr (slot_ne (Or.inl (hw _ (List.mem_of_getElem? (i := 116) rfl))) (Or.inr (hw _ (List.mem_of_getElem? (i := 110) rfl))) (by decide) (t := .int) (t' := (.object "java/util/ArrayList")) (by decide) (by decide)))).other W16 (Or.inr (slot_ne (Or.inl (hw _ (List.mem_of_getElem? (i := 116) rfl))) (Or.inr (hw _ (List.mem_of_getElem? (i := 112) rfl))) (by decide) (t := .int) (t' := (.object "java/util/ArrayList$SubList")) (by decide) (by decide)))).other W22 (Or.inr (slot_ne (Or.inl (hw _ (List.mem_of_getElem? (i := 116) rfl))) (Or.inr (hw _ (List.mem_of_getElem? (i := 114) rfl))) (by decide) (t := .int) (t' := .int) (by decide) (by decide))))
  have Q27 : Exa Z h22 s_ "java/util/ArrayList$SubList" := (Q21.wr W22)
  obtain ⟨T28, h28, X28, e28, W28, st28⟩ := putF X22 hx hZ hown (host := "") (Or.inl (hw _ (List.mem_of_getElem? (i := 115) rfl))) Via.refl e22 Q26 Q27 (Or.inl (hw _ (List.mem_of_getElem? (i := 116) rfl))) (hw _ (List.mem_of_getElem? (i := 99) rfl)) (ty := .int) (by decide) rfl rfl (g := (mkF m 23 #[.val (.ref s_), .val (.ref a), .val (.int oo), .val (.int eo)] [(.int (eo - oo)), (.ref s_)])) rfl rfl (hb hby own_sin_d23)
  have N29 := Fr.snoc X28 N23 g
  have KP30 : Keep h0 h28 [s_] := KP24.wr W28 (Or.inl (List.mem_of_getElem? (i := 0) rfl))
  have F31 : Fld Z h28 s_ "java/util/ArrayList$SubList" "size" "I" (.int (eo - oo)) := Q26.same W28
  refine ownStep st28 ?_
  refine ownStep (fun _ k => XS.aloadN X28.here hx rfl (hb hby own_sin_d26) rfl rfl k) ?_
  refine ownStep (fun _ k => XS.aloadN X28.here hx rfl (hb hby own_sin_d27) rfl rfl k) ?_
  show ownGo p.tables e below (T28.setTop (mkF m 28 #[.val (.ref s_), .val (.ref a), .val (.int oo), .val (.int eo)] [(.ref a), (.ref s_)])) _
  have Q32 : Fld Z h28 a "java/util/AbstractList" "modCount" "I" (.int mc) := (((((Fm.keep R1 (ninS dn nin0)).other W10 (Or.inl dn)).other W16 (Or.inl dn)).other W22 (Or.inl dn)).other W28 (Or.inl dn))
  obtain ⟨T33, X33, e33, st33⟩ := getF X28 hx hZ hown (host := "") (Or.inl (hw _ (List.mem_of_getElem? (i := 117) rfl))) (Via.of (hw _ (List.mem_of_getElem? (i := 63) rfl))) e28 Q32 (g := (mkF m 28 #[.val (.ref s_), .val (.ref a), .val (.int oo), .val (.int eo)] [(.ref a), (.ref s_)])) rfl rfl (hb hby own_sin_d28)
  refine ownStep st33 ?_
  show ownGo p.tables e below (T33.setTop (mkF m 31 #[.val (.ref s_), .val (.ref a), .val (.int oo), .val (.int eo)] [(.int mc), (.ref s_)])) _
  have Q34 : Fld Z h28 s_ "java/util/AbstractList" "modCount" "I" (.int (0 : Int32)) := ((((P7.other W10 (Or.inr (slot_ne (Or.inl (hw _ (List.mem_of_getElem? (i := 108) rfl))) (Or.inr (hw _ (List.mem_of_getElem? (i := 110) rfl))) (by decide) (t := .int) (t' := (.object "java/util/ArrayList")) (by decide) (by decide)))).other W16 (Or.inr (slot_ne (Or.inl (hw _ (List.mem_of_getElem? (i := 108) rfl))) (Or.inr (hw _ (List.mem_of_getElem? (i := 112) rfl))) (by decide) (t := .int) (t' := (.object "java/util/ArrayList$SubList")) (by decide) (by decide)))).other W22 (Or.inr (slot_ne (Or.inl (hw _ (List.mem_of_getElem? (i := 108) rfl))) (Or.inr (hw _ (List.mem_of_getElem? (i := 114) rfl))) (by decide) (t := .int) (t' := .int) (by decide) (by decide)))).other W28 (Or.inr (slot_ne (Or.inl (hw _ (List.mem_of_getElem? (i := 108) rfl))) (Or.inl (hw _ (List.mem_of_getElem? (i := 116) rfl))) (by decide) (t := .int) (t' := .int) (by decide) (by decide))))
  have Q35 : Exa Z h28 s_ "java/util/ArrayList$SubList" := (Q27.wr W28)
  obtain ⟨T36, h36, X36, e36, W36, st36⟩ := putF X33 hx hZ hown (host := "") (Or.inl (hw _ (List.mem_of_getElem? (i := 118) rfl))) (Via.of (hw _ (List.mem_of_getElem? (i := 119) rfl))) e33 Q34 Q35 (Or.inl (hw _ (List.mem_of_getElem? (i := 108) rfl))) (hw _ (List.mem_of_getElem? (i := 99) rfl)) (ty := .int) (by decide) rfl rfl (g := (mkF m 31 #[.val (.ref s_), .val (.ref a), .val (.int oo), .val (.int eo)] [(.int mc), (.ref s_)])) rfl rfl (hb hby own_sin_d31)
  have N37 := Fr.snoc X36 N29 g
  have KP38 : Keep h0 h36 [s_] := KP30.wr W36 (Or.inl (List.mem_of_getElem? (i := 0) rfl))
  have F39 : Fld Z h36 s_ "java/util/AbstractList" "modCount" "I" (.int mc) := Q34.same W36
  refine ownStep st36 ?_
  show ownGo p.tables e below (T36.setTop (mkF m 34 #[.val (.ref s_), .val (.ref a), .val (.int oo), .val (.int eo)] [])) _
  have Q40 : Fld Z h36 s_ "java/util/ArrayList$SubList" "root" "Ljava/util/ArrayList;" (.ref a) := ((((F13.other W16 (Or.inr (slot_ne (Or.inr (hw _ (List.mem_of_getElem? (i := 110) rfl))) (Or.inr (hw _ (List.mem_of_getElem? (i := 112) rfl))) (by decide) (t := (.object "java/util/ArrayList")) (t' := (.object "java/util/ArrayList$SubList")) (by decide) (by decide)))).other W22 (Or.inr (slot_ne (Or.inr (hw _ (List.mem_of_getElem? (i := 110) rfl))) (Or.inr (hw _ (List.mem_of_getElem? (i := 114) rfl))) (by decide) (t := (.object "java/util/ArrayList")) (t' := .int) (by decide) (by decide)))).other W28 (Or.inr (slot_ne (Or.inr (hw _ (List.mem_of_getElem? (i := 110) rfl))) (Or.inl (hw _ (List.mem_of_getElem? (i := 116) rfl))) (by decide) (t := (.object "java/util/ArrayList")) (t' := .int) (by decide) (by decide)))).other W36 (Or.inr (slot_ne (Or.inr (hw _ (List.mem_of_getElem? (i := 110) rfl))) (Or.inl (hw _ (List.mem_of_getElem? (i := 108) rfl))) (by decide) (t := (.object "java/util/ArrayList")) (t' := .int) (by decide) (by decide))))
  have Q41 : Fld Z h36 s_ "java/util/ArrayList$SubList" "offset" "I" (.int oo) := ((F25.other W28 (Or.inr (slot_ne (Or.inr (hw _ (List.mem_of_getElem? (i := 114) rfl))) (Or.inl (hw _ (List.mem_of_getElem? (i := 116) rfl))) (by decide) (t := .int) (t' := .int) (by decide) (by decide)))).other W36 (Or.inr (slot_ne (Or.inr (hw _ (List.mem_of_getElem? (i := 114) rfl))) (Or.inl (hw _ (List.mem_of_getElem? (i := 108) rfl))) (by decide) (t := .int) (t' := .int) (by decide) (by decide))))
  have Q42 : Fld Z h36 s_ "java/util/ArrayList$SubList" "size" "I" (.int (eo - oo)) := (F31.other W36 (Or.inr (slot_ne (Or.inl (hw _ (List.mem_of_getElem? (i := 116) rfl))) (Or.inl (hw _ (List.mem_of_getElem? (i := 108) rfl))) (by decide) (t := .int) (t' := .int) (by decide) (by decide))))
  exact ownRet X36 (v := none) Bd.notSynchronized (fun _ => rfl) (fun _ hr => X36.returnOut hx Bd.returns (hb hby own_sin_d34) hr) (by rw [e36]; exact ⟨rfl, N37, KP38, Q40, Q41, Q42, F39⟩) (by decide) (by decide)
theorem own_src_d0 : decode jdk_39_method_15_code 0 = .ok (.iload_n 0, 1) := by decide +kernel
theorem own_src_d1 : decode jdk_39_method_15_code 1 = .ok (.ifCond .ge 30, 3) := by decide +kernel
theorem own_src_d31 : decode jdk_39_method_15_code 31 = .ok (.iload_n 1, 1) := by decide +kernel
theorem own_src_d32 : decode jdk_39_method_15_code 32 = .ok (.iload_n 2, 1) := by decide +kernel
theorem own_src_d33 : decode jdk_39_method_15_code 33 = .ok (.if_icmp .le 30, 3) := by decide +kernel
theorem own_src_d63 : decode jdk_39_method_15_code 63 = .ok (.iload_n 0, 1) := by decide +kernel
theorem own_src_d64 : decode jdk_39_method_15_code 64 = .ok (.iload_n 1, 1) := by decide +kernel
theorem own_src_d65 : decode jdk_39_method_15_code 65 = .ok (.if_icmp .le 44, 3) := by decide +kernel
theorem own_src_d109 : decode jdk_39_method_15_code 109 = .ok (.return_, 1) := by decide +kernel
theorem own_src_pn : plainName "java/util/AbstractList" = true := by first | (simp [plainName, overriddenIn]; done) | decide +kernel
theorem own_src_ef (m : MethodId) (x0 : Int32) (x1 : Int32) (x2 : Int32) : entryFrame m #[(.int x0), (.int x1), (.int x2)] 3 = mkF m 0 #[.val (.int x0), .val (.int x1), .val (.int x2)] [] := by first | (simp [entryFrame, mkF, argsToLocals, Value.category]; done) | rfl
def own_src_Q (Z : State) (oo : Int32) (eo : Int32) (nn : Int32) (h0 : Heap) (n0 : Nat) (vv_ : Option Value) (hh_ : Heap) (LL_ : List Loc) : Prop := vv_ = none ∧ Fr n0 LL_ ∧ hh_ = h0
set_option maxRecDepth 65536 in
set_option maxHeartbeats 40000000 in
theorem own_src (l : Launch) (Z : State) (a0 : Array Value) (hw : ∀ d ∈ tables_1, d.before a0 Z = true) (ws : List Jvm.Cond) (oo : Int32) (eo : Int32) (nn : Int32) (h0 : Heap) (n0 : Nat) (Z0 : n0 ≤ h0.size) (lo : ¬ oo < (0 : Int32)) (le : ¬ nn < eo) (loe : ¬ eo < oo) :
    MetFree l (⟨"java/util/AbstractList", "subListRangeCheck", "(III)V"⟩ : MethodName) (head1 (Jvm.Cond.code (⟨"java/util/AbstractList", "subListRangeCheck", "(III)V"⟩ : MethodName) jdk_39_method_15_code 3 none :: ws) ({ frames := 0, cells := 0, slots := 0, locals := 0 } : Room)) (fun aa_ UU_ => aa_ = #[(.int oo), (.int eo), (.int nn)] ∧ Z.Warmed39 UU_.vm ∧ UU_.heap = h0) (fun _ _ _ _ _ => True) (fun _ UU_ oo_ UV_ => ∃ vv_ LL_, oo_ = .returned vv_ ∧ own_src_Q Z oo eo nn h0 n0 vv_ UV_.heap LL_ ∧ FrameEnd UU_ oo_ UV_ LL_ ({ frames := 0, cells := 0, slots := 0, locals := 0 } : Room).cells ({ frames := 0, cells := 0, slots := 0, locals := 0 } : Room).slots) := by
  refine MetFree.of_bodySF (plainFor_of_name own_src_pn) hisR ?_
  intro p e s m args below meth c s₁ Bd hml0 hP hK
  obtain ⟨rfl, hZ, hh⟩ := hP
  have hx := Bd.exec
  have hby := Bd.bytes
  have hml : c.maxLocals = 3 := hml0
  have hown : s.vm.findClass "java/util/AbstractList" = some m.cls := findClass_of_methodNamed Bd.named
  have hnm := (name_of_methodNamed Bd.named Bd.method).1
  have X0 : Stand p l e ({ frames := 0, cells := 0, slots := 0, locals := 0 } : Room) s m #[(.int oo), (.int eo), (.int nn)] below meth c s₁ [] 0 0 := Stand.of_body Bd
  have e0 : s₁.heap = h0 := by rw [← hh, Bd.state]; rfl
  have N0 := Fr.nil n0
  have KP0 : Keep h0 h0 [] := Keep.refl _ _
  refine ownFin (Q := own_src_Q Z oo eo nn h0 n0) ?_
  refine ownStep (fun _ k => castTop (own_src_ef m oo eo nn) k) ?_
  show ownGo p.tables e below (s₁.setTop (mkF m 0 #[.val (.int oo), .val (.int eo), .val (.int nn)] [])) _
  refine ownStep (fun _ k => XS.iloadN X0.here hx rfl (hb hby own_src_d0) rfl  k) ?_
  refine ownStep (fun _ k => XS.ifYes X0.here hx rfl (pc0 := 1) (pc' := 31) rfl (hb hby own_src_d1) rfl ((if0 _ _).trans (flt (lo : ¬ oo < (0 : Int32))).2.1) (by decide) (by decide) k) ?_
  refine ownStep (fun _ k => XS.iloadN X0.here hx rfl (hb hby own_src_d31) rfl  k) ?_
  refine ownStep (fun _ k => XS.iloadN X0.here hx rfl (hb hby own_src_d32) rfl  k) ?_
  refine ownStep (fun _ k => XS.icmpYes X0.here hx rfl (pc0 := 33) (pc' := 63) rfl (hb hby own_src_d33) rfl (flt (le : ¬ nn < eo)).2.2.2 (by decide) (by decide) k) ?_
  show ownGo p.tables e below (s₁.setTop (mkF m 63 #[.val (.int oo), .val (.int eo), .val (.int nn)] [])) _
  refine ownStep (fun _ k => XS.iloadN X0.here hx rfl (hb hby own_src_d63) rfl  k) ?_
  refine ownStep (fun _ k => XS.iloadN X0.here hx rfl (hb hby own_src_d64) rfl  k) ?_
  refine ownStep (fun _ k => XS.icmpYes X0.here hx rfl (pc0 := 65) (pc' := 109) rfl (hb hby own_src_d65) rfl (flt (loe : ¬ eo < oo)).2.2.2 (by decide) (by decide) k) ?_
  show ownGo p.tables e below (s₁.setTop (mkF m 109 #[.val (.int oo), .val (.int eo), .val (.int nn)] [])) _
  exact ownRet X0 (v := none) Bd.notSynchronized (fun _ => rfl) (fun _ hr => X0.returnOut hx Bd.returns (hb hby own_src_d109) hr) (by rw [e0]; exact ⟨rfl, N0, rfl⟩) (by decide) (by decide)
theorem own_sbl_d0 : decode jdk_38_method_56_code 0 = .ok (.iload_n 1, 1) := by decide +kernel
theorem own_sbl_d1 : decode jdk_38_method_56_code 1 = .ok (.iload_n 2, 1) := by decide +kernel
theorem own_sbl_d2 : decode jdk_38_method_56_code 2 = .ok (.aload_n 0, 1) := by decide +kernel
theorem own_sbl_d3 : decode jdk_38_method_56_code 3 = .ok (.getfield 48, 3) := by decide +kernel
theorem own_sbl_d6 : decode jdk_38_method_56_code 6 = .ok (.invokestatic 272, 3) := by decide +kernel
theorem own_sbl_d9 : decode jdk_38_method_56_code 9 = .ok (.new 276, 3) := by decide +kernel
theorem own_sbl_d12 : decode jdk_38_method_56_code 12 = .ok (.dup, 1) := by decide +kernel
theorem own_sbl_d13 : decode jdk_38_method_56_code 13 = .ok (.aload_n 0, 1) := by decide +kernel
theorem own_sbl_d14 : decode jdk_38_method_56_code 14 = .ok (.iload_n 1, 1) := by decide +kernel
theorem own_sbl_d15 : decode jdk_38_method_56_code 15 = .ok (.iload_n 2, 1) := by decide +kernel
theorem own_sbl_d16 : decode jdk_38_method_56_code 16 = .ok (.invokespecial 278, 3) := by decide +kernel
theorem own_sbl_d19 : decode jdk_38_method_56_code 19 = .ok (.areturn, 1) := by decide +kernel
theorem own_sbl_pn : plainName "java/util/ArrayList" = true := by first | (simp [plainName, overriddenIn]; done) | decide +kernel
theorem own_sbl_pd0 : parseMethodDescriptor "(III)V" = some ⟨[.int, .int, .int], none⟩ := by decide +kernel
theorem own_sbl_pd1 : parseMethodDescriptor "(Ljava/util/ArrayList;II)V" = some ⟨[(.object "java/util/ArrayList"), .int, .int], none⟩ := by decide +kernel
theorem own_sbl_ef (m : MethodId) (x0 : Addr) (x1 : Int32) (x2 : Int32) : entryFrame m #[(.ref x0), (.int x1), (.int x2)] 3 = mkF m 0 #[.val (.ref x0), .val (.int x1), .val (.int x2)] [] := by first | (simp [entryFrame, mkF, argsToLocals, Value.category]; done) | rfl
def own_sbl_Q (Z : State) (a : Addr) (mc : Int32) (oo : Int32) (eo : Int32) (nn : Int32) (h0 : Heap) (n0 : Nat) (vv_ : Option Value) (hh_ : Heap) (LL_ : List Loc) : Prop := ∃ sl : Addr, vv_ = some (.ref sl) ∧ Fr n0 LL_ ∧ Ext h0 hh_ ∧ (Exa Z hh_ sl "java/util/ArrayList$SubList") ∧ (Fld Z hh_ sl "java/util/ArrayList$SubList" "root" "Ljava/util/ArrayList;" (.ref a)) ∧ (Fld Z hh_ sl "java/util/ArrayList$SubList" "offset" "I" (.int oo)) ∧ (Fld Z hh_ sl "java/util/ArrayList$SubList" "size" "I" (.int (eo - oo))) ∧ (Fld Z hh_ sl "java/util/AbstractList" "modCount" "I" (.int mc)) ∧ (h0.size ≤ sl)
set_option maxRecDepth 65536 in
set_option maxHeartbeats 40000000 in
theorem own_sbl (l : Launch) (Z : State) (a0 : Array Value) (hw : ∀ d ∈ tables_1, d.before a0 Z = true) (ws : List Jvm.Cond) (a : Addr) (mc : Int32) (oo : Int32) (eo : Int32) (nn : Int32) (h0 : Heap) (n0 : Nat) (Z0 : n0 ≤ h0.size) (Ea : Exa Z h0 a "java/util/ArrayList") (Fs : Fld Z h0 a "java/util/ArrayList" "size" "I" (.int nn)) (Fm : Fld Z h0 a "java/util/AbstractList" "modCount" "I" (.int mc)) (lo : ¬ oo < (0 : Int32)) (le : ¬ nn < eo) (loe : ¬ eo < oo) :
    MetFree l (⟨"java/util/ArrayList", "subList", "(II)Ljava/util/List;"⟩ : MethodName) (head1 (Jvm.Cond.code (⟨"java/util/ArrayList", "subList", "(II)Ljava/util/List;"⟩ : MethodName) jdk_38_method_56_code 3 (some (.object "java/util/List")) :: ws) ({ frames := 4, cells := 1, slots := 5, locals := 52 } : Room)) (fun aa_ UU_ => aa_ = #[(.ref a), (.int oo), (.int eo)] ∧ Z.Warmed39 UU_.vm ∧ UU_.heap = h0) (fun _ _ _ _ _ => True) (fun _ UU_ oo_ UV_ => ∃ vv_ LL_, oo_ = .returned vv_ ∧ own_sbl_Q Z a mc oo eo nn h0 n0 vv_ UV_.heap LL_ ∧ FrameEnd UU_ oo_ UV_ LL_ ({ frames := 4, cells := 1, slots := 5, locals := 52 } : Room).cells ({ frames := 4, cells := 1, slots := 5, locals := 52 } : Room).slots) := by
  refine MetFree.of_bodySF (plainFor_of_name own_sbl_pn) hisR ?_
  intro p e s m args below meth c s₁ Bd hml0 hP hK
  obtain ⟨rfl, hZ, hh⟩ := hP
  have hx := Bd.exec
  have hby := Bd.bytes
  have hml : c.maxLocals = 3 := hml0
  have hown : s.vm.findClass "java/util/ArrayList" = some m.cls := findClass_of_methodNamed Bd.named
  have hnm := (name_of_methodNamed Bd.named Bd.method).1
  have X0 : Stand p l e ({ frames := 4, cells := 1, slots := 5, locals := 52 } : Room) s m #[(.ref a), (.int oo), (.int eo)] below meth c s₁ [] 0 0 := Stand.of_body Bd
  have e0 : s₁.heap = h0 := by rw [← hh, Bd.state]; rfl
  have N0 := Fr.nil n0
  have KP0 : Keep h0 h0 [] := Keep.refl _ _
  refine ownFin (Q := own_sbl_Q Z a mc oo eo nn h0 n0) ?_
  refine ownStep (fun _ k => castTop (own_sbl_ef m a oo eo) k) ?_
  show ownGo p.tables e below (s₁.setTop (mkF m 0 #[.val (.ref a), .val (.int oo), .val (.int eo)] [])) _
  refine ownStep (fun _ k => XS.iloadN X0.here hx rfl (hb hby own_sbl_d0) rfl  k) ?_
  refine ownStep (fun _ k => XS.iloadN X0.here hx rfl (hb hby own_sbl_d1) rfl  k) ?_
  refine ownStep (fun _ k => XS.aloadN X0.here hx rfl (hb hby own_sbl_d2) rfl rfl k) ?_
  show ownGo p.tables e below (s₁.setTop (mkF m 3 #[.val (.ref a), .val (.int oo), .val (.int eo)] [(.ref a), (.int eo), (.int oo)])) _
  obtain ⟨T1, X1, e1, st1⟩ := getF X0 hx hZ hown (host := "") (Or.inl (hw _ (List.mem_of_getElem? (i := 47) rfl))) Via.refl e0 Fs (g := (mkF m 3 #[.val (.ref a), .val (.int oo), .val (.int eo)] [(.ref a), (.int eo), (.int oo)])) rfl rfl (hb hby own_sbl_d3)
  refine ownStep st1 ?_
  show ownGo p.tables e below (T1.setTop (mkF m 6 #[.val (.ref a), .val (.int oo), .val (.int eo)] [(.int nn), (.int eo), (.int oo)])) _
  have Zs3 : n0 ≤ h0.size := Nat.le_trans Z0 KP0.1
  obtain ⟨_, _, ⟨T2, L2, k2, n2⟩, -, X2, ⟨Lc2, hQ2, l2, y2, z2⟩, st2⟩ := ownStaticUp X1 hx (x := (⟨"java/util/ArrayList", "subListRangeCheck", "(III)V"⟩ : MethodName)) (owner := "java/util/AbstractList") hown (mvT hZ (hw _ (List.mem_of_getElem? (i := 94) rfl))) (mvT hZ (hw _ (List.mem_of_getElem? (i := 95) rfl))) (mvT hZ (hw _ (List.mem_of_getElem? (i := 96) rfl))) (mvT hZ (hw _ (List.mem_of_getElem? (i := 15) rfl))) (mvT hZ (hw _ (List.mem_of_getElem? (i := 97) rfl))) (by decide) (backOf (W := 0) (own_src l Z a0 hw [] oo eo nn h0 n0 Zs3 lo le loe) hZ (hw _ (List.mem_of_getElem? (i := 97) rfl)) (hw _ (List.mem_of_getElem? (i := 15) rfl)) (by decide) (by decide)) (g := (mkF m 6 #[.val (.ref a), .val (.int oo), .val (.int eo)] [(.int nn), (.int eo), (.int oo)])) rfl (by rw [hml]; rfl) (Steps.refl _) (argsL := [(.int oo), (.int eo), (.int nn)]) (rest := []) (lenOf own_sbl_pd0 rfl) rfl (by show 2 * 0 + _ ≤ _; exact Nat.le_of_eq rfl) (hb hby own_sbl_d6) (fun _ _ => ⟨rfl, e1, (by decide : 0 + 0 ≤ _), (by decide : 0 + 0 ≤ _)⟩)
  dsimp only [Pt.U, Pt.locs, Pt.cells, Pt.slots] at X2 l2 y2 z2 st2 hQ2
  obtain rfl : k2 = 0 := y2
  obtain rfl : n2 = 0 := z2
  obtain ⟨rfl, N2q, R2⟩ := hQ2
  have N2 : Fr n0 L2 := l2 ▸ Fr.app N0 N2q
  refine ownStep (fun _ k => st2.trans k) ?_
  show ownGo p.tables e below (T2.setTop (mkF m 9 #[.val (.ref a), .val (.int oo), .val (.int eo)] [])) _
  obtain ⟨T4, h4, X4, e4, E4, A4, D4, U4, st4⟩ := newO X2 hx hZ hown (hw _ (List.mem_of_getElem? (i := 98) rfl)) (hw _ (List.mem_of_getElem? (i := 99) rfl)) (hw _ (List.mem_of_getElem? (i := 100) rfl)) R2 (g := (mkF m 9 #[.val (.ref a), .val (.int oo), .val (.int eo)] [])) rfl (hb hby own_sbl_d9) (by decide) (by decide)
  obtain ⟨b4, g4⟩ : ∃ z, z = h0.size := ⟨_, rfl⟩
  rw [← g4] at A4 D4 U4 st4
  have gh_b4 : h0.size ≤ b4 := Nat.le_trans KP0.1 (Nat.le_of_eq g4.symm)
  have gn_b4 : n0 ≤ b4 := Nat.le_trans Z0 gh_b4
  have KP5 : Keep h0 h4 [] := KP0.ext E4
  have F6 : Fld Z h4 b4 "java/util/AbstractList" "modCount" "I" (.int (0 : Int32)) := D4 (Or.inl (hw _ (List.mem_of_getElem? (i := 108) rfl))) (ty := .int) (by decide)
  have F7 : Fld Z h4 b4 "java/util/ArrayList$SubList" "root" "Ljava/util/ArrayList;" .null := D4 (Or.inr (hw _ (List.mem_of_getElem? (i := 110) rfl))) (ty := (.object "java/util/ArrayList")) (by decide)
  have F8 : Fld Z h4 b4 "java/util/ArrayList$SubList" "parent" "Ljava/util/ArrayList$SubList;" .null := D4 (Or.inr (hw _ (List.mem_of_getElem? (i := 112) rfl))) (ty := (.object "java/util/ArrayList$SubList")) (by decide)
  have F9 : Fld Z h4 b4 "java/util/ArrayList$SubList" "offset" "I" (.int (0 : Int32)) := D4 (Or.inr (hw _ (List.mem_of_getElem? (i := 114) rfl))) (ty := .int) (by decide)
  have F10 : Fld Z h4 b4 "java/util/ArrayList$SubList" "size" "I" (.int (0 : Int32)) := D4 (Or.inl (hw _ (List.mem_of_getElem? (i := 116) rfl))) (ty := .int) (by decide)
  refine ownStep st4 ?_
  refine ownStep (fun _ k => XS.dup X4.here hx rfl (hb hby own_sbl_d12) rfl rfl k) ?_
  refine ownStep (fun _ k => XS.aloadN X4.here hx rfl (hb hby own_sbl_d13) rfl rfl k) ?_
  refine ownStep (fun _ k => XS.iloadN X4.here hx rfl (hb hby own_sbl_d14) rfl  k) ?_
  refine ownStep (fun _ k => XS.iloadN X4.here hx rfl (hb hby own_sbl_d15) rfl  k) ?_
  show ownGo p.tables e below (T4.setTop (mkF m 16 #[.val (.ref a), .val (.int oo), .val (.int eo)] [(.int eo), (.int oo), (.ref a), (.ref b4), (.ref b4)])) _
  have ne11 : a ≠ b4 := Nat.ne_of_lt (Nat.lt_of_lt_of_le (Nat.lt_of_lt_of_le Ea.lt (Nat.le_refl _)) (Nat.le_of_eq g4.symm))
  have Q12 : Exa Z h4 a "java/util/ArrayList" := (Ea.ext E4)
  have Q13 : Fld Z h4 a "java/util/AbstractList" "modCount" "I" (.int mc) := (Fm.ext E4)
  have Zs15 : n0 ≤ h4.size := Nat.le_trans Z0 KP5.1
  obtain ⟨_, _, ⟨T14, L14, k14, n14⟩, -, X14, ⟨Lc14, hQ14, l14, y14, z14⟩, st14⟩ := X4.specialBack hx (y := (⟨"java/util/ArrayList$SubList", "<init>", "(Ljava/util/ArrayList;II)V"⟩ : MethodName)) rfl hown (mvT hZ (hw _ (List.mem_of_getElem? (i := 101) rfl))) (mvT hZ (hw _ (List.mem_of_getElem? (i := 102) rfl))) (mvT hZ (hw _ (List.mem_of_getElem? (i := 104) rfl))) (by decide) (backOf (W := 1) (own_sin l Z a0 hw [] b4 a mc oo eo h4 n0 Zs15 A4 F7 F8 F9 F10 F6 gn_b4 Q12 Q13 ne11) hZ (hw _ (List.mem_of_getElem? (i := 104) rfl)) (hw _ (List.mem_of_getElem? (i := 100) rfl)) (by decide) (by decide)) (g := (mkF m 16 #[.val (.ref a), .val (.int oo), .val (.int eo)] [(.int eo), (.int oo), (.ref a), (.ref b4), (.ref b4)])) rfl (by rw [hml]; rfl) (Steps.refl _) (a := b4) (argsL := [(.ref a), (.int oo), (.int eo)]) (rest := [(.ref b4)]) (lenOf own_sbl_pd1 rfl) rfl (by show 2 * 0 + _ ≤ _; exact Nat.le_of_eq rfl) (hb hby own_sbl_d16) (fun _ _ => ⟨rfl, e4, (by decide : 1 + 0 ≤ _), (by decide : 5 + 0 ≤ _)⟩)
  dsimp only [Pt.U, Pt.locs, Pt.cells, Pt.slots] at X14 l14 y14 z14 st14 hQ14
  obtain rfl : k14 = 1 := y14
  obtain rfl : n14 = 5 := z14
  obtain ⟨rfl, N14q, R14, P16, P17, P18, P19⟩ := hQ14
  have N14 : Fr n0 L14 := l14 ▸ Fr.app N2 N14q
  refine ownStep (fun _ k => st14.trans k) ?_
  have KP20 : Keep h0 T14.heap [] := KP5.trans R14 (allS (Or.inr gh_b4) all0)
  show ownGo p.tables e below (T14.setTop (mkF m 19 #[.val (.ref a), .val (.int oo), .val (.int eo)] [(.ref b4)])) _
  have Q21 : Exa Z T14.heap b4 "java/util/ArrayList$SubList" := (A4.keep R14)
  exact ownRet X14 (v := some (.ref b4)) Bd.notSynchronized (fun h => by rw [Bd.returns] at h; cases h) (fun _ hr => retOut X14 hx (t := (.object "java/util/List")) Bd.returns rfl (Or.inr (Or.inr (Or.inr (Or.inr ⟨rfl, rfl, rfl⟩)))) (hb hby own_sbl_d19) hr) (⟨b4, rfl, N14, (own_extOf KP20), Q21, P16, P17, P18, P19, gh_b4⟩) (by decide) (by decide)
theorem own_cfc_d0 : decode jdk_130_method_28_code 0 = .ok (.aload_n 0, 1) := by decide +kernel
theorem own_cfc_d1 : decode jdk_130_method_28_code 1 = .ok (.getfield 7, 3) := by decide +kernel
theorem own_cfc_d4 : decode jdk_130_method_28_code 4 = .ok (.getfield 24, 3) := by decide +kernel
theorem own_cfc_d7 : decode jdk_130_method_28_code 7 = .ok (.aload_n 0, 1) := by decide +kernel
theorem own_cfc_d8 : decode jdk_130_method_28_code 8 = .ok (.getfield 29, 3) := by decide +kernel
theorem own_cfc_d11 : decode jdk_130_method_28_code 11 = .ok (.if_icmp .eq 11, 3) := by decide +kernel
theorem own_cfc_d22 : decode jdk_130_method_28_code 22 = .ok (.return_, 1) := by decide +kernel
theorem own_cfc_pn : plainName "java/util/ArrayList$SubList" = true := by first | (simp [plainName, overriddenIn]; done) | decide +kernel
theorem own_cfc_ef (m : MethodId) (x0 : Addr) : entryFrame m #[(.ref x0)] 1 = mkF m 0 #[.val (.ref x0)] [] := by first | (simp [entryFrame, mkF, argsToLocals, Value.category]; done) | rfl
def own_cfc_Q (Z : State) (s_ : Addr) (a : Addr) (mc : Int32) (oo : Int32) (kq : Int32) (h0 : Heap) (n0 : Nat) (vv_ : Option Value) (hh_ : Heap) (LL_ : List Loc) : Prop := vv_ = none ∧ Fr n0 LL_ ∧ hh_ = h0
set_option maxRecDepth 65536 in
set_option maxHeartbeats 40000000 in
theorem own_cfc (l : Launch) (Z : State) (a0 : Array Value) (hw : ∀ d ∈ tables_1, d.before a0 Z = true) (ws : List Jvm.Cond) (s_ : Addr) (a : Addr) (mc : Int32) (oo : Int32) (kq : Int32) (h0 : Heap) (n0 : Nat) (Z0 : n0 ≤ h0.size) (Sr : Fld Z h0 s_ "java/util/ArrayList$SubList" "root" "Ljava/util/ArrayList;" (.ref a)) (So : Fld Z h0 s_ "java/util/ArrayList$SubList" "offset" "I" (.int oo)) (Ss : Fld Z h0 s_ "java/util/ArrayList$SubList" "size" "I" (.int kq)) (Sm : Fld Z h0 s_ "java/util/AbstractList" "modCount" "I" (.int mc)) (Fm : Fld Z h0 a "java/util/AbstractList" "modCount" "I" (.int mc)) :
    MetFree l (⟨"java/util/ArrayList$SubList", "checkForComodification", "()V"⟩ : MethodName) (head1 (Jvm.Cond.code (⟨"java/util/ArrayList$SubList", "checkForComodification", "()V"⟩ : MethodName) jdk_130_method_28_code 1 none :: ws) ({ frames := 0, cells := 0, slots := 0, locals := 0 } : Room)) (fun aa_ UU_ => aa_ = #[(.ref s_)] ∧ Z.Warmed39 UU_.vm ∧ UU_.heap = h0) (fun _ _ _ _ _ => True) (fun _ UU_ oo_ UV_ => ∃ vv_ LL_, oo_ = .returned vv_ ∧ own_cfc_Q Z s_ a mc oo kq h0 n0 vv_ UV_.heap LL_ ∧ FrameEnd UU_ oo_ UV_ LL_ ({ frames := 0, cells := 0, slots := 0, locals := 0 } : Room).cells ({ frames := 0, cells := 0, slots := 0, locals := 0 } : Room).slots) := by
  refine MetFree.of_bodySF (plainFor_of_name own_cfc_pn) hisR ?_
  intro p e s m args below meth c s₁ Bd hml0 hP hK
  obtain ⟨rfl, hZ, hh⟩ := hP
  have hx := Bd.exec
  have hby := Bd.bytes
  have hml : c.maxLocals = 1 := hml0
  have hown : s.vm.findClass "java/util/ArrayList$SubList" = some m.cls := findClass_of_methodNamed Bd.named
  have hnm := (name_of_methodNamed Bd.named Bd.method).1
  have X0 : Stand p l e ({ frames := 0, cells := 0, slots := 0, locals := 0 } : Room) s m #[(.ref s_)] below meth c s₁ [] 0 0 := Stand.of_body Bd
  have e0 : s₁.heap = h0 := by rw [← hh, Bd.state]; rfl
  have N0 := Fr.nil n0
  have KP0 : Keep h0 h0 [] := Keep.refl _ _
  refine ownFin (Q := own_cfc_Q Z s_ a mc oo kq h0 n0) ?_
  refine ownStep (fun _ k => castTop (own_cfc_ef m s_) k) ?_
  show ownGo p.tables e below (s₁.setTop (mkF m 0 #[.val (.ref s_)] [])) _
  refine ownStep (fun _ k => XS.aloadN X0.here hx rfl (hb hby own_cfc_d0) rfl rfl k) ?_
  show ownGo p.tables e below (s₁.setTop (mkF m 1 #[.val (.ref s_)] [(.ref s_)])) _
  obtain ⟨T1, X1, e1, st1⟩ := getF X0 hx hZ hown (host := "") (Or.inl (hw _ (List.mem_of_getElem? (i := 109) rfl))) Via.refl e0 Sr (g := (mkF m 1 #[.val (.ref s_)] [(.ref s_)])) rfl rfl (hb hby own_cfc_d1)
  refine ownStep st1 ?_
  show ownGo p.tables e below (T1.setTop (mkF m 4 #[.val (.ref s_)] [(.ref a)])) _
  obtain ⟨T2, X2, e2, st2⟩ := getF X1 hx hZ hown (host := "") (Or.inl (hw _ (List.mem_of_getElem? (i := 117) rfl))) (Via.of (hw _ (List.mem_of_getElem? (i := 63) rfl))) e1 Fm (g := (mkF m 4 #[.val (.ref s_)] [(.ref a)])) rfl rfl (hb hby own_cfc_d4)
  refine ownStep st2 ?_
  refine ownStep (fun _ k => XS.aloadN X2.here hx rfl (hb hby own_cfc_d7) rfl rfl k) ?_
  show ownGo p.tables e below (T2.setTop (mkF m 8 #[.val (.ref s_)] [(.ref s_), (.int mc)])) _
  obtain ⟨T3, X3, e3, st3⟩ := getF X2 hx hZ hown (host := "") (Or.inl (hw _ (List.mem_of_getElem? (i := 118) rfl))) (Via.of (hw _ (List.mem_of_getElem? (i := 119) rfl))) e2 Sm (g := (mkF m 8 #[.val (.ref s_)] [(.ref s_), (.int mc)])) rfl rfl (hb hby own_cfc_d8)
  refine ownStep st3 ?_
  refine ownStep (fun _ k => XS.icmpYes X3.here hx rfl (pc0 := 11) (pc' := 22) rfl (hb hby own_cfc_d11) rfl (teq (rfl : mc = mc)).1 (by decide) (by decide) k) ?_
  show ownGo p.tables e below (T3.setTop (mkF m 22 #[.val (.ref s_)] [])) _
  exact ownRet X3 (v := none) Bd.notSynchronized (fun _ => rfl) (fun _ hr => X3.returnOut hx Bd.returns (hb hby own_cfc_d22) hr) (by rw [e3]; exact ⟨rfl, N0, rfl⟩) (by decide) (by decide)
theorem own_ssz_d0 : decode jdk_130_method_5_code 0 = .ok (.aload_n 0, 1) := by decide +kernel
theorem own_ssz_d1 : decode jdk_130_method_5_code 1 = .ok (.invokevirtual 36, 3) := by decide +kernel
theorem own_ssz_d4 : decode jdk_130_method_5_code 4 = .ok (.aload_n 0, 1) := by decide +kernel
theorem own_ssz_d5 : decode jdk_130_method_5_code 5 = .ok (.getfield 21, 3) := by decide +kernel
theorem own_ssz_d8 : decode jdk_130_method_5_code 8 = .ok (.ireturn, 1) := by decide +kernel
theorem own_ssz_pn : plainName "java/util/ArrayList$SubList" = true := by first | (simp [plainName, overriddenIn]; done) | decide +kernel
theorem own_ssz_pd0 : parseMethodDescriptor "()V" = some ⟨[], none⟩ := by decide +kernel
theorem own_ssz_ef (m : MethodId) (x0 : Addr) : entryFrame m #[(.ref x0)] 1 = mkF m 0 #[.val (.ref x0)] [] := by first | (simp [entryFrame, mkF, argsToLocals, Value.category]; done) | rfl
def own_ssz_Q (Z : State) (s_ : Addr) (a : Addr) (mc : Int32) (oo : Int32) (kq : Int32) (h0 : Heap) (n0 : Nat) (vv_ : Option Value) (hh_ : Heap) (LL_ : List Loc) : Prop := vv_ = some (.int kq) ∧ Fr n0 LL_ ∧ hh_ = h0
set_option maxRecDepth 65536 in
set_option maxHeartbeats 40000000 in
theorem own_ssz (l : Launch) (Z : State) (a0 : Array Value) (hw : ∀ d ∈ tables_1, d.before a0 Z = true) (ws : List Jvm.Cond) (s_ : Addr) (a : Addr) (mc : Int32) (oo : Int32) (kq : Int32) (h0 : Heap) (n0 : Nat) (Z0 : n0 ≤ h0.size) (E : Exa Z h0 s_ "java/util/ArrayList$SubList") (Sr : Fld Z h0 s_ "java/util/ArrayList$SubList" "root" "Ljava/util/ArrayList;" (.ref a)) (So : Fld Z h0 s_ "java/util/ArrayList$SubList" "offset" "I" (.int oo)) (Ss : Fld Z h0 s_ "java/util/ArrayList$SubList" "size" "I" (.int kq)) (Sm : Fld Z h0 s_ "java/util/AbstractList" "modCount" "I" (.int mc)) (Fm : Fld Z h0 a "java/util/AbstractList" "modCount" "I" (.int mc)) :
    MetFree l (⟨"java/util/ArrayList$SubList", "size", "()I"⟩ : MethodName) (head1 (Jvm.Cond.code (⟨"java/util/ArrayList$SubList", "size", "()I"⟩ : MethodName) jdk_130_method_5_code 1 (some .int) :: ws) ({ frames := 1, cells := 0, slots := 0, locals := 12 } : Room)) (fun aa_ UU_ => aa_ = #[(.ref s_)] ∧ Z.Warmed39 UU_.vm ∧ UU_.heap = h0) (fun _ _ _ _ _ => True) (fun _ UU_ oo_ UV_ => ∃ vv_ LL_, oo_ = .returned vv_ ∧ own_ssz_Q Z s_ a mc oo kq h0 n0 vv_ UV_.heap LL_ ∧ FrameEnd UU_ oo_ UV_ LL_ ({ frames := 1, cells := 0, slots := 0, locals := 12 } : Room).cells ({ frames := 1, cells := 0, slots := 0, locals := 12 } : Room).slots) := by
  refine MetFree.of_bodySF (plainFor_of_name own_ssz_pn) hisR ?_
  intro p e s m args below meth c s₁ Bd hml0 hP hK
  obtain ⟨rfl, hZ, hh⟩ := hP
  have hx := Bd.exec
  have hby := Bd.bytes
  have hml : c.maxLocals = 1 := hml0
  have hown : s.vm.findClass "java/util/ArrayList$SubList" = some m.cls := findClass_of_methodNamed Bd.named
  have hnm := (name_of_methodNamed Bd.named Bd.method).1
  have X0 : Stand p l e ({ frames := 1, cells := 0, slots := 0, locals := 12 } : Room) s m #[(.ref s_)] below meth c s₁ [] 0 0 := Stand.of_body Bd
  have e0 : s₁.heap = h0 := by rw [← hh, Bd.state]; rfl
  have N0 := Fr.nil n0
  have KP0 : Keep h0 h0 [] := Keep.refl _ _
  refine ownFin (Q := own_ssz_Q Z s_ a mc oo kq h0 n0) ?_
  refine ownStep (fun _ k => castTop (own_ssz_ef m s_) k) ?_
  show ownGo p.tables e below (s₁.setTop (mkF m 0 #[.val (.ref s_)] [])) _
  refine ownStep (fun _ k => XS.aloadN X0.here hx rfl (hb hby own_ssz_d0) rfl rfl k) ?_
  show ownGo p.tables e below (s₁.setTop (mkF m 1 #[.val (.ref s_)] [(.ref s_)])) _
  have Zs2 : n0 ≤ h0.size := Nat.le_trans Z0 KP0.1
  obtain ⟨cq1, q1, q1'⟩ := E.cell
  obtain ⟨_, _, ⟨T1, L1, k1, n1⟩, -, X1, ⟨Lc1, hQ1, l1, y1, z1⟩, st1⟩ := X0.privateBack hx (y := (⟨"java/util/ArrayList$SubList", "checkForComodification", "()V"⟩ : MethodName)) hown (mvT hZ (hw _ (List.mem_of_getElem? (i := 159) rfl))) (mvT hZ (hw _ (List.mem_of_getElem? (i := 160) rfl))) (mvT hZ (hw _ (List.mem_of_getElem? (i := 162) rfl))) (Cond.privateMethod_at (mvP hZ (hw _ (List.mem_of_getElem? (i := 161) rfl)) (args := #[]))) (mvT hZ (hw _ (List.mem_of_getElem? (i := 163) rfl))) (by decide) (backOf (W := 0) (own_cfc l Z a0 hw [] s_ a mc oo kq h0 n0 Zs2 Sr So Ss Sm Fm) hZ (hw _ (List.mem_of_getElem? (i := 163) rfl)) (hw _ (List.mem_of_getElem? (i := 100) rfl)) (by decide) (by decide)) (g := (mkF m 1 #[.val (.ref s_)] [(.ref s_)])) rfl (by rw [hml]; rfl) (Steps.refl _) (a := s_) (by rw [e0]; exact q1) q1' (argsL := []) (rest := []) (lenOf own_ssz_pd0 rfl) rfl (by show 2 * 0 + _ ≤ _; exact Nat.le_of_eq rfl) (hb hby own_ssz_d1) (fun _ _ => ⟨rfl, e0, (by decide : 0 + 0 ≤ _), (by decide : 0 + 0 ≤ _)⟩)
  dsimp only [Pt.U, Pt.locs, Pt.cells, Pt.slots] at X1 l1 y1 z1 st1 hQ1
  obtain rfl : k1 = 0 := y1
  obtain rfl : n1 = 0 := z1
  obtain ⟨rfl, N1q, R1⟩ := hQ1
  have N1 : Fr n0 L1 := l1 ▸ Fr.app N0 N1q
  refine ownStep (fun _ k => st1.trans k) ?_
  refine ownStep (fun _ k => XS.aloadN X1.here hx rfl (hb hby own_ssz_d4) rfl rfl k) ?_
  show ownGo p.tables e below (T1.setTop (mkF m 5 #[.val (.ref s_)] [(.ref s_)])) _
  obtain ⟨T3, X3, e3, st3⟩ := getF X1 hx hZ hown (host := "") (Or.inl (hw _ (List.mem_of_getElem? (i := 115) rfl))) Via.refl R1 Ss (g := (mkF m 5 #[.val (.ref s_)] [(.ref s_)])) rfl rfl (hb hby own_ssz_d5)
  refine ownStep st3 ?_
  show ownGo p.tables e below (T3.setTop (mkF m 8 #[.val (.ref s_)] [(.int kq)])) _
  exact ownRet X3 (v := some (.int kq)) Bd.notSynchronized (fun h => by rw [Bd.returns] at h; cases h) (fun _ hr => retI X3 hx Bd.returns (hb hby own_ssz_d8) hr) (by rw [e3]; exact ⟨rfl, N1, rfl⟩) (by decide) (by decide)
theorem own_edS_d0 : decode jdk_38_method_18_code 0 = .ok (.aload_n 0, 1) := by decide +kernel
theorem own_edS_d1 : decode jdk_38_method_18_code 1 = .ok (.getfield 9, 3) := by decide +kernel
theorem own_edS_d4 : decode jdk_38_method_18_code 4 = .ok (.iload_n 1, 1) := by decide +kernel
theorem own_edS_d5 : decode jdk_38_method_18_code 5 = .ok (.aaload, 1) := by decide +kernel
theorem own_edS_d6 : decode jdk_38_method_18_code 6 = .ok (.areturn, 1) := by decide +kernel
theorem own_edS_pn : plainName "java/util/ArrayList" = true := by first | (simp [plainName, overriddenIn]; done) | decide +kernel
theorem own_edS_ef (m : MethodId) (x0 : Addr) (x1 : Int32) : entryFrame m #[(.ref x0), (.int x1)] 2 = mkF m 0 #[.val (.ref x0), .val (.int x1)] [] := by first | (simp [entryFrame, mkF, argsToLocals, Value.category]; done) | rfl
def own_edS_Q (Z : State) (a : Addr) (dd : Addr) (cl : Cell) (ii : Int32) (b_ : Addr) (h0 : Heap) (n0 : Nat) (vv_ : Option Value) (hh_ : Heap) (LL_ : List Loc) : Prop := vv_ = some (.ref b_) ∧ Fr n0 LL_ ∧ hh_ = h0
set_option maxRecDepth 65536 in
set_option maxHeartbeats 40000000 in
theorem own_edS (l : Launch) (Z : State) (a0 : Array Value) (hw : ∀ d ∈ tables_1, d.before a0 Z = true) (ws : List Jvm.Cond) (a : Addr) (dd : Addr) (cl : Cell) (ii : Int32) (b_ : Addr) (h0 : Heap) (n0 : Nat) (Z0 : n0 ≤ h0.size) (Fe : Fld Z h0 a "java/util/ArrayList" "elementData" "[Ljava/lang/Object;" (.ref dd)) (A : Arr Z h0 dd cl (.object "java/lang/Object")) (hsz : cl.slots.size = 10) (il : ¬ ii < (0 : Int32)) (iu : ii < (10 : Int32)) (hat : cl.slots[ii.toNatClampNeg]? = some (.ref b_)) :
    MetFree l (⟨"java/util/ArrayList", "elementData", "(I)Ljava/lang/Object;"⟩ : MethodName) (head1 (Jvm.Cond.code (⟨"java/util/ArrayList", "elementData", "(I)Ljava/lang/Object;"⟩ : MethodName) jdk_38_method_18_code 2 (some (.object "java/lang/Object")) :: ws) ({ frames := 0, cells := 0, slots := 0, locals := 0 } : Room)) (fun aa_ UU_ => aa_ = #[(.ref a), (.int ii)] ∧ Z.Warmed39 UU_.vm ∧ UU_.heap = h0) (fun _ _ _ _ _ => True) (fun _ UU_ oo_ UV_ => ∃ vv_ LL_, oo_ = .returned vv_ ∧ own_edS_Q Z a dd cl ii b_ h0 n0 vv_ UV_.heap LL_ ∧ FrameEnd UU_ oo_ UV_ LL_ ({ frames := 0, cells := 0, slots := 0, locals := 0 } : Room).cells ({ frames := 0, cells := 0, slots := 0, locals := 0 } : Room).slots) := by
  refine MetFree.of_bodySF (plainFor_of_name own_edS_pn) hisR ?_
  intro p e s m args below meth c s₁ Bd hml0 hP hK
  obtain ⟨rfl, hZ, hh⟩ := hP
  have hx := Bd.exec
  have hby := Bd.bytes
  have hml : c.maxLocals = 2 := hml0
  have hown : s.vm.findClass "java/util/ArrayList" = some m.cls := findClass_of_methodNamed Bd.named
  have hnm := (name_of_methodNamed Bd.named Bd.method).1
  have X0 : Stand p l e ({ frames := 0, cells := 0, slots := 0, locals := 0 } : Room) s m #[(.ref a), (.int ii)] below meth c s₁ [] 0 0 := Stand.of_body Bd
  have e0 : s₁.heap = h0 := by rw [← hh, Bd.state]; rfl
  have N0 := Fr.nil n0
  have KP0 : Keep h0 h0 [] := Keep.refl _ _
  refine ownFin (Q := own_edS_Q Z a dd cl ii b_ h0 n0) ?_
  refine ownStep (fun _ k => castTop (own_edS_ef m a ii) k) ?_
  show ownGo p.tables e below (s₁.setTop (mkF m 0 #[.val (.ref a), .val (.int ii)] [])) _
  refine ownStep (fun _ k => XS.aloadN X0.here hx rfl (hb hby own_edS_d0) rfl rfl k) ?_
  show ownGo p.tables e below (s₁.setTop (mkF m 1 #[.val (.ref a), .val (.int ii)] [(.ref a)])) _
  obtain ⟨T1, X1, e1, st1⟩ := getF X0 hx hZ hown (host := "") (Or.inl (hw _ (List.mem_of_getElem? (i := 29) rfl))) Via.refl e0 Fe (g := (mkF m 1 #[.val (.ref a), .val (.int ii)] [(.ref a)])) rfl rfl (hb hby own_edS_d1)
  refine ownStep st1 ?_
  refine ownStep (fun _ k => XS.iloadN X1.here hx rfl (hb hby own_edS_d4) rfl  k) ?_
  show ownGo p.tables e below (T1.setTop (mkF m 5 #[.val (.ref a), .val (.int ii)] [(.int ii), (.ref dd)])) _
  have hin2 : ¬ (ii < 0 ∨ cl.slots.size ≤ ii.toNatClampNeg) := by rw [hsz]; exact own_in10 il iu
  have Aq2 := A
  refine ownStep (X1.aaload hx (j := ii) (v := (.ref b_)) (by rw [e1]; exact Aq2.1) (State.isArrayOf_alike hZ.alike Aq2.2.1) rfl Aq2.2.2 hin2 hat (g := (mkF m 5 #[.val (.ref a), .val (.int ii)] [(.int ii), (.ref dd)])) rfl rfl (hb hby own_edS_d5)) ?_
  show ownGo p.tables e below (T1.setTop (mkF m 6 #[.val (.ref a), .val (.int ii)] [(.ref b_)])) _
  exact ownRet X1 (v := some (.ref b_)) Bd.notSynchronized (fun h => by rw [Bd.returns] at h; cases h) (fun _ hr => retOut X1 hx (t := (.object "java/lang/Object")) Bd.returns rfl (Or.inr (Or.inr (Or.inr (Or.inr ⟨rfl, rfl, rfl⟩)))) (hb hby own_edS_d6) hr) (by rw [e1]; exact ⟨rfl, N0, rfl⟩) (by decide) (by decide)
theorem own_al_pchk_d0 : decode jdk_41_method_11_code 0 = .ok (.iload_n 0, 1) := by decide +kernel
theorem own_al_pchk_d1 : decode jdk_41_method_11_code 1 = .ok (.ifCond .lt 8, 3) := by decide +kernel
theorem own_al_pchk_d4 : decode jdk_41_method_11_code 4 = .ok (.iload_n 0, 1) := by decide +kernel
theorem own_al_pchk_d5 : decode jdk_41_method_11_code 5 = .ok (.iload_n 1, 1) := by decide +kernel
theorem own_al_pchk_d6 : decode jdk_41_method_11_code 6 = .ok (.if_icmp .lt 10, 3) := by decide +kernel
theorem own_al_pchk_d16 : decode jdk_41_method_11_code 16 = .ok (.iload_n 0, 1) := by decide +kernel
theorem own_al_pchk_d17 : decode jdk_41_method_11_code 17 = .ok (.ireturn, 1) := by decide +kernel
theorem own_al_pchk_pn : plainName "jdk/internal/util/Preconditions" = true := by first | (simp [plainName, overriddenIn]; done) | decide +kernel
theorem own_al_pchk_ef (m : MethodId) (x0 : Int32) (x1 : Int32) : entryFrame m #[(.int x0), (.int x1), .null] 3 = mkF m 0 #[.val (.int x0), .val (.int x1), .val .null] [] := by first | (simp [entryFrame, mkF, argsToLocals, Value.category]; done) | rfl
def own_al_pchk_Q (Z : State) (i : Int32) (n : Int32) (h0 : Heap) (n0 : Nat) (vv_ : Option Value) (hh_ : Heap) (LL_ : List Loc) : Prop := vv_ = some (.int i) ∧ Fr n0 LL_ ∧ hh_ = h0
set_option maxRecDepth 65536 in
set_option maxHeartbeats 40000000 in
theorem own_al_pchk (l : Launch) (Z : State) (a0 : Array Value) (hw : ∀ d ∈ tables_1, d.before a0 Z = true) (ws : List Jvm.Cond) (i : Int32) (n : Int32) (h0 : Heap) (n0 : Nat) (Z0 : n0 ≤ h0.size) (pl : ¬ i < (0 : Int32)) (ph : i < n) :
    MetFree l (⟨"jdk/internal/util/Preconditions", "checkIndex", "(IILjava/util/function/BiFunction;)I"⟩ : MethodName) (head1 (Jvm.Cond.code (⟨"jdk/internal/util/Preconditions", "checkIndex", "(IILjava/util/function/BiFunction;)I"⟩ : MethodName) jdk_41_method_11_code 3 (some .int) :: ws) ({ frames := 0, cells := 0, slots := 0, locals := 0 } : Room)) (fun aa_ UU_ => aa_ = #[(.int i), (.int n), .null] ∧ Z.Warmed39 UU_.vm ∧ UU_.heap = h0) (fun _ _ _ _ _ => True) (fun _ UU_ oo_ UV_ => ∃ vv_ LL_, oo_ = .returned vv_ ∧ own_al_pchk_Q Z i n h0 n0 vv_ UV_.heap LL_ ∧ FrameEnd UU_ oo_ UV_ LL_ ({ frames := 0, cells := 0, slots := 0, locals := 0 } : Room).cells ({ frames := 0, cells := 0, slots := 0, locals := 0 } : Room).slots) := by
  refine MetFree.of_bodySF (plainFor_of_name own_al_pchk_pn) hisR ?_
  intro p e s m args below meth c s₁ Bd hml0 hP hK
  obtain ⟨rfl, hZ, hh⟩ := hP
  have hx := Bd.exec
  have hby := Bd.bytes
  have hml : c.maxLocals = 3 := hml0
  have hown : s.vm.findClass "jdk/internal/util/Preconditions" = some m.cls := findClass_of_methodNamed Bd.named
  have hnm := (name_of_methodNamed Bd.named Bd.method).1
  have X0 : Stand p l e ({ frames := 0, cells := 0, slots := 0, locals := 0 } : Room) s m #[(.int i), (.int n), .null] below meth c s₁ [] 0 0 := Stand.of_body Bd
  have e0 : s₁.heap = h0 := by rw [← hh, Bd.state]; rfl
  have N0 := Fr.nil n0
  have KP0 : Keep h0 h0 [] := Keep.refl _ _
  refine ownFin (Q := own_al_pchk_Q Z i n h0 n0) ?_
  refine ownStep (fun _ k => castTop (own_al_pchk_ef m i n) k) ?_
  show ownGo p.tables e below (s₁.setTop (mkF m 0 #[.val (.int i), .val (.int n), .val .null] [])) _
  refine ownStep (fun _ k => XS.iloadN X0.here hx rfl (hb hby own_al_pchk_d0) rfl  k) ?_
  refine ownStep (fun _ k => XS.ifNo X0.here hx rfl (hb hby own_al_pchk_d1) rfl ((if0 _ _).trans (flt (pl : ¬ i < (0 : Int32))).1) k) ?_
  refine ownStep (fun _ k => XS.iloadN X0.here hx rfl (hb hby own_al_pchk_d4) rfl  k) ?_
  refine ownStep (fun _ k => XS.iloadN X0.here hx rfl (hb hby own_al_pchk_d5) rfl  k) ?_
  refine ownStep (fun _ k => XS.icmpYes X0.here hx rfl (pc0 := 6) (pc' := 16) rfl (hb hby own_al_pchk_d6) rfl (tlt (ph : i < n)).1 (by decide) (by decide) k) ?_
  show ownGo p.tables e below (s₁.setTop (mkF m 16 #[.val (.int i), .val (.int n), .val .null] [])) _
  refine ownStep (fun _ k => XS.iloadN X0.here hx rfl (hb hby own_al_pchk_d16) rfl  k) ?_
  show ownGo p.tables e below (s₁.setTop (mkF m 17 #[.val (.int i), .val (.int n), .val .null] [(.int i)])) _
  exact ownRet X0 (v := some (.int i)) Bd.notSynchronized (fun h => by rw [Bd.returns] at h; cases h) (fun _ hr => retI X0 hx Bd.returns (hb hby own_al_pchk_d17) hr) (by rw [e0]; exact ⟨rfl, N0, rfl⟩) (by decide) (by decide)
theorem own_al_chk_d0 : decode jdk_31_method_17_code 0 = .ok (.iload_n 0, 1) := by decide +kernel
theorem own_al_chk_d1 : decode jdk_31_method_17_code 1 = .ok (.iload_n 1, 1) := by decide +kernel
theorem own_al_chk_d2 : decode jdk_31_method_17_code 2 = .ok (.aconst_null, 1) := by decide +kernel
theorem own_al_chk_d3 : decode jdk_31_method_17_code 3 = .ok (.invokestatic 105, 3) := by decide +kernel
theorem own_al_chk_d6 : decode jdk_31_method_17_code 6 = .ok (.ireturn, 1) := by decide +kernel
theorem own_al_chk_pn : plainName "java/util/Objects" = true := by first | (simp [plainName, overriddenIn]; done) | decide +kernel
theorem own_al_chk_pd0 : parseMethodDescriptor "(IILjava/util/function/BiFunction;)I" = some ⟨[.int, .int, (.object "java/util/function/BiFunction")], some .int⟩ := by decide +kernel
theorem own_al_chk_ef (m : MethodId) (x0 : Int32) (x1 : Int32) : entryFrame m #[(.int x0), (.int x1)] 2 = mkF m 0 #[.val (.int x0), .val (.int x1)] [] := by first | (simp [entryFrame, mkF, argsToLocals, Value.category]; done) | rfl
def own_al_chk_Q (Z : State) (i : Int32) (n : Int32) (h0 : Heap) (n0 : Nat) (vv_ : Option Value) (hh_ : Heap) (LL_ : List Loc) : Prop := vv_ = some (.int i) ∧ Fr n0 LL_ ∧ hh_ = h0
set_option maxRecDepth 65536 in
set_option maxHeartbeats 40000000 in
theorem own_al_chk (l : Launch) (Z : State) (a0 : Array Value) (hw : ∀ d ∈ tables_1, d.before a0 Z = true) (ws : List Jvm.Cond) (i : Int32) (n : Int32) (h0 : Heap) (n0 : Nat) (Z0 : n0 ≤ h0.size) (pl : ¬ i < (0 : Int32)) (ph : i < n) :
    MetFree l (⟨"java/util/Objects", "checkIndex", "(II)I"⟩ : MethodName) (head1 (Jvm.Cond.code (⟨"java/util/Objects", "checkIndex", "(II)I"⟩ : MethodName) jdk_31_method_17_code 2 (some .int) :: ws) ({ frames := 1, cells := 0, slots := 0, locals := 14 } : Room)) (fun aa_ UU_ => aa_ = #[(.int i), (.int n)] ∧ Z.Warmed39 UU_.vm ∧ UU_.heap = h0) (fun _ _ _ _ _ => True) (fun _ UU_ oo_ UV_ => ∃ vv_ LL_, oo_ = .returned vv_ ∧ own_al_chk_Q Z i n h0 n0 vv_ UV_.heap LL_ ∧ FrameEnd UU_ oo_ UV_ LL_ ({ frames := 1, cells := 0, slots := 0, locals := 14 } : Room).cells ({ frames := 1, cells := 0, slots := 0, locals := 14 } : Room).slots) := by
  refine MetFree.of_bodySF (plainFor_of_name own_al_chk_pn) hisR ?_
  intro p e s m args below meth c s₁ Bd hml0 hP hK
  obtain ⟨rfl, hZ, hh⟩ := hP
  have hx := Bd.exec
  have hby := Bd.bytes
  have hml : c.maxLocals = 2 := hml0
  have hown : s.vm.findClass "java/util/Objects" = some m.cls := findClass_of_methodNamed Bd.named
  have hnm := (name_of_methodNamed Bd.named Bd.method).1
  have X0 : Stand p l e ({ frames := 1, cells := 0, slots := 0, locals := 14 } : Room) s m #[(.int i), (.int n)] below meth c s₁ [] 0 0 := Stand.of_body Bd
  have e0 : s₁.heap = h0 := by rw [← hh, Bd.state]; rfl
  have N0 := Fr.nil n0
  have KP0 : Keep h0 h0 [] := Keep.refl _ _
  refine ownFin (Q := own_al_chk_Q Z i n h0 n0) ?_
  refine ownStep (fun _ k => castTop (own_al_chk_ef m i n) k) ?_
  show ownGo p.tables e below (s₁.setTop (mkF m 0 #[.val (.int i), .val (.int n)] [])) _
  refine ownStep (fun _ k => XS.iloadN X0.here hx rfl (hb hby own_al_chk_d0) rfl  k) ?_
  refine ownStep (fun _ k => XS.iloadN X0.here hx rfl (hb hby own_al_chk_d1) rfl  k) ?_
  refine ownStep (fun _ k => XS.aconstNull X0.here hx rfl (hb hby own_al_chk_d2) k) ?_
  show ownGo p.tables e below (s₁.setTop (mkF m 3 #[.val (.int i), .val (.int n)] [.null, (.int n), (.int i)])) _
  have Zs2 : n0 ≤ h0.size := Nat.le_trans Z0 KP0.1
  obtain ⟨_, _, ⟨T1, L1, k1, n1⟩, -, X1, ⟨Lc1, hQ1, l1, y1, z1⟩, st1⟩ := Jvm.LawKit.callS X0 hx (y := (⟨"jdk/internal/util/Preconditions", "checkIndex", "(IILjava/util/function/BiFunction;)I"⟩ : MethodName)) hown (mvT hZ (hw _ (List.mem_of_getElem? (i := 143) rfl))) (mvT hZ (hw _ (List.mem_of_getElem? (i := 144) rfl))) (mvT hZ (hw _ (List.mem_of_getElem? (i := 145) rfl))) (mvT hZ (hw _ (List.mem_of_getElem? (i := 146) rfl))) (by decide) (backOf (W := 0) (own_al_pchk l Z a0 hw [] i n h0 n0 Zs2 pl ph) hZ (hw _ (List.mem_of_getElem? (i := 146) rfl)) (hw _ (List.mem_of_getElem? (i := 145) rfl)) (by decide) (by decide)) (g := (mkF m 3 #[.val (.int i), .val (.int n)] [.null, (.int n), (.int i)])) rfl (by rw [hml]; rfl) (argsL := [(.int i), (.int n), .null]) (rest := []) (lenOf own_al_chk_pd0 rfl) rfl (by show 2 * 0 + _ ≤ _; exact Nat.le_of_eq rfl) (hb hby own_al_chk_d3) (fun _ _ => ⟨rfl, e0, (by decide : 0 + 0 ≤ _), (by decide : 0 + 0 ≤ _)⟩)
  dsimp only [Pt.U, Pt.locs, Pt.cells, Pt.slots] at X1 l1 y1 z1 st1 hQ1
  obtain rfl : k1 = 0 := y1
  obtain rfl : n1 = 0 := z1
  obtain ⟨rfl, N1q, R1⟩ := hQ1
  have N1 : Fr n0 L1 := l1 ▸ Fr.app N0 N1q
  refine ownStep (fun _ k => st1 _ k) ?_
  show ownGo p.tables e below (T1.setTop (mkF m 6 #[.val (.int i), .val (.int n)] [(.int i)])) _
  exact ownRet X1 (v := some (.int i)) Bd.notSynchronized (fun h => by rw [Bd.returns] at h; cases h) (fun _ hr => retI X1 hx Bd.returns (hb hby own_al_chk_d6) hr) (by rw [R1]; exact ⟨rfl, N1, rfl⟩) (by decide) (by decide)
theorem own_sget_d0 : decode jdk_130_method_4_code 0 = .ok (.iload_n 1, 1) := by decide +kernel
theorem own_sget_d1 : decode jdk_130_method_4_code 1 = .ok (.aload_n 0, 1) := by decide +kernel
theorem own_sget_d2 : decode jdk_130_method_4_code 2 = .ok (.getfield 21, 3) := by decide +kernel
theorem own_sget_d5 : decode jdk_130_method_4_code 5 = .ok (.invokestatic 30, 3) := by decide +kernel
theorem own_sget_d8 : decode jdk_130_method_4_code 8 = .ok (.pop, 1) := by decide +kernel
theorem own_sget_d9 : decode jdk_130_method_4_code 9 = .ok (.aload_n 0, 1) := by decide +kernel
theorem own_sget_d10 : decode jdk_130_method_4_code 10 = .ok (.invokevirtual 36, 3) := by decide +kernel
theorem own_sget_d13 : decode jdk_130_method_4_code 13 = .ok (.aload_n 0, 1) := by decide +kernel
theorem own_sget_d14 : decode jdk_130_method_4_code 14 = .ok (.getfield 7, 3) := by decide +kernel
theorem own_sget_d17 : decode jdk_130_method_4_code 17 = .ok (.aload_n 0, 1) := by decide +kernel
theorem own_sget_d18 : decode jdk_130_method_4_code 18 = .ok (.getfield 17, 3) := by decide +kernel
theorem own_sget_d21 : decode jdk_130_method_4_code 21 = .ok (.iload_n 1, 1) := by decide +kernel
theorem own_sget_d22 : decode jdk_130_method_4_code 22 = .ok (.iadd, 1) := by decide +kernel
theorem own_sget_d23 : decode jdk_130_method_4_code 23 = .ok (.invokevirtual 39, 3) := by decide +kernel
theorem own_sget_d26 : decode jdk_130_method_4_code 26 = .ok (.areturn, 1) := by decide +kernel
theorem own_sget_pn : plainName "java/util/ArrayList$SubList" = true := by first | (simp [plainName, overriddenIn]; done) | decide +kernel
theorem own_sget_pd0 : parseMethodDescriptor "(II)I" = some ⟨[.int, .int], some .int⟩ := by decide +kernel
theorem own_sget_pd1 : parseMethodDescriptor "()V" = some ⟨[], none⟩ := by decide +kernel
theorem own_sget_pd2 : parseMethodDescriptor "(I)Ljava/lang/Object;" = some ⟨[.int], some (.object "java/lang/Object")⟩ := by decide +kernel
theorem own_sget_ef (m : MethodId) (x0 : Addr) (x1 : Int32) : entryFrame m #[(.ref x0), (.int x1)] 2 = mkF m 0 #[.val (.ref x0), .val (.int x1)] [] := by first | (simp [entryFrame, mkF, argsToLocals, Value.category]; done) | rfl
def own_sget_Q (Z : State) (s_ : Addr) (a : Addr) (dd : Addr) (cl : Cell) (nn : Int32) (mc : Int32) (xx : Int32) (oo : Int32) (kq : Int32) (tt : Int32) (h0 : Heap) (n0 : Nat) (vv_ : Option Value) (hh_ : Heap) (LL_ : List Loc) : Prop := ∃ bb : Addr, vv_ = some (.ref bb) ∧ Fr n0 LL_ ∧ hh_ = h0 ∧ (Exa Z hh_ bb "java/lang/Integer") ∧ (Fld Z hh_ bb "java/lang/Integer" "value" "I" (.int (xx + (oo + tt))))
set_option maxRecDepth 65536 in
set_option maxHeartbeats 40000000 in
theorem own_sget (l : Launch) (Z : State) (a0 : Array Value) (hw : ∀ d ∈ tables_1, d.before a0 Z = true) (ws : List Jvm.Cond) (s_ : Addr) (a : Addr) (dd : Addr) (cl : Cell) (nn : Int32) (mc : Int32) (xx : Int32) (oo : Int32) (kq : Int32) (tt : Int32) (h0 : Heap) (n0 : Nat) (Z0 : n0 ≤ h0.size) (E : Exa Z h0 s_ "java/util/ArrayList$SubList") (Sr : Fld Z h0 s_ "java/util/ArrayList$SubList" "root" "Ljava/util/ArrayList;" (.ref a)) (So : Fld Z h0 s_ "java/util/ArrayList$SubList" "offset" "I" (.int oo)) (Ss : Fld Z h0 s_ "java/util/ArrayList$SubList" "size" "I" (.int kq)) (Sm : Fld Z h0 s_ "java/util/AbstractList" "modCount" "I" (.int mc)) (Ea : Exa Z h0 a "java/util/ArrayList") (Fe : Fld Z h0 a "java/util/ArrayList" "elementData" "[Ljava/lang/Object;" (.ref dd)) (Fm : Fld Z h0 a "java/util/AbstractList" "modCount" "I" (.int mc)) (A : Arr Z h0 dd cl (.object "java/lang/Object")) (hsz : cl.slots.size = 10) (HB : own_boxes Z h0 cl nn xx) (tl : ¬ tt < (0 : Int32)) (tu : tt < kq) (jl : ¬ (oo + tt) < (0 : Int32)) (ju : (oo + tt) < nn) (hn7 : ¬ (7 : Int32) < nn) :
    MetFree l (⟨"java/util/ArrayList$SubList", "get", "(I)Ljava/lang/Object;"⟩ : MethodName) (head1 (Jvm.Cond.code (⟨"java/util/ArrayList$SubList", "get", "(I)Ljava/lang/Object;"⟩ : MethodName) jdk_130_method_4_code 2 (some (.object "java/lang/Object")) :: ws) ({ frames := 2, cells := 0, slots := 0, locals := 27 } : Room)) (fun aa_ UU_ => aa_ = #[(.ref s_), (.int tt)] ∧ Z.Warmed39 UU_.vm ∧ UU_.heap = h0) (fun _ _ _ _ _ => True) (fun _ UU_ oo_ UV_ => ∃ vv_ LL_, oo_ = .returned vv_ ∧ own_sget_Q Z s_ a dd cl nn mc xx oo kq tt h0 n0 vv_ UV_.heap LL_ ∧ FrameEnd UU_ oo_ UV_ LL_ ({ frames := 2, cells := 0, slots := 0, locals := 27 } : Room).cells ({ frames := 2, cells := 0, slots := 0, locals := 27 } : Room).slots) := by
  refine MetFree.of_bodySF (plainFor_of_name own_sget_pn) hisR ?_
  intro p e s m args below meth c s₁ Bd hml0 hP hK
  obtain ⟨rfl, hZ, hh⟩ := hP
  have hx := Bd.exec
  have hby := Bd.bytes
  have hml : c.maxLocals = 2 := hml0
  have hown : s.vm.findClass "java/util/ArrayList$SubList" = some m.cls := findClass_of_methodNamed Bd.named
  have hnm := (name_of_methodNamed Bd.named Bd.method).1
  have X0 : Stand p l e ({ frames := 2, cells := 0, slots := 0, locals := 27 } : Room) s m #[(.ref s_), (.int tt)] below meth c s₁ [] 0 0 := Stand.of_body Bd
  have e0 : s₁.heap = h0 := by rw [← hh, Bd.state]; rfl
  have N0 := Fr.nil n0
  have KP0 : Keep h0 h0 [] := Keep.refl _ _
  refine ownFin (Q := own_sget_Q Z s_ a dd cl nn mc xx oo kq tt h0 n0) ?_
  refine ownStep (fun _ k => castTop (own_sget_ef m s_ tt) k) ?_
  show ownGo p.tables e below (s₁.setTop (mkF m 0 #[.val (.ref s_), .val (.int tt)] [])) _
  refine ownStep (fun _ k => XS.iloadN X0.here hx rfl (hb hby own_sget_d0) rfl  k) ?_
  refine ownStep (fun _ k => XS.aloadN X0.here hx rfl (hb hby own_sget_d1) rfl rfl k) ?_
  show ownGo p.tables e below (s₁.setTop (mkF m 2 #[.val (.ref s_), .val (.int tt)] [(.ref s_), (.int tt)])) _
  obtain ⟨T1, X1, e1, st1⟩ := getF X0 hx hZ hown (host := "") (Or.inl (hw _ (List.mem_of_getElem? (i := 115) rfl))) Via.refl e0 Ss (g := (mkF m 2 #[.val (.ref s_), .val (.int tt)] [(.ref s_), (.int tt)])) rfl rfl (hb hby own_sget_d2)
  refine ownStep st1 ?_
  show ownGo p.tables e below (T1.setTop (mkF m 5 #[.val (.ref s_), .val (.int tt)] [(.int kq), (.int tt)])) _
  have Zs3 : n0 ≤ h0.size := Nat.le_trans Z0 KP0.1
  obtain ⟨_, _, ⟨T2, L2, k2, n2⟩, -, X2, ⟨Lc2, hQ2, l2, y2, z2⟩, st2⟩ := Jvm.LawKit.callS X1 hx (y := (⟨"java/util/Objects", "checkIndex", "(II)I"⟩ : MethodName)) hown (mvT hZ (hw _ (List.mem_of_getElem? (i := 173) rfl))) (mvT hZ (hw _ (List.mem_of_getElem? (i := 140) rfl))) (mvT hZ (hw _ (List.mem_of_getElem? (i := 141) rfl))) (mvT hZ (hw _ (List.mem_of_getElem? (i := 142) rfl))) (by decide) (backOf (W := 0) (own_al_chk l Z a0 hw [] tt kq h0 n0 Zs3 tl tu) hZ (hw _ (List.mem_of_getElem? (i := 142) rfl)) (hw _ (List.mem_of_getElem? (i := 141) rfl)) (by decide) (by decide)) (g := (mkF m 5 #[.val (.ref s_), .val (.int tt)] [(.int kq), (.int tt)])) rfl (by rw [hml]; rfl) (argsL := [(.int tt), (.int kq)]) (rest := []) (lenOf own_sget_pd0 rfl) rfl (by show 2 * 0 + _ ≤ _; exact Nat.le_of_eq rfl) (hb hby own_sget_d5) (fun _ _ => ⟨rfl, e1, (by decide : 0 + 0 ≤ _), (by decide : 0 + 0 ≤ _)⟩)
  dsimp only [Pt.U, Pt.locs, Pt.cells, Pt.slots] at X2 l2 y2 z2 st2 hQ2
  obtain rfl : k2 = 0 := y2
  obtain rfl : n2 = 0 := z2
  obtain ⟨rfl, N2q, R2⟩ := hQ2
  have N2 : Fr n0 L2 := l2 ▸ Fr.app N0 N2q
  refine ownStep (fun _ k => st2 _ k) ?_
  refine ownStep (fun _ k => XS.pop X2.here hx rfl (hb hby own_sget_d8) rfl rfl k) ?_
  refine ownStep (fun _ k => XS.aloadN X2.here hx rfl (hb hby own_sget_d9) rfl rfl k) ?_
  show ownGo p.tables e below (T2.setTop (mkF m 10 #[.val (.ref s_), .val (.int tt)] [(.ref s_)])) _
  have Zs5 : n0 ≤ h0.size := Nat.le_trans Z0 KP0.1
  obtain ⟨cq4, q4, q4'⟩ := E.cell
  obtain ⟨_, _, ⟨T4, L4, k4, n4⟩, -, X4, ⟨Lc4, hQ4, l4, y4, z4⟩, st4⟩ := X2.privateBack hx (y := (⟨"java/util/ArrayList$SubList", "checkForComodification", "()V"⟩ : MethodName)) hown (mvT hZ (hw _ (List.mem_of_getElem? (i := 159) rfl))) (mvT hZ (hw _ (List.mem_of_getElem? (i := 160) rfl))) (mvT hZ (hw _ (List.mem_of_getElem? (i := 162) rfl))) (Cond.privateMethod_at (mvP hZ (hw _ (List.mem_of_getElem? (i := 161) rfl)) (args := #[]))) (mvT hZ (hw _ (List.mem_of_getElem? (i := 163) rfl))) (by decide) (backOf (W := 0) (own_cfc l Z a0 hw [] s_ a mc oo kq h0 n0 Zs5 Sr So Ss Sm Fm) hZ (hw _ (List.mem_of_getElem? (i := 163) rfl)) (hw _ (List.mem_of_getElem? (i := 100) rfl)) (by decide) (by decide)) (g := (mkF m 10 #[.val (.ref s_), .val (.int tt)] [(.ref s_)])) rfl (by rw [hml]; rfl) (Steps.refl _) (a := s_) (by rw [R2]; exact q4) q4' (argsL := []) (rest := []) (lenOf own_sget_pd1 rfl) rfl (by show 2 * 0 + _ ≤ _; exact Nat.le_of_eq rfl) (hb hby own_sget_d10) (fun _ _ => ⟨rfl, R2, (by decide : 0 + 0 ≤ _), (by decide : 0 + 0 ≤ _)⟩)
  dsimp only [Pt.U, Pt.locs, Pt.cells, Pt.slots] at X4 l4 y4 z4 st4 hQ4
  obtain rfl : k4 = 0 := y4
  obtain rfl : n4 = 0 := z4
  obtain ⟨rfl, N4q, R4⟩ := hQ4
  have N4 : Fr n0 L4 := l4 ▸ Fr.app N2 N4q
  refine ownStep (fun _ k => st4.trans k) ?_
  refine ownStep (fun _ k => XS.aloadN X4.here hx rfl (hb hby own_sget_d13) rfl rfl k) ?_
  show ownGo p.tables e below (T4.setTop (mkF m 14 #[.val (.ref s_), .val (.int tt)] [(.ref s_)])) _
  obtain ⟨T6, X6, e6, st6⟩ := getF X4 hx hZ hown (host := "") (Or.inl (hw _ (List.mem_of_getElem? (i := 109) rfl))) Via.refl R4 Sr (g := (mkF m 14 #[.val (.ref s_), .val (.int tt)] [(.ref s_)])) rfl rfl (hb hby own_sget_d14)
  refine ownStep st6 ?_
  refine ownStep (fun _ k => XS.aloadN X6.here hx rfl (hb hby own_sget_d17) rfl rfl k) ?_
  show ownGo p.tables e below (T6.setTop (mkF m 18 #[.val (.ref s_), .val (.int tt)] [(.ref s_), (.ref a)])) _
  obtain ⟨T7, X7, e7, st7⟩ := getF X6 hx hZ hown (host := "") (Or.inl (hw _ (List.mem_of_getElem? (i := 113) rfl))) Via.refl e6 So (g := (mkF m 18 #[.val (.ref s_), .val (.int tt)] [(.ref s_), (.ref a)])) rfl rfl (hb hby own_sget_d18)
  refine ownStep st7 ?_
  refine ownStep (fun _ k => XS.iloadN X7.here hx rfl (hb hby own_sget_d21) rfl  k) ?_
  refine ownStep (fun _ k => XS.iadd X7.here hx rfl (hb hby own_sget_d22) rfl k) ?_
  show ownGo p.tables e below (T7.setTop (mkF m 23 #[.val (.ref s_), .val (.int tt)] [(.int (oo + tt)), (.ref a)])) _
  obtain ⟨bb, hat, Eb, Fb⟩ := HB _ jl ju
  have Zs9 : n0 ≤ h0.size := Nat.le_trans Z0 KP0.1
  obtain ⟨cq8, kq8, q8a, q8b, q8c⟩ := isOf hZ e7 Ea
  obtain ⟨_, _, ⟨T8, L8, k8, n8⟩, -, X8, ⟨Lc8, hQ8, l8, y8, z8⟩, st8⟩ := X7.virtualBack hx (y := (⟨"java/util/ArrayList", "elementData", "(I)Ljava/lang/Object;"⟩ : MethodName)) (z := (⟨"java/util/ArrayList", "elementData", "(I)Ljava/lang/Object;"⟩ : MethodName)) hown (mvT hZ (hw _ (List.mem_of_getElem? (i := 174) rfl))) (mvT hZ (hw _ (List.mem_of_getElem? (i := 148) rfl))) (notFace_of_selects (args := #[]) (mvT hZ (hw _ (List.mem_of_getElem? (i := 150) rfl)))) (mvT hZ (hw _ (List.mem_of_getElem? (i := 150) rfl))) (mvT hZ (hw _ (List.mem_of_getElem? (i := 149) rfl))) (by decide) (backOf (W := 0) (own_edS l Z a0 hw [] a dd cl (oo + tt) bb h0 n0 Zs9 Fe A hsz jl (own_lt10 ju hn7) hat) hZ (hw _ (List.mem_of_getElem? (i := 151) rfl)) (hw _ (List.mem_of_getElem? (i := 7) rfl)) (by decide) (by decide)) q8a q8c (g := (mkF m 23 #[.val (.ref s_), .val (.int tt)] [(.int (oo + tt)), (.ref a)])) rfl (by rw [hml]; rfl) (Steps.refl _) (argsL := [(.int (oo + tt))]) (rest := []) (lenOf own_sget_pd2 rfl) rfl (by show 2 * 0 + _ ≤ _; exact Nat.le_of_eq rfl) (hb hby own_sget_d23) (fun _ _ => ⟨rfl, e7, (by decide : 0 + 0 ≤ _), (by decide : 0 + 0 ≤ _)⟩)
  dsimp only [Pt.U, Pt.locs, Pt.cells, Pt.slots] at X8 l8 y8 z8 st8 hQ8
  obtain rfl : k8 = 0 := y8
  obtain rfl : n8 = 0 := z8
  obtain ⟨rfl, N8q, R8⟩ := hQ8
  have N8 : Fr n0 L8 := l8 ▸ Fr.app N4 N8q
  refine ownStep (fun _ k => st8.trans k) ?_
  show ownGo p.tables e below (T8.setTop (mkF m 26 #[.val (.ref s_), .val (.int tt)] [(.ref bb)])) _
  exact ownRet X8 (v := some (.ref bb)) Bd.notSynchronized (fun h => by rw [Bd.returns] at h; cases h) (fun _ hr => retOut X8 hx (t := (.object "java/lang/Object")) Bd.returns rfl (Or.inr (Or.inr (Or.inr (Or.inr ⟨rfl, rfl, rfl⟩)))) (hb hby own_sget_d26) hr) (by rw [R8]; exact ⟨bb, rfl, N8, rfl, Eb, Fb⟩) (by decide) (by decide)
theorem own_runok_d0 : decode method_2_code 0 = .ok (.aload_n 0, 1) := by decide +kernel
theorem own_runok_d1 : decode method_2_code 1 = .ok (.invokeinterface 7 1, 5) := by decide +kernel
theorem own_runok_d6 : decode method_2_code 6 = .ok (.istore_n 3, 1) := by decide +kernel
theorem own_runok_d7 : decode method_2_code 7 = .ok (.iconst 0, 1) := by decide +kernel
theorem own_runok_d8 : decode method_2_code 8 = .ok (.iload_n 3, 1) := by decide +kernel
theorem own_runok_d9 : decode method_2_code 9 = .ok (.if_icmp .ge 24, 3) := by decide +kernel
theorem own_runok_d12 : decode method_2_code 12 = .ok (.aload_n 0, 1) := by decide +kernel
theorem own_runok_d13 : decode method_2_code 13 = .ok (.iconst 0, 1) := by decide +kernel
theorem own_runok_d14 : decode method_2_code 14 = .ok (.invokeinterface 13 2, 5) := by decide +kernel
theorem own_runok_d19 : decode method_2_code 19 = .ok (.checkcast 17, 3) := by decide +kernel
theorem own_runok_d22 : decode method_2_code 22 = .ok (.invokevirtual 19, 3) := by decide +kernel
theorem own_runok_d25 : decode method_2_code 25 = .ok (.iload_n 2, 1) := by decide +kernel
theorem own_runok_d26 : decode method_2_code 26 = .ok (.iload_n 1, 1) := by decide +kernel
theorem own_runok_d27 : decode method_2_code 27 = .ok (.iadd, 1) := by decide +kernel
theorem own_runok_d28 : decode method_2_code 28 = .ok (.if_icmp .eq 5, 3) := by decide +kernel
theorem own_runok_d33 : decode method_2_code 33 = .ok (.iconst 1, 1) := by decide +kernel
theorem own_runok_d34 : decode method_2_code 34 = .ok (.iload_n 3, 1) := by decide +kernel
theorem own_runok_d35 : decode method_2_code 35 = .ok (.if_icmp .ge 26, 3) := by decide +kernel
theorem own_runok_d38 : decode method_2_code 38 = .ok (.aload_n 0, 1) := by decide +kernel
theorem own_runok_d39 : decode method_2_code 39 = .ok (.iconst 1, 1) := by decide +kernel
theorem own_runok_d40 : decode method_2_code 40 = .ok (.invokeinterface 13 2, 5) := by decide +kernel
theorem own_runok_d45 : decode method_2_code 45 = .ok (.checkcast 17, 3) := by decide +kernel
theorem own_runok_d48 : decode method_2_code 48 = .ok (.invokevirtual 19, 3) := by decide +kernel
theorem own_runok_d51 : decode method_2_code 51 = .ok (.iload_n 2, 1) := by decide +kernel
theorem own_runok_d52 : decode method_2_code 52 = .ok (.iload_n 1, 1) := by decide +kernel
theorem own_runok_d53 : decode method_2_code 53 = .ok (.iadd, 1) := by decide +kernel
theorem own_runok_d54 : decode method_2_code 54 = .ok (.iconst 1, 1) := by decide +kernel
theorem own_runok_d55 : decode method_2_code 55 = .ok (.iadd, 1) := by decide +kernel
theorem own_runok_d56 : decode method_2_code 56 = .ok (.if_icmp .eq 5, 3) := by decide +kernel
theorem own_runok_d61 : decode method_2_code 61 = .ok (.iconst 2, 1) := by decide +kernel
theorem own_runok_d62 : decode method_2_code 62 = .ok (.iload_n 3, 1) := by decide +kernel
theorem own_runok_d63 : decode method_2_code 63 = .ok (.if_icmp .ge 26, 3) := by decide +kernel
theorem own_runok_d66 : decode method_2_code 66 = .ok (.aload_n 0, 1) := by decide +kernel
theorem own_runok_d67 : decode method_2_code 67 = .ok (.iconst 2, 1) := by decide +kernel
theorem own_runok_d68 : decode method_2_code 68 = .ok (.invokeinterface 13 2, 5) := by decide +kernel
theorem own_runok_d73 : decode method_2_code 73 = .ok (.checkcast 17, 3) := by decide +kernel
theorem own_runok_d76 : decode method_2_code 76 = .ok (.invokevirtual 19, 3) := by decide +kernel
theorem own_runok_d79 : decode method_2_code 79 = .ok (.iload_n 2, 1) := by decide +kernel
theorem own_runok_d80 : decode method_2_code 80 = .ok (.iload_n 1, 1) := by decide +kernel
theorem own_runok_d81 : decode method_2_code 81 = .ok (.iadd, 1) := by decide +kernel
theorem own_runok_d82 : decode method_2_code 82 = .ok (.iconst 2, 1) := by decide +kernel
theorem own_runok_d83 : decode method_2_code 83 = .ok (.iadd, 1) := by decide +kernel
theorem own_runok_d84 : decode method_2_code 84 = .ok (.if_icmp .eq 5, 3) := by decide +kernel
theorem own_runok_d89 : decode method_2_code 89 = .ok (.iconst 3, 1) := by decide +kernel
theorem own_runok_d90 : decode method_2_code 90 = .ok (.iload_n 3, 1) := by decide +kernel
theorem own_runok_d91 : decode method_2_code 91 = .ok (.if_icmp .ge 26, 3) := by decide +kernel
theorem own_runok_d94 : decode method_2_code 94 = .ok (.aload_n 0, 1) := by decide +kernel
theorem own_runok_d95 : decode method_2_code 95 = .ok (.iconst 3, 1) := by decide +kernel
theorem own_runok_d96 : decode method_2_code 96 = .ok (.invokeinterface 13 2, 5) := by decide +kernel
theorem own_runok_d101 : decode method_2_code 101 = .ok (.checkcast 17, 3) := by decide +kernel
theorem own_runok_d104 : decode method_2_code 104 = .ok (.invokevirtual 19, 3) := by decide +kernel
theorem own_runok_d107 : decode method_2_code 107 = .ok (.iload_n 2, 1) := by decide +kernel
theorem own_runok_d108 : decode method_2_code 108 = .ok (.iload_n 1, 1) := by decide +kernel
theorem own_runok_d109 : decode method_2_code 109 = .ok (.iadd, 1) := by decide +kernel
theorem own_runok_d110 : decode method_2_code 110 = .ok (.iconst 3, 1) := by decide +kernel
theorem own_runok_d111 : decode method_2_code 111 = .ok (.iadd, 1) := by decide +kernel
theorem own_runok_d112 : decode method_2_code 112 = .ok (.if_icmp .eq 5, 3) := by decide +kernel
theorem own_runok_d117 : decode method_2_code 117 = .ok (.iconst 4, 1) := by decide +kernel
theorem own_runok_d118 : decode method_2_code 118 = .ok (.iload_n 3, 1) := by decide +kernel
theorem own_runok_d119 : decode method_2_code 119 = .ok (.if_icmp .ge 26, 3) := by decide +kernel
theorem own_runok_d122 : decode method_2_code 122 = .ok (.aload_n 0, 1) := by decide +kernel
theorem own_runok_d123 : decode method_2_code 123 = .ok (.iconst 4, 1) := by decide +kernel
theorem own_runok_d124 : decode method_2_code 124 = .ok (.invokeinterface 13 2, 5) := by decide +kernel
theorem own_runok_d129 : decode method_2_code 129 = .ok (.checkcast 17, 3) := by decide +kernel
theorem own_runok_d132 : decode method_2_code 132 = .ok (.invokevirtual 19, 3) := by decide +kernel
theorem own_runok_d135 : decode method_2_code 135 = .ok (.iload_n 2, 1) := by decide +kernel
theorem own_runok_d136 : decode method_2_code 136 = .ok (.iload_n 1, 1) := by decide +kernel
theorem own_runok_d137 : decode method_2_code 137 = .ok (.iadd, 1) := by decide +kernel
theorem own_runok_d138 : decode method_2_code 138 = .ok (.iconst 4, 1) := by decide +kernel
theorem own_runok_d139 : decode method_2_code 139 = .ok (.iadd, 1) := by decide +kernel
theorem own_runok_d140 : decode method_2_code 140 = .ok (.if_icmp .eq 5, 3) := by decide +kernel
theorem own_runok_d145 : decode method_2_code 145 = .ok (.iconst 5, 1) := by decide +kernel
theorem own_runok_d146 : decode method_2_code 146 = .ok (.iload_n 3, 1) := by decide +kernel
theorem own_runok_d147 : decode method_2_code 147 = .ok (.if_icmp .ge 26, 3) := by decide +kernel
theorem own_runok_d150 : decode method_2_code 150 = .ok (.aload_n 0, 1) := by decide +kernel
theorem own_runok_d151 : decode method_2_code 151 = .ok (.iconst 5, 1) := by decide +kernel
theorem own_runok_d152 : decode method_2_code 152 = .ok (.invokeinterface 13 2, 5) := by decide +kernel
theorem own_runok_d157 : decode method_2_code 157 = .ok (.checkcast 17, 3) := by decide +kernel
theorem own_runok_d160 : decode method_2_code 160 = .ok (.invokevirtual 19, 3) := by decide +kernel
theorem own_runok_d163 : decode method_2_code 163 = .ok (.iload_n 2, 1) := by decide +kernel
theorem own_runok_d164 : decode method_2_code 164 = .ok (.iload_n 1, 1) := by decide +kernel
theorem own_runok_d165 : decode method_2_code 165 = .ok (.iadd, 1) := by decide +kernel
theorem own_runok_d166 : decode method_2_code 166 = .ok (.iconst 5, 1) := by decide +kernel
theorem own_runok_d167 : decode method_2_code 167 = .ok (.iadd, 1) := by decide +kernel
theorem own_runok_d168 : decode method_2_code 168 = .ok (.if_icmp .eq 5, 3) := by decide +kernel
theorem own_runok_d173 : decode method_2_code 173 = .ok (.bipush 6, 2) := by decide +kernel
theorem own_runok_d175 : decode method_2_code 175 = .ok (.iload_n 3, 1) := by decide +kernel
theorem own_runok_d176 : decode method_2_code 176 = .ok (.if_icmp .ge 28, 3) := by decide +kernel
theorem own_runok_d179 : decode method_2_code 179 = .ok (.aload_n 0, 1) := by decide +kernel
theorem own_runok_d180 : decode method_2_code 180 = .ok (.bipush 6, 2) := by decide +kernel
theorem own_runok_d182 : decode method_2_code 182 = .ok (.invokeinterface 13 2, 5) := by decide +kernel
theorem own_runok_d187 : decode method_2_code 187 = .ok (.checkcast 17, 3) := by decide +kernel
theorem own_runok_d190 : decode method_2_code 190 = .ok (.invokevirtual 19, 3) := by decide +kernel
theorem own_runok_d193 : decode method_2_code 193 = .ok (.iload_n 2, 1) := by decide +kernel
theorem own_runok_d194 : decode method_2_code 194 = .ok (.iload_n 1, 1) := by decide +kernel
theorem own_runok_d195 : decode method_2_code 195 = .ok (.iadd, 1) := by decide +kernel
theorem own_runok_d196 : decode method_2_code 196 = .ok (.bipush 6, 2) := by decide +kernel
theorem own_runok_d198 : decode method_2_code 198 = .ok (.iadd, 1) := by decide +kernel
theorem own_runok_d199 : decode method_2_code 199 = .ok (.if_icmp .eq 5, 3) := by decide +kernel
theorem own_runok_d204 : decode method_2_code 204 = .ok (.bipush 7, 2) := by decide +kernel
theorem own_runok_d206 : decode method_2_code 206 = .ok (.iload_n 3, 1) := by decide +kernel
theorem own_runok_d207 : decode method_2_code 207 = .ok (.if_icmp .ge 5, 3) := by decide +kernel
theorem own_runok_d212 : decode method_2_code 212 = .ok (.iconst 1, 1) := by decide +kernel
theorem own_runok_d213 : decode method_2_code 213 = .ok (.ireturn, 1) := by decide +kernel
theorem own_runok_pn : plainName "com/example/circuline/circuline/storage/InsertSplitPinLaw" = true := by first | (simp [plainName, overriddenIn]; done) | decide +kernel
theorem own_runok_pd0 : parseMethodDescriptor "()I" = some ⟨[], some .int⟩ := by decide +kernel
theorem own_runok_pd1 : parseMethodDescriptor "(I)Ljava/lang/Object;" = some ⟨[.int], some (.object "java/lang/Object")⟩ := by decide +kernel
theorem own_runok_ef (m : MethodId) (x0 : Addr) (x1 : Int32) (x2 : Int32) : entryFrame m #[(.ref x0), (.int x1), (.int x2)] 4 = mkF m 0 #[.val (.ref x0), .val (.int x1), .val (.int x2), .unset] [] := by first | (simp [entryFrame, mkF, argsToLocals, Value.category]; done) | rfl
def own_runok_Q (Z : State) (s_ : Addr) (a : Addr) (dd : Addr) (cl : Cell) (nn : Int32) (mc : Int32) (xx : Int32) (oo : Int32) (kq : Int32) (pz : Int32) (h0 : Heap) (n0 : Nat) (vv_ : Option Value) (hh_ : Heap) (LL_ : List Loc) : Prop := vv_ = some (.int (1 : Int32)) ∧ Fr n0 LL_ ∧ hh_ = h0
set_option maxRecDepth 65536 in
set_option maxHeartbeats 40000000 in
theorem own_runok (l : Launch) (Z : State) (a0 : Array Value) (hw : ∀ d ∈ tables_1, d.before a0 Z = true) (ws : List Jvm.Cond) (s_ : Addr) (a : Addr) (dd : Addr) (cl : Cell) (nn : Int32) (mc : Int32) (xx : Int32) (oo : Int32) (kq : Int32) (pz : Int32) (h0 : Heap) (n0 : Nat) (Z0 : n0 ≤ h0.size) (E : Exa Z h0 s_ "java/util/ArrayList$SubList") (Sr : Fld Z h0 s_ "java/util/ArrayList$SubList" "root" "Ljava/util/ArrayList;" (.ref a)) (So : Fld Z h0 s_ "java/util/ArrayList$SubList" "offset" "I" (.int oo)) (Ss : Fld Z h0 s_ "java/util/ArrayList$SubList" "size" "I" (.int kq)) (Sm : Fld Z h0 s_ "java/util/AbstractList" "modCount" "I" (.int mc)) (Ea : Exa Z h0 a "java/util/ArrayList") (Fe : Fld Z h0 a "java/util/ArrayList" "elementData" "[Ljava/lang/Object;" (.ref dd)) (Fm : Fld Z h0 a "java/util/AbstractList" "modCount" "I" (.int mc)) (A : Arr Z h0 dd cl (.object "java/lang/Object")) (hsz : cl.slots.size = 10) (HB : own_boxes Z h0 cl nn xx) (kl : 1 ≤ kq.toInt) (ku : oo.toInt + kq.toInt ≤ nn.toInt) (ol : 0 ≤ oo.toInt) (hn7 : ¬ (7 : Int32) < nn) (hpz : pz = oo) :
    MetFree l (⟨"com/example/circuline/circuline/storage/InsertSplitPinLaw", "runOk", "(Ljava/util/List;II)Z"⟩ : MethodName) (head1 (Jvm.Cond.code (⟨"com/example/circuline/circuline/storage/InsertSplitPinLaw", "runOk", "(Ljava/util/List;II)Z"⟩ : MethodName) method_2_code 4 (some .boolean) :: ws) ({ frames := 3, cells := 0, slots := 0, locals := 40 } : Room)) (fun aa_ UU_ => aa_ = #[(.ref s_), (.int pz), (.int xx)] ∧ Z.Warmed39 UU_.vm ∧ UU_.heap = h0) (fun _ _ _ _ _ => True) (fun _ UU_ oo_ UV_ => ∃ vv_ LL_, oo_ = .returned vv_ ∧ own_runok_Q Z s_ a dd cl nn mc xx oo kq pz h0 n0 vv_ UV_.heap LL_ ∧ FrameEnd UU_ oo_ UV_ LL_ ({ frames := 3, cells := 0, slots := 0, locals := 40 } : Room).cells ({ frames := 3, cells := 0, slots := 0, locals := 40 } : Room).slots) := by
  refine MetFree.of_bodySF (plainFor_of_name own_runok_pn) hisR ?_
  intro p e s m args below meth c s₁ Bd hml0 hP hK
  obtain ⟨rfl, hZ, hh⟩ := hP
  have hx := Bd.exec
  have hby := Bd.bytes
  have hml : c.maxLocals = 4 := hml0
  have hown : s.vm.findClass "com/example/circuline/circuline/storage/InsertSplitPinLaw" = some m.cls := findClass_of_methodNamed Bd.named
  have hnm := (name_of_methodNamed Bd.named Bd.method).1
  have X0 : Stand p l e ({ frames := 3, cells := 0, slots := 0, locals := 40 } : Room) s m #[(.ref s_), (.int pz), (.int xx)] below meth c s₁ [] 0 0 := Stand.of_body Bd
  have e0 : s₁.heap = h0 := by rw [← hh, Bd.state]; rfl
  have N0 := Fr.nil n0
  have KP0 : Keep h0 h0 [] := Keep.refl _ _
  refine ownFin (Q := own_runok_Q Z s_ a dd cl nn mc xx oo kq pz h0 n0) ?_
  refine ownStep (fun _ k => castTop (own_runok_ef m s_ pz xx) k) ?_
  show ownGo p.tables e below (s₁.setTop (mkF m 0 #[.val (.ref s_), .val (.int pz), .val (.int xx), .unset] [])) _
  refine ownStep (fun _ k => XS.aloadN X0.here hx rfl (hb hby own_runok_d0) rfl rfl k) ?_
  show ownGo p.tables e below (s₁.setTop (mkF m 1 #[.val (.ref s_), .val (.int pz), .val (.int xx), .unset] [(.ref s_)])) _
  have Zs2 : n0 ≤ h0.size := Nat.le_trans Z0 KP0.1
  obtain ⟨cq1, kq1, q1a, q1b, q1c⟩ := isOf hZ e0 E
  obtain ⟨_, _, ⟨T1, L1, k1, n1⟩, -, X1, ⟨Lc1, hQ1, l1, y1, z1⟩, st1⟩ := X0.interfaceBack hx (xi := (⟨"java/util/List", "size", "()I"⟩ : MethodName)) (y := (⟨"java/util/ArrayList$SubList", "size", "()I"⟩ : MethodName)) hown (mvT hZ (hw _ (List.mem_of_getElem? (i := 49) rfl))) (mvT hZ (hw _ (List.mem_of_getElem? (i := 39) rfl))) (mvT hZ (hw _ (List.mem_of_getElem? (i := 40) rfl))) (mvT hZ (hw _ (List.mem_of_getElem? (i := 154) rfl))) (mvT hZ (hw _ (List.mem_of_getElem? (i := 155) rfl))) (mvT hZ (hw _ (List.mem_of_getElem? (i := 156) rfl))) (mvT hZ (hw _ (List.mem_of_getElem? (i := 157) rfl))) (mvT hZ (hw _ (List.mem_of_getElem? (i := 153) rfl))) (by decide) (backOf (W := 0) (own_ssz l Z a0 hw [] s_ a mc oo kq h0 n0 Zs2 E Sr So Ss Sm Fm) hZ (hw _ (List.mem_of_getElem? (i := 158) rfl)) (hw _ (List.mem_of_getElem? (i := 100) rfl)) (by decide) (by decide)) q1a q1b q1c (g := (mkF m 1 #[.val (.ref s_), .val (.int pz), .val (.int xx), .unset] [(.ref s_)])) rfl (by rw [hml]; rfl) (Steps.refl _) (argsL := []) (rest := []) (lenOf own_runok_pd0 rfl) rfl (by show 2 * 0 + _ ≤ _; exact Nat.le_of_eq rfl) (hb hby own_runok_d1) (fun _ _ => ⟨rfl, e0, (by decide : 0 + 0 ≤ _), (by decide : 0 + 0 ≤ _)⟩)
  dsimp only [Pt.U, Pt.locs, Pt.cells, Pt.slots] at X1 l1 y1 z1 st1 hQ1
  obtain rfl : k1 = 0 := y1
  obtain rfl : n1 = 0 := z1
  obtain ⟨rfl, N1q, R1⟩ := hQ1
  have N1 : Fr n0 L1 := l1 ▸ Fr.app N0 N1q
  refine ownStep (fun _ k => st1.trans k) ?_
  refine ownStep (fun _ k => XS.istoreN X1.here hx rfl (hb hby own_runok_d6) rfl (l' := #[.val (.ref s_), .val (.int pz), .val (.int xx), .val (.int kq)]) rfl k) ?_
  refine ownStep (fun _ k => XS.iconst X1.here hx rfl (hb hby own_runok_d7) k) ?_
  refine ownStep (fun _ k => XS.iloadN X1.here hx rfl (hb hby own_runok_d8) rfl  k) ?_
  show ownGo p.tables e below (T1.setTop (mkF m 9 #[.val (.ref s_), .val (.int pz), .val (.int xx), .val (.int kq)] [(.int kq), (.int (0 : Int32))])) _
  have hk0 : (0 : Int32) < kq := own_k0 kl
  refine ownStep (fun _ k => XS.icmpNo X1.here hx rfl (hb hby own_runok_d9) rfl (tlt (hk0 : (0 : Int32) < kq)).2.1 k) ?_
  refine ownStep (fun _ k => XS.aloadN X1.here hx rfl (hb hby own_runok_d12) rfl rfl k) ?_
  refine ownStep (fun _ k => XS.iconst X1.here hx rfl (hb hby own_runok_d13) k) ?_
  show ownGo p.tables e below (T1.setTop (mkF m 14 #[.val (.ref s_), .val (.int pz), .val (.int xx), .val (.int kq)] [(.int (0 : Int32)), (.ref s_)])) _
  have Zs4 : n0 ≤ h0.size := Nat.le_trans Z0 KP0.1
  obtain ⟨cq3, kq3, q3a, q3b, q3c⟩ := isOf hZ R1 E
  obtain ⟨_, _, ⟨T3, L3, k3, n3⟩, -, X3, ⟨Lc3, hQ3, l3, y3, z3⟩, st3⟩ := X1.interfaceBack hx (xi := (⟨"java/util/List", "get", "(I)Ljava/lang/Object;"⟩ : MethodName)) (y := (⟨"java/util/ArrayList$SubList", "get", "(I)Ljava/lang/Object;"⟩ : MethodName)) hown (mvT hZ (hw _ (List.mem_of_getElem? (i := 131) rfl))) (mvT hZ (hw _ (List.mem_of_getElem? (i := 132) rfl))) (mvT hZ (hw _ (List.mem_of_getElem? (i := 133) rfl))) (mvT hZ (hw _ (List.mem_of_getElem? (i := 168) rfl))) (mvT hZ (hw _ (List.mem_of_getElem? (i := 169) rfl))) (mvT hZ (hw _ (List.mem_of_getElem? (i := 170) rfl))) (mvT hZ (hw _ (List.mem_of_getElem? (i := 171) rfl))) (mvT hZ (hw _ (List.mem_of_getElem? (i := 153) rfl))) (by decide) (backOf (W := 0) (own_sget l Z a0 hw [] s_ a dd cl nn mc xx oo kq (0 : Int32) h0 n0 Zs4 E Sr So Ss Sm Ea Fe Fm A hsz HB (by decide) hk0 (own_jl (by decide) hk0 ku ol hn7) (own_ju (by decide) hk0 ku ol hn7) hn7) hZ (hw _ (List.mem_of_getElem? (i := 172) rfl)) (hw _ (List.mem_of_getElem? (i := 100) rfl)) (by decide) (by decide)) q3a q3b q3c (g := (mkF m 14 #[.val (.ref s_), .val (.int pz), .val (.int xx), .val (.int kq)] [(.int (0 : Int32)), (.ref s_)])) rfl (by rw [hml]; rfl) (Steps.refl _) (argsL := [(.int (0 : Int32))]) (rest := []) (lenOf own_runok_pd1 rfl) rfl (by show 2 * 0 + _ ≤ _; exact Nat.le_of_eq rfl) (hb hby own_runok_d14) (fun _ _ => ⟨rfl, R1, (by decide : 0 + 0 ≤ _), (by decide : 0 + 0 ≤ _)⟩)
  dsimp only [Pt.U, Pt.locs, Pt.cells, Pt.slots] at X3 l3 y3 z3 st3 hQ3
  obtain rfl : k3 = 0 := y3
  obtain rfl : n3 = 0 := z3
  obtain ⟨bb_3, rfl, N3q, R3, P5, P6⟩ := hQ3
  have N3 : Fr n0 L3 := l3 ▸ Fr.app N1 N3q
  refine ownStep (fun _ k => st3.trans k) ?_
  rw [R3] at P5
  rw [R3] at P6
  show ownGo p.tables e below (T3.setTop (mkF m 19 #[.val (.ref s_), .val (.int pz), .val (.int xx), .val (.int kq)] [(.ref bb_3)])) _
  obtain ⟨T7, X7, e7, st7⟩ := castY X3 hx hZ hown (hw _ (List.mem_of_getElem? (i := 175) rfl)) R3 (Ins.self P5) (g := (mkF m 19 #[.val (.ref s_), .val (.int pz), .val (.int xx), .val (.int kq)] [(.ref bb_3)])) rfl rfl (hb hby own_runok_d19)
  refine ownStep st7 ?_
  show ownGo p.tables e below (T7.setTop (mkF m 22 #[.val (.ref s_), .val (.int pz), .val (.int xx), .val (.int kq)] [(.ref bb_3)])) _
  have Zs9 : n0 ≤ h0.size := Nat.le_trans Z0 KP0.1
  obtain ⟨cq8, kq8, q8a, q8b, q8c⟩ := isOf hZ e7 P5
  obtain ⟨_, _, ⟨T8, L8, k8, n8⟩, -, X8, ⟨Lc8, hQ8, l8, y8, z8⟩, st8⟩ := X7.virtualBack hx (y := (⟨"java/lang/Integer", "intValue", "()I"⟩ : MethodName)) (z := (⟨"java/lang/Integer", "intValue", "()I"⟩ : MethodName)) hown (mvT hZ (hw _ (List.mem_of_getElem? (i := 177) rfl))) (mvT hZ (hw _ (List.mem_of_getElem? (i := 178) rfl))) (notFace_of_selects (args := #[]) (mvT hZ (hw _ (List.mem_of_getElem? (i := 180) rfl)))) (mvT hZ (hw _ (List.mem_of_getElem? (i := 180) rfl))) (mvT hZ (hw _ (List.mem_of_getElem? (i := 179) rfl))) (by decide) (backOf (W := 0) (own_iv l Z a0 hw [] bb_3 (xx + (oo + (0 : Int32))) h0 n0 Zs9 P6) hZ (hw _ (List.mem_of_getElem? (i := 181) rfl)) (hw _ (List.mem_of_getElem? (i := 52) rfl)) (by decide) (by decide)) q8a q8c (g := (mkF m 22 #[.val (.ref s_), .val (.int pz), .val (.int xx), .val (.int kq)] [(.ref bb_3)])) rfl (by rw [hml]; rfl) (Steps.refl _) (argsL := []) (rest := []) (lenOf own_runok_pd0 rfl) rfl (by show 2 * 0 + _ ≤ _; exact Nat.le_of_eq rfl) (hb hby own_runok_d22) (fun _ _ => ⟨rfl, e7, (by decide : 0 + 0 ≤ _), (by decide : 0 + 0 ≤ _)⟩)
  dsimp only [Pt.U, Pt.locs, Pt.cells, Pt.slots] at X8 l8 y8 z8 st8 hQ8
  obtain rfl : k8 = 0 := y8
  obtain rfl : n8 = 0 := z8
  obtain ⟨rfl, N8q, R8⟩ := hQ8
  have N8 : Fr n0 L8 := l8 ▸ Fr.app N3 N8q
  refine ownStep (fun _ k => st8.trans k) ?_
  refine ownStep (fun _ k => XS.iloadN X8.here hx rfl (hb hby own_runok_d25) rfl  k) ?_
  refine ownStep (fun _ k => XS.iloadN X8.here hx rfl (hb hby own_runok_d26) rfl  k) ?_
  refine ownStep (fun _ k => XS.iadd X8.here hx rfl (hb hby own_runok_d27) rfl k) ?_
  refine ownStep (fun _ k => XS.icmpYes X8.here hx rfl (pc0 := 28) (pc' := 33) rfl (hb hby own_runok_d28) rfl (teq ((by rw [hpz]; simp) : (xx + (oo + (0 : Int32))) = (xx + pz))).1 (by decide) (by decide) k) ?_
  show ownGo p.tables e below (T8.setTop (mkF m 33 #[.val (.ref s_), .val (.int pz), .val (.int xx), .val (.int kq)] [])) _
  refine ownStep (fun _ k => XS.iconst X8.here hx rfl (hb hby own_runok_d33) k) ?_
  refine ownStep (fun _ k => XS.iloadN X8.here hx rfl (hb hby own_runok_d34) rfl  k) ?_
  show ownGo p.tables e below (T8.setTop (mkF m 35 #[.val (.ref s_), .val (.int pz), .val (.int xx), .val (.int kq)] [(.int kq), (.int (1 : Int32))])) _
  by_cases hk1 : (1 : Int32) < kq
  · skip
    refine ownStep (fun _ k => XS.icmpNo X8.here hx rfl (hb hby own_runok_d35) rfl (tlt (hk1 : (1 : Int32) < kq)).2.1 k) ?_
    refine ownStep (fun _ k => XS.aloadN X8.here hx rfl (hb hby own_runok_d38) rfl rfl k) ?_
    refine ownStep (fun _ k => XS.iconst X8.here hx rfl (hb hby own_runok_d39) k) ?_
    show ownGo p.tables e below (T8.setTop (mkF m 40 #[.val (.ref s_), .val (.int pz), .val (.int xx), .val (.int kq)] [(.int (1 : Int32)), (.ref s_)])) _
    have Zs11 : n0 ≤ h0.size := Nat.le_trans Z0 KP0.1
    obtain ⟨cq10, kq10, q10a, q10b, q10c⟩ := isOf hZ R8 E
    obtain ⟨_, _, ⟨T10, L10, k10, n10⟩, -, X10, ⟨Lc10, hQ10, l10, y10, z10⟩, st10⟩ := X8.interfaceBack hx (xi := (⟨"java/util/List", "get", "(I)Ljava/lang/Object;"⟩ : MethodName)) (y := (⟨"java/util/ArrayList$SubList", "get", "(I)Ljava/lang/Object;"⟩ : MethodName)) hown (mvT hZ (hw _ (List.mem_of_getElem? (i := 131) rfl))) (mvT hZ (hw _ (List.mem_of_getElem? (i := 132) rfl))) (mvT hZ (hw _ (List.mem_of_getElem? (i := 133) rfl))) (mvT hZ (hw _ (List.mem_of_getElem? (i := 168) rfl))) (mvT hZ (hw _ (List.mem_of_getElem? (i := 169) rfl))) (mvT hZ (hw _ (List.mem_of_getElem? (i := 170) rfl))) (mvT hZ (hw _ (List.mem_of_getElem? (i := 171) rfl))) (mvT hZ (hw _ (List.mem_of_getElem? (i := 153) rfl))) (by decide) (backOf (W := 0) (own_sget l Z a0 hw [] s_ a dd cl nn mc xx oo kq (1 : Int32) h0 n0 Zs11 E Sr So Ss Sm Ea Fe Fm A hsz HB (by decide) hk1 (own_jl (by decide) hk1 ku ol hn7) (own_ju (by decide) hk1 ku ol hn7) hn7) hZ (hw _ (List.mem_of_getElem? (i := 172) rfl)) (hw _ (List.mem_of_getElem? (i := 100) rfl)) (by decide) (by decide)) q10a q10b q10c (g := (mkF m 40 #[.val (.ref s_), .val (.int pz), .val (.int xx), .val (.int kq)] [(.int (1 : Int32)), (.ref s_)])) rfl (by rw [hml]; rfl) (Steps.refl _) (argsL := [(.int (1 : Int32))]) (rest := []) (lenOf own_runok_pd1 rfl) rfl (by show 2 * 0 + _ ≤ _; exact Nat.le_of_eq rfl) (hb hby own_runok_d40) (fun _ _ => ⟨rfl, R8, (by decide : 0 + 0 ≤ _), (by decide : 0 + 0 ≤ _)⟩)
    dsimp only [Pt.U, Pt.locs, Pt.cells, Pt.slots] at X10 l10 y10 z10 st10 hQ10
    obtain rfl : k10 = 0 := y10
    obtain rfl : n10 = 0 := z10
    obtain ⟨bb_10, rfl, N10q, R10, P12, P13⟩ := hQ10
    have N10 : Fr n0 L10 := l10 ▸ Fr.app N8 N10q
    refine ownStep (fun _ k => st10.trans k) ?_
    rw [R10] at P12
    rw [R10] at P13
    show ownGo p.tables e below (T10.setTop (mkF m 45 #[.val (.ref s_), .val (.int pz), .val (.int xx), .val (.int kq)] [(.ref bb_10)])) _
    obtain ⟨T14, X14, e14, st14⟩ := castY X10 hx hZ hown (hw _ (List.mem_of_getElem? (i := 175) rfl)) R10 (Ins.self P12) (g := (mkF m 45 #[.val (.ref s_), .val (.int pz), .val (.int xx), .val (.int kq)] [(.ref bb_10)])) rfl rfl (hb hby own_runok_d45)
    refine ownStep st14 ?_
    show ownGo p.tables e below (T14.setTop (mkF m 48 #[.val (.ref s_), .val (.int pz), .val (.int xx), .val (.int kq)] [(.ref bb_10)])) _
    have Zs16 : n0 ≤ h0.size := Nat.le_trans Z0 KP0.1
    obtain ⟨cq15, kq15, q15a, q15b, q15c⟩ := isOf hZ e14 P12
    obtain ⟨_, _, ⟨T15, L15, k15, n15⟩, -, X15, ⟨Lc15, hQ15, l15, y15, z15⟩, st15⟩ := X14.virtualBack hx (y := (⟨"java/lang/Integer", "intValue", "()I"⟩ : MethodName)) (z := (⟨"java/lang/Integer", "intValue", "()I"⟩ : MethodName)) hown (mvT hZ (hw _ (List.mem_of_getElem? (i := 177) rfl))) (mvT hZ (hw _ (List.mem_of_getElem? (i := 178) rfl))) (notFace_of_selects (args := #[]) (mvT hZ (hw _ (List.mem_of_getElem? (i := 180) rfl)))) (mvT hZ (hw _ (List.mem_of_getElem? (i := 180) rfl))) (mvT hZ (hw _ (List.mem_of_getElem? (i := 179) rfl))) (by decide) (backOf (W := 0) (own_iv l Z a0 hw [] bb_10 (xx + (oo + (1 : Int32))) h0 n0 Zs16 P13) hZ (hw _ (List.mem_of_getElem? (i := 181) rfl)) (hw _ (List.mem_of_getElem? (i := 52) rfl)) (by decide) (by decide)) q15a q15c (g := (mkF m 48 #[.val (.ref s_), .val (.int pz), .val (.int xx), .val (.int kq)] [(.ref bb_10)])) rfl (by rw [hml]; rfl) (Steps.refl _) (argsL := []) (rest := []) (lenOf own_runok_pd0 rfl) rfl (by show 2 * 0 + _ ≤ _; exact Nat.le_of_eq rfl) (hb hby own_runok_d48) (fun _ _ => ⟨rfl, e14, (by decide : 0 + 0 ≤ _), (by decide : 0 + 0 ≤ _)⟩)
    dsimp only [Pt.U, Pt.locs, Pt.cells, Pt.slots] at X15 l15 y15 z15 st15 hQ15
    obtain rfl : k15 = 0 := y15
    obtain rfl : n15 = 0 := z15
    obtain ⟨rfl, N15q, R15⟩ := hQ15
    have N15 : Fr n0 L15 := l15 ▸ Fr.app N10 N15q
    refine ownStep (fun _ k => st15.trans k) ?_
    refine ownStep (fun _ k => XS.iloadN X15.here hx rfl (hb hby own_runok_d51) rfl  k) ?_
    refine ownStep (fun _ k => XS.iloadN X15.here hx rfl (hb hby own_runok_d52) rfl  k) ?_
    refine ownStep (fun _ k => XS.iadd X15.here hx rfl (hb hby own_runok_d53) rfl k) ?_
    refine ownStep (fun _ k => XS.iconst X15.here hx rfl (hb hby own_runok_d54) k) ?_
    show ownGo p.tables e below (T15.setTop (mkF m 55 #[.val (.ref s_), .val (.int pz), .val (.int xx), .val (.int kq)] [(.int (1 : Int32)), (.int (xx + pz)), (.int (xx + (oo + (1 : Int32))))])) _
    refine ownStep (fun _ k => XS.iadd X15.here hx rfl (hb hby own_runok_d55) rfl k) ?_
    refine ownStep (fun _ k => XS.icmpYes X15.here hx rfl (pc0 := 56) (pc' := 61) rfl (hb hby own_runok_d56) rfl (teq ((by rw [hpz]; exact (Int32.add_assoc _ _ _).symm) : (xx + (oo + (1 : Int32))) = ((xx + pz) + (1 : Int32)))).1 (by decide) (by decide) k) ?_
    refine ownStep (fun _ k => XS.iconst X15.here hx rfl (hb hby own_runok_d61) k) ?_
    refine ownStep (fun _ k => XS.iloadN X15.here hx rfl (hb hby own_runok_d62) rfl  k) ?_
    show ownGo p.tables e below (T15.setTop (mkF m 63 #[.val (.ref s_), .val (.int pz), .val (.int xx), .val (.int kq)] [(.int kq), (.int (2 : Int32))])) _
    by_cases hk2 : (2 : Int32) < kq
    · skip
      refine ownStep (fun _ k => XS.icmpNo X15.here hx rfl (hb hby own_runok_d63) rfl (tlt (hk2 : (2 : Int32) < kq)).2.1 k) ?_
      refine ownStep (fun _ k => XS.aloadN X15.here hx rfl (hb hby own_runok_d66) rfl rfl k) ?_
      refine ownStep (fun _ k => XS.iconst X15.here hx rfl (hb hby own_runok_d67) k) ?_
      show ownGo p.tables e below (T15.setTop (mkF m 68 #[.val (.ref s_), .val (.int pz), .val (.int xx), .val (.int kq)] [(.int (2 : Int32)), (.ref s_)])) _
      have Zs18 : n0 ≤ h0.size := Nat.le_trans Z0 KP0.1
      obtain ⟨cq17, kq17, q17a, q17b, q17c⟩ := isOf hZ R15 E
      obtain ⟨_, _, ⟨T17, L17, k17, n17⟩, -, X17, ⟨Lc17, hQ17, l17, y17, z17⟩, st17⟩ := X15.interfaceBack hx (xi := (⟨"java/util/List", "get", "(I)Ljava/lang/Object;"⟩ : MethodName)) (y := (⟨"java/util/ArrayList$SubList", "get", "(I)Ljava/lang/Object;"⟩ : MethodName)) hown (mvT hZ (hw _ (List.mem_of_getElem? (i := 131) rfl))) (mvT hZ (hw _ (List.mem_of_getElem? (i := 132) rfl))) (mvT hZ (hw _ (List.mem_of_getElem? (i := 133) rfl))) (mvT hZ (hw _ (List.mem_of_getElem? (i := 168) rfl))) (mvT hZ (hw _ (List.mem_of_getElem? (i := 169) rfl))) (mvT hZ (hw _ (List.mem_of_getElem? (i := 170) rfl))) (mvT hZ (hw _ (List.mem_of_getElem? (i := 171) rfl))) (mvT hZ (hw _ (List.mem_of_getElem? (i := 153) rfl))) (by decide) (backOf (W := 0) (own_sget l Z a0 hw [] s_ a dd cl nn mc xx oo kq (2 : Int32) h0 n0 Zs18 E Sr So Ss Sm Ea Fe Fm A hsz HB (by decide) hk2 (own_jl (by decide) hk2 ku ol hn7) (own_ju (by decide) hk2 ku ol hn7) hn7) hZ (hw _ (List.mem_of_getElem? (i := 172) rfl)) (hw _ (List.mem_of_getElem? (i := 100) rfl)) (by decide) (by decide)) q17a q17b q17c (g := (mkF m 68 #[.val (.ref s_), .val (.int pz), .val (.int xx), .val (.int kq)] [(.int (2 : Int32)), (.ref s_)])) rfl (by rw [hml]; rfl) (Steps.refl _) (argsL := [(.int (2 : Int32))]) (rest := []) (lenOf own_runok_pd1 rfl) rfl (by show 2 * 0 + _ ≤ _; exact Nat.le_of_eq rfl) (hb hby own_runok_d68) (fun _ _ => ⟨rfl, R15, (by decide : 0 + 0 ≤ _), (by decide : 0 + 0 ≤ _)⟩)
      dsimp only [Pt.U, Pt.locs, Pt.cells, Pt.slots] at X17 l17 y17 z17 st17 hQ17
      obtain rfl : k17 = 0 := y17
      obtain rfl : n17 = 0 := z17
      obtain ⟨bb_17, rfl, N17q, R17, P19, P20⟩ := hQ17
      have N17 : Fr n0 L17 := l17 ▸ Fr.app N15 N17q
      refine ownStep (fun _ k => st17.trans k) ?_
      rw [R17] at P19
      rw [R17] at P20
      show ownGo p.tables e below (T17.setTop (mkF m 73 #[.val (.ref s_), .val (.int pz), .val (.int xx), .val (.int kq)] [(.ref bb_17)])) _
      obtain ⟨T21, X21, e21, st21⟩ := castY X17 hx hZ hown (hw _ (List.mem_of_getElem? (i := 175) rfl)) R17 (Ins.self P19) (g := (mkF m 73 #[.val (.ref s_), .val (.int pz), .val (.int xx), .val (.int kq)] [(.ref bb_17)])) rfl rfl (hb hby own_runok_d73)
      refine ownStep st21 ?_
      show ownGo p.tables e below (T21.setTop (mkF m 76 #[.val (.ref s_), .val (.int pz), .val (.int xx), .val (.int kq)] [(.ref bb_17)])) _
      have Zs23 : n0 ≤ h0.size := Nat.le_trans Z0 KP0.1
      obtain ⟨cq22, kq22, q22a, q22b, q22c⟩ := isOf hZ e21 P19
      obtain ⟨_, _, ⟨T22, L22, k22, n22⟩, -, X22, ⟨Lc22, hQ22, l22, y22, z22⟩, st22⟩ := X21.virtualBack hx (y := (⟨"java/lang/Integer", "intValue", "()I"⟩ : MethodName)) (z := (⟨"java/lang/Integer", "intValue", "()I"⟩ : MethodName)) hown (mvT hZ (hw _ (List.mem_of_getElem? (i := 177) rfl))) (mvT hZ (hw _ (List.mem_of_getElem? (i := 178) rfl))) (notFace_of_selects (args := #[]) (mvT hZ (hw _ (List.mem_of_getElem? (i := 180) rfl)))) (mvT hZ (hw _ (List.mem_of_getElem? (i := 180) rfl))) (mvT hZ (hw _ (List.mem_of_getElem? (i := 179) rfl))) (by decide) (backOf (W := 0) (own_iv l Z a0 hw [] bb_17 (xx + (oo + (2 : Int32))) h0 n0 Zs23 P20) hZ (hw _ (List.mem_of_getElem? (i := 181) rfl)) (hw _ (List.mem_of_getElem? (i := 52) rfl)) (by decide) (by decide)) q22a q22c (g := (mkF m 76 #[.val (.ref s_), .val (.int pz), .val (.int xx), .val (.int kq)] [(.ref bb_17)])) rfl (by rw [hml]; rfl) (Steps.refl _) (argsL := []) (rest := []) (lenOf own_runok_pd0 rfl) rfl (by show 2 * 0 + _ ≤ _; exact Nat.le_of_eq rfl) (hb hby own_runok_d76) (fun _ _ => ⟨rfl, e21, (by decide : 0 + 0 ≤ _), (by decide : 0 + 0 ≤ _)⟩)
      dsimp only [Pt.U, Pt.locs, Pt.cells, Pt.slots] at X22 l22 y22 z22 st22 hQ22
      obtain rfl : k22 = 0 := y22
      obtain rfl : n22 = 0 := z22
      obtain ⟨rfl, N22q, R22⟩ := hQ22
      have N22 : Fr n0 L22 := l22 ▸ Fr.app N17 N22q
      refine ownStep (fun _ k => st22.trans k) ?_
      refine ownStep (fun _ k => XS.iloadN X22.here hx rfl (hb hby own_runok_d79) rfl  k) ?_
      refine ownStep (fun _ k => XS.iloadN X22.here hx rfl (hb hby own_runok_d80) rfl  k) ?_
      refine ownStep (fun _ k => XS.iadd X22.here hx rfl (hb hby own_runok_d81) rfl k) ?_
      refine ownStep (fun _ k => XS.iconst X22.here hx rfl (hb hby own_runok_d82) k) ?_
      show ownGo p.tables e below (T22.setTop (mkF m 83 #[.val (.ref s_), .val (.int pz), .val (.int xx), .val (.int kq)] [(.int (2 : Int32)), (.int (xx + pz)), (.int (xx + (oo + (2 : Int32))))])) _
      refine ownStep (fun _ k => XS.iadd X22.here hx rfl (hb hby own_runok_d83) rfl k) ?_
      refine ownStep (fun _ k => XS.icmpYes X22.here hx rfl (pc0 := 84) (pc' := 89) rfl (hb hby own_runok_d84) rfl (teq ((by rw [hpz]; exact (Int32.add_assoc _ _ _).symm) : (xx + (oo + (2 : Int32))) = ((xx + pz) + (2 : Int32)))).1 (by decide) (by decide) k) ?_
      refine ownStep (fun _ k => XS.iconst X22.here hx rfl (hb hby own_runok_d89) k) ?_
      refine ownStep (fun _ k => XS.iloadN X22.here hx rfl (hb hby own_runok_d90) rfl  k) ?_
      show ownGo p.tables e below (T22.setTop (mkF m 91 #[.val (.ref s_), .val (.int pz), .val (.int xx), .val (.int kq)] [(.int kq), (.int (3 : Int32))])) _
      by_cases hk3 : (3 : Int32) < kq
      · skip
        refine ownStep (fun _ k => XS.icmpNo X22.here hx rfl (hb hby own_runok_d91) rfl (tlt (hk3 : (3 : Int32) < kq)).2.1 k) ?_
        refine ownStep (fun _ k => XS.aloadN X22.here hx rfl (hb hby own_runok_d94) rfl rfl k) ?_
        refine ownStep (fun _ k => XS.iconst X22.here hx rfl (hb hby own_runok_d95) k) ?_
        show ownGo p.tables e below (T22.setTop (mkF m 96 #[.val (.ref s_), .val (.int pz), .val (.int xx), .val (.int kq)] [(.int (3 : Int32)), (.ref s_)])) _
        have Zs25 : n0 ≤ h0.size := Nat.le_trans Z0 KP0.1
        obtain ⟨cq24, kq24, q24a, q24b, q24c⟩ := isOf hZ R22 E
        obtain ⟨_, _, ⟨T24, L24, k24, n24⟩, -, X24, ⟨Lc24, hQ24, l24, y24, z24⟩, st24⟩ := X22.interfaceBack hx (xi := (⟨"java/util/List", "get", "(I)Ljava/lang/Object;"⟩ : MethodName)) (y := (⟨"java/util/ArrayList$SubList", "get", "(I)Ljava/lang/Object;"⟩ : MethodName)) hown (mvT hZ (hw _ (List.mem_of_getElem? (i := 131) rfl))) (mvT hZ (hw _ (List.mem_of_getElem? (i := 132) rfl))) (mvT hZ (hw _ (List.mem_of_getElem? (i := 133) rfl))) (mvT hZ (hw _ (List.mem_of_getElem? (i := 168) rfl))) (mvT hZ (hw _ (List.mem_of_getElem? (i := 169) rfl))) (mvT hZ (hw _ (List.mem_of_getElem? (i := 170) rfl))) (mvT hZ (hw _ (List.mem_of_getElem? (i := 171) rfl))) (mvT hZ (hw _ (List.mem_of_getElem? (i := 153) rfl))) (by decide) (backOf (W := 0) (own_sget l Z a0 hw [] s_ a dd cl nn mc xx oo kq (3 : Int32) h0 n0 Zs25 E Sr So Ss Sm Ea Fe Fm A hsz HB (by decide) hk3 (own_jl (by decide) hk3 ku ol hn7) (own_ju (by decide) hk3 ku ol hn7) hn7) hZ (hw _ (List.mem_of_getElem? (i := 172) rfl)) (hw _ (List.mem_of_getElem? (i := 100) rfl)) (by decide) (by decide)) q24a q24b q24c (g := (mkF m 96 #[.val (.ref s_), .val (.int pz), .val (.int xx), .val (.int kq)] [(.int (3 : Int32)), (.ref s_)])) rfl (by rw [hml]; rfl) (Steps.refl _) (argsL := [(.int (3 : Int32))]) (rest := []) (lenOf own_runok_pd1 rfl) rfl (by show 2 * 0 + _ ≤ _; exact Nat.le_of_eq rfl) (hb hby own_runok_d96) (fun _ _ => ⟨rfl, R22, (by decide : 0 + 0 ≤ _), (by decide : 0 + 0 ≤ _)⟩)
        dsimp only [Pt.U, Pt.locs, Pt.cells, Pt.slots] at X24 l24 y24 z24 st24 hQ24
        obtain rfl : k24 = 0 := y24
        obtain rfl : n24 = 0 := z24
        obtain ⟨bb_24, rfl, N24q, R24, P26, P27⟩ := hQ24
        have N24 : Fr n0 L24 := l24 ▸ Fr.app N22 N24q
        refine ownStep (fun _ k => st24.trans k) ?_
        rw [R24] at P26
        rw [R24] at P27
        show ownGo p.tables e below (T24.setTop (mkF m 101 #[.val (.ref s_), .val (.int pz), .val (.int xx), .val (.int kq)] [(.ref bb_24)])) _
        obtain ⟨T28, X28, e28, st28⟩ := castY X24 hx hZ hown (hw _ (List.mem_of_getElem? (i := 175) rfl)) R24 (Ins.self P26) (g := (mkF m 101 #[.val (.ref s_), .val (.int pz), .val (.int xx), .val (.int kq)] [(.ref bb_24)])) rfl rfl (hb hby own_runok_d101)
        refine ownStep st28 ?_
        show ownGo p.tables e below (T28.setTop (mkF m 104 #[.val (.ref s_), .val (.int pz), .val (.int xx), .val (.int kq)] [(.ref bb_24)])) _
        have Zs30 : n0 ≤ h0.size := Nat.le_trans Z0 KP0.1
        obtain ⟨cq29, kq29, q29a, q29b, q29c⟩ := isOf hZ e28 P26
        obtain ⟨_, _, ⟨T29, L29, k29, n29⟩, -, X29, ⟨Lc29, hQ29, l29, y29, z29⟩, st29⟩ := X28.virtualBack hx (y := (⟨"java/lang/Integer", "intValue", "()I"⟩ : MethodName)) (z := (⟨"java/lang/Integer", "intValue", "()I"⟩ : MethodName)) hown (mvT hZ (hw _ (List.mem_of_getElem? (i := 177) rfl))) (mvT hZ (hw _ (List.mem_of_getElem? (i := 178) rfl))) (notFace_of_selects (args := #[]) (mvT hZ (hw _ (List.mem_of_getElem? (i := 180) rfl)))) (mvT hZ (hw _ (List.mem_of_getElem? (i := 180) rfl))) (mvT hZ (hw _ (List.mem_of_getElem? (i := 179) rfl))) (by decide) (backOf (W := 0) (own_iv l Z a0 hw [] bb_24 (xx + (oo + (3 : Int32))) h0 n0 Zs30 P27) hZ (hw _ (List.mem_of_getElem? (i := 181) rfl)) (hw _ (List.mem_of_getElem? (i := 52) rfl)) (by decide) (by decide)) q29a q29c (g := (mkF m 104 #[.val (.ref s_), .val (.int pz), .val (.int xx), .val (.int kq)] [(.ref bb_24)])) rfl (by rw [hml]; rfl) (Steps.refl _) (argsL := []) (rest := []) (lenOf own_runok_pd0 rfl) rfl (by show 2 * 0 + _ ≤ _; exact Nat.le_of_eq rfl) (hb hby own_runok_d104) (fun _ _ => ⟨rfl, e28, (by decide : 0 + 0 ≤ _), (by decide : 0 + 0 ≤ _)⟩)
        dsimp only [Pt.U, Pt.locs, Pt.cells, Pt.slots] at X29 l29 y29 z29 st29 hQ29
        obtain rfl : k29 = 0 := y29
        obtain rfl : n29 = 0 := z29
        obtain ⟨rfl, N29q, R29⟩ := hQ29
        have N29 : Fr n0 L29 := l29 ▸ Fr.app N24 N29q
        refine ownStep (fun _ k => st29.trans k) ?_
        refine ownStep (fun _ k => XS.iloadN X29.here hx rfl (hb hby own_runok_d107) rfl  k) ?_
        refine ownStep (fun _ k => XS.iloadN X29.here hx rfl (hb hby own_runok_d108) rfl  k) ?_
        refine ownStep (fun _ k => XS.iadd X29.here hx rfl (hb hby own_runok_d109) rfl k) ?_
        refine ownStep (fun _ k => XS.iconst X29.here hx rfl (hb hby own_runok_d110) k) ?_
        show ownGo p.tables e below (T29.setTop (mkF m 111 #[.val (.ref s_), .val (.int pz), .val (.int xx), .val (.int kq)] [(.int (3 : Int32)), (.int (xx + pz)), (.int (xx + (oo + (3 : Int32))))])) _
        refine ownStep (fun _ k => XS.iadd X29.here hx rfl (hb hby own_runok_d111) rfl k) ?_
        refine ownStep (fun _ k => XS.icmpYes X29.here hx rfl (pc0 := 112) (pc' := 117) rfl (hb hby own_runok_d112) rfl (teq ((by rw [hpz]; exact (Int32.add_assoc _ _ _).symm) : (xx + (oo + (3 : Int32))) = ((xx + pz) + (3 : Int32)))).1 (by decide) (by decide) k) ?_
        refine ownStep (fun _ k => XS.iconst X29.here hx rfl (hb hby own_runok_d117) k) ?_
        refine ownStep (fun _ k => XS.iloadN X29.here hx rfl (hb hby own_runok_d118) rfl  k) ?_
        show ownGo p.tables e below (T29.setTop (mkF m 119 #[.val (.ref s_), .val (.int pz), .val (.int xx), .val (.int kq)] [(.int kq), (.int (4 : Int32))])) _
        by_cases hk4 : (4 : Int32) < kq
        · skip
          refine ownStep (fun _ k => XS.icmpNo X29.here hx rfl (hb hby own_runok_d119) rfl (tlt (hk4 : (4 : Int32) < kq)).2.1 k) ?_
          refine ownStep (fun _ k => XS.aloadN X29.here hx rfl (hb hby own_runok_d122) rfl rfl k) ?_
          refine ownStep (fun _ k => XS.iconst X29.here hx rfl (hb hby own_runok_d123) k) ?_
          show ownGo p.tables e below (T29.setTop (mkF m 124 #[.val (.ref s_), .val (.int pz), .val (.int xx), .val (.int kq)] [(.int (4 : Int32)), (.ref s_)])) _
          have Zs32 : n0 ≤ h0.size := Nat.le_trans Z0 KP0.1
          obtain ⟨cq31, kq31, q31a, q31b, q31c⟩ := isOf hZ R29 E
          obtain ⟨_, _, ⟨T31, L31, k31, n31⟩, -, X31, ⟨Lc31, hQ31, l31, y31, z31⟩, st31⟩ := X29.interfaceBack hx (xi := (⟨"java/util/List", "get", "(I)Ljava/lang/Object;"⟩ : MethodName)) (y := (⟨"java/util/ArrayList$SubList", "get", "(I)Ljava/lang/Object;"⟩ : MethodName)) hown (mvT hZ (hw _ (List.mem_of_getElem? (i := 131) rfl))) (mvT hZ (hw _ (List.mem_of_getElem? (i := 132) rfl))) (mvT hZ (hw _ (List.mem_of_getElem? (i := 133) rfl))) (mvT hZ (hw _ (List.mem_of_getElem? (i := 168) rfl))) (mvT hZ (hw _ (List.mem_of_getElem? (i := 169) rfl))) (mvT hZ (hw _ (List.mem_of_getElem? (i := 170) rfl))) (mvT hZ (hw _ (List.mem_of_getElem? (i := 171) rfl))) (mvT hZ (hw _ (List.mem_of_getElem? (i := 153) rfl))) (by decide) (backOf (W := 0) (own_sget l Z a0 hw [] s_ a dd cl nn mc xx oo kq (4 : Int32) h0 n0 Zs32 E Sr So Ss Sm Ea Fe Fm A hsz HB (by decide) hk4 (own_jl (by decide) hk4 ku ol hn7) (own_ju (by decide) hk4 ku ol hn7) hn7) hZ (hw _ (List.mem_of_getElem? (i := 172) rfl)) (hw _ (List.mem_of_getElem? (i := 100) rfl)) (by decide) (by decide)) q31a q31b q31c (g := (mkF m 124 #[.val (.ref s_), .val (.int pz), .val (.int xx), .val (.int kq)] [(.int (4 : Int32)), (.ref s_)])) rfl (by rw [hml]; rfl) (Steps.refl _) (argsL := [(.int (4 : Int32))]) (rest := []) (lenOf own_runok_pd1 rfl) rfl (by show 2 * 0 + _ ≤ _; exact Nat.le_of_eq rfl) (hb hby own_runok_d124) (fun _ _ => ⟨rfl, R29, (by decide : 0 + 0 ≤ _), (by decide : 0 + 0 ≤ _)⟩)
          dsimp only [Pt.U, Pt.locs, Pt.cells, Pt.slots] at X31 l31 y31 z31 st31 hQ31
          obtain rfl : k31 = 0 := y31
          obtain rfl : n31 = 0 := z31
          obtain ⟨bb_31, rfl, N31q, R31, P33, P34⟩ := hQ31
          have N31 : Fr n0 L31 := l31 ▸ Fr.app N29 N31q
          refine ownStep (fun _ k => st31.trans k) ?_
          rw [R31] at P33
          rw [R31] at P34
          show ownGo p.tables e below (T31.setTop (mkF m 129 #[.val (.ref s_), .val (.int pz), .val (.int xx), .val (.int kq)] [(.ref bb_31)])) _
          obtain ⟨T35, X35, e35, st35⟩ := castY X31 hx hZ hown (hw _ (List.mem_of_getElem? (i := 175) rfl)) R31 (Ins.self P33) (g := (mkF m 129 #[.val (.ref s_), .val (.int pz), .val (.int xx), .val (.int kq)] [(.ref bb_31)])) rfl rfl (hb hby own_runok_d129)
          refine ownStep st35 ?_
          show ownGo p.tables e below (T35.setTop (mkF m 132 #[.val (.ref s_), .val (.int pz), .val (.int xx), .val (.int kq)] [(.ref bb_31)])) _
          have Zs37 : n0 ≤ h0.size := Nat.le_trans Z0 KP0.1
          obtain ⟨cq36, kq36, q36a, q36b, q36c⟩ := isOf hZ e35 P33
          obtain ⟨_, _, ⟨T36, L36, k36, n36⟩, -, X36, ⟨Lc36, hQ36, l36, y36, z36⟩, st36⟩ := X35.virtualBack hx (y := (⟨"java/lang/Integer", "intValue", "()I"⟩ : MethodName)) (z := (⟨"java/lang/Integer", "intValue", "()I"⟩ : MethodName)) hown (mvT hZ (hw _ (List.mem_of_getElem? (i := 177) rfl))) (mvT hZ (hw _ (List.mem_of_getElem? (i := 178) rfl))) (notFace_of_selects (args := #[]) (mvT hZ (hw _ (List.mem_of_getElem? (i := 180) rfl)))) (mvT hZ (hw _ (List.mem_of_getElem? (i := 180) rfl))) (mvT hZ (hw _ (List.mem_of_getElem? (i := 179) rfl))) (by decide) (backOf (W := 0) (own_iv l Z a0 hw [] bb_31 (xx + (oo + (4 : Int32))) h0 n0 Zs37 P34) hZ (hw _ (List.mem_of_getElem? (i := 181) rfl)) (hw _ (List.mem_of_getElem? (i := 52) rfl)) (by decide) (by decide)) q36a q36c (g := (mkF m 132 #[.val (.ref s_), .val (.int pz), .val (.int xx), .val (.int kq)] [(.ref bb_31)])) rfl (by rw [hml]; rfl) (Steps.refl _) (argsL := []) (rest := []) (lenOf own_runok_pd0 rfl) rfl (by show 2 * 0 + _ ≤ _; exact Nat.le_of_eq rfl) (hb hby own_runok_d132) (fun _ _ => ⟨rfl, e35, (by decide : 0 + 0 ≤ _), (by decide : 0 + 0 ≤ _)⟩)
          dsimp only [Pt.U, Pt.locs, Pt.cells, Pt.slots] at X36 l36 y36 z36 st36 hQ36
          obtain rfl : k36 = 0 := y36
          obtain rfl : n36 = 0 := z36
          obtain ⟨rfl, N36q, R36⟩ := hQ36
          have N36 : Fr n0 L36 := l36 ▸ Fr.app N31 N36q
          refine ownStep (fun _ k => st36.trans k) ?_
          refine ownStep (fun _ k => XS.iloadN X36.here hx rfl (hb hby own_runok_d135) rfl  k) ?_
          refine ownStep (fun _ k => XS.iloadN X36.here hx rfl (hb hby own_runok_d136) rfl  k) ?_
          refine ownStep (fun _ k => XS.iadd X36.here hx rfl (hb hby own_runok_d137) rfl k) ?_
          refine ownStep (fun _ k => XS.iconst X36.here hx rfl (hb hby own_runok_d138) k) ?_
          show ownGo p.tables e below (T36.setTop (mkF m 139 #[.val (.ref s_), .val (.int pz), .val (.int xx), .val (.int kq)] [(.int (4 : Int32)), (.int (xx + pz)), (.int (xx + (oo + (4 : Int32))))])) _
          refine ownStep (fun _ k => XS.iadd X36.here hx rfl (hb hby own_runok_d139) rfl k) ?_
          refine ownStep (fun _ k => XS.icmpYes X36.here hx rfl (pc0 := 140) (pc' := 145) rfl (hb hby own_runok_d140) rfl (teq ((by rw [hpz]; exact (Int32.add_assoc _ _ _).symm) : (xx + (oo + (4 : Int32))) = ((xx + pz) + (4 : Int32)))).1 (by decide) (by decide) k) ?_
          refine ownStep (fun _ k => XS.iconst X36.here hx rfl (hb hby own_runok_d145) k) ?_
          refine ownStep (fun _ k => XS.iloadN X36.here hx rfl (hb hby own_runok_d146) rfl  k) ?_
          show ownGo p.tables e below (T36.setTop (mkF m 147 #[.val (.ref s_), .val (.int pz), .val (.int xx), .val (.int kq)] [(.int kq), (.int (5 : Int32))])) _
          by_cases hk5 : (5 : Int32) < kq
          · skip
            refine ownStep (fun _ k => XS.icmpNo X36.here hx rfl (hb hby own_runok_d147) rfl (tlt (hk5 : (5 : Int32) < kq)).2.1 k) ?_
            refine ownStep (fun _ k => XS.aloadN X36.here hx rfl (hb hby own_runok_d150) rfl rfl k) ?_
            refine ownStep (fun _ k => XS.iconst X36.here hx rfl (hb hby own_runok_d151) k) ?_
            show ownGo p.tables e below (T36.setTop (mkF m 152 #[.val (.ref s_), .val (.int pz), .val (.int xx), .val (.int kq)] [(.int (5 : Int32)), (.ref s_)])) _
            have Zs39 : n0 ≤ h0.size := Nat.le_trans Z0 KP0.1
            obtain ⟨cq38, kq38, q38a, q38b, q38c⟩ := isOf hZ R36 E
            obtain ⟨_, _, ⟨T38, L38, k38, n38⟩, -, X38, ⟨Lc38, hQ38, l38, y38, z38⟩, st38⟩ := X36.interfaceBack hx (xi := (⟨"java/util/List", "get", "(I)Ljava/lang/Object;"⟩ : MethodName)) (y := (⟨"java/util/ArrayList$SubList", "get", "(I)Ljava/lang/Object;"⟩ : MethodName)) hown (mvT hZ (hw _ (List.mem_of_getElem? (i := 131) rfl))) (mvT hZ (hw _ (List.mem_of_getElem? (i := 132) rfl))) (mvT hZ (hw _ (List.mem_of_getElem? (i := 133) rfl))) (mvT hZ (hw _ (List.mem_of_getElem? (i := 168) rfl))) (mvT hZ (hw _ (List.mem_of_getElem? (i := 169) rfl))) (mvT hZ (hw _ (List.mem_of_getElem? (i := 170) rfl))) (mvT hZ (hw _ (List.mem_of_getElem? (i := 171) rfl))) (mvT hZ (hw _ (List.mem_of_getElem? (i := 153) rfl))) (by decide) (backOf (W := 0) (own_sget l Z a0 hw [] s_ a dd cl nn mc xx oo kq (5 : Int32) h0 n0 Zs39 E Sr So Ss Sm Ea Fe Fm A hsz HB (by decide) hk5 (own_jl (by decide) hk5 ku ol hn7) (own_ju (by decide) hk5 ku ol hn7) hn7) hZ (hw _ (List.mem_of_getElem? (i := 172) rfl)) (hw _ (List.mem_of_getElem? (i := 100) rfl)) (by decide) (by decide)) q38a q38b q38c (g := (mkF m 152 #[.val (.ref s_), .val (.int pz), .val (.int xx), .val (.int kq)] [(.int (5 : Int32)), (.ref s_)])) rfl (by rw [hml]; rfl) (Steps.refl _) (argsL := [(.int (5 : Int32))]) (rest := []) (lenOf own_runok_pd1 rfl) rfl (by show 2 * 0 + _ ≤ _; exact Nat.le_of_eq rfl) (hb hby own_runok_d152) (fun _ _ => ⟨rfl, R36, (by decide : 0 + 0 ≤ _), (by decide : 0 + 0 ≤ _)⟩)
            dsimp only [Pt.U, Pt.locs, Pt.cells, Pt.slots] at X38 l38 y38 z38 st38 hQ38
            obtain rfl : k38 = 0 := y38
            obtain rfl : n38 = 0 := z38
            obtain ⟨bb_38, rfl, N38q, R38, P40, P41⟩ := hQ38
            have N38 : Fr n0 L38 := l38 ▸ Fr.app N36 N38q
            refine ownStep (fun _ k => st38.trans k) ?_
            rw [R38] at P40
            rw [R38] at P41
            show ownGo p.tables e below (T38.setTop (mkF m 157 #[.val (.ref s_), .val (.int pz), .val (.int xx), .val (.int kq)] [(.ref bb_38)])) _
            obtain ⟨T42, X42, e42, st42⟩ := castY X38 hx hZ hown (hw _ (List.mem_of_getElem? (i := 175) rfl)) R38 (Ins.self P40) (g := (mkF m 157 #[.val (.ref s_), .val (.int pz), .val (.int xx), .val (.int kq)] [(.ref bb_38)])) rfl rfl (hb hby own_runok_d157)
            refine ownStep st42 ?_
            show ownGo p.tables e below (T42.setTop (mkF m 160 #[.val (.ref s_), .val (.int pz), .val (.int xx), .val (.int kq)] [(.ref bb_38)])) _
            have Zs44 : n0 ≤ h0.size := Nat.le_trans Z0 KP0.1
            obtain ⟨cq43, kq43, q43a, q43b, q43c⟩ := isOf hZ e42 P40
            obtain ⟨_, _, ⟨T43, L43, k43, n43⟩, -, X43, ⟨Lc43, hQ43, l43, y43, z43⟩, st43⟩ := X42.virtualBack hx (y := (⟨"java/lang/Integer", "intValue", "()I"⟩ : MethodName)) (z := (⟨"java/lang/Integer", "intValue", "()I"⟩ : MethodName)) hown (mvT hZ (hw _ (List.mem_of_getElem? (i := 177) rfl))) (mvT hZ (hw _ (List.mem_of_getElem? (i := 178) rfl))) (notFace_of_selects (args := #[]) (mvT hZ (hw _ (List.mem_of_getElem? (i := 180) rfl)))) (mvT hZ (hw _ (List.mem_of_getElem? (i := 180) rfl))) (mvT hZ (hw _ (List.mem_of_getElem? (i := 179) rfl))) (by decide) (backOf (W := 0) (own_iv l Z a0 hw [] bb_38 (xx + (oo + (5 : Int32))) h0 n0 Zs44 P41) hZ (hw _ (List.mem_of_getElem? (i := 181) rfl)) (hw _ (List.mem_of_getElem? (i := 52) rfl)) (by decide) (by decide)) q43a q43c (g := (mkF m 160 #[.val (.ref s_), .val (.int pz), .val (.int xx), .val (.int kq)] [(.ref bb_38)])) rfl (by rw [hml]; rfl) (Steps.refl _) (argsL := []) (rest := []) (lenOf own_runok_pd0 rfl) rfl (by show 2 * 0 + _ ≤ _; exact Nat.le_of_eq rfl) (hb hby own_runok_d160) (fun _ _ => ⟨rfl, e42, (by decide : 0 + 0 ≤ _), (by decide : 0 + 0 ≤ _)⟩)
            dsimp only [Pt.U, Pt.locs, Pt.cells, Pt.slots] at X43 l43 y43 z43 st43 hQ43
            obtain rfl : k43 = 0 := y43
            obtain rfl : n43 = 0 := z43
            obtain ⟨rfl, N43q, R43⟩ := hQ43
            have N43 : Fr n0 L43 := l43 ▸ Fr.app N38 N43q
            refine ownStep (fun _ k => st43.trans k) ?_
            refine ownStep (fun _ k => XS.iloadN X43.here hx rfl (hb hby own_runok_d163) rfl  k) ?_
            refine ownStep (fun _ k => XS.iloadN X43.here hx rfl (hb hby own_runok_d164) rfl  k) ?_
            refine ownStep (fun _ k => XS.iadd X43.here hx rfl (hb hby own_runok_d165) rfl k) ?_
            refine ownStep (fun _ k => XS.iconst X43.here hx rfl (hb hby own_runok_d166) k) ?_
            show ownGo p.tables e below (T43.setTop (mkF m 167 #[.val (.ref s_), .val (.int pz), .val (.int xx), .val (.int kq)] [(.int (5 : Int32)), (.int (xx + pz)), (.int (xx + (oo + (5 : Int32))))])) _
            refine ownStep (fun _ k => XS.iadd X43.here hx rfl (hb hby own_runok_d167) rfl k) ?_
            refine ownStep (fun _ k => XS.icmpYes X43.here hx rfl (pc0 := 168) (pc' := 173) rfl (hb hby own_runok_d168) rfl (teq ((by rw [hpz]; exact (Int32.add_assoc _ _ _).symm) : (xx + (oo + (5 : Int32))) = ((xx + pz) + (5 : Int32)))).1 (by decide) (by decide) k) ?_
            refine ownStep (fun _ k => XS.bipush X43.here hx rfl (hb hby own_runok_d173) k) ?_
            refine ownStep (fun _ k => XS.iloadN X43.here hx rfl (hb hby own_runok_d175) rfl  k) ?_
            show ownGo p.tables e below (T43.setTop (mkF m 176 #[.val (.ref s_), .val (.int pz), .val (.int xx), .val (.int kq)] [(.int kq), (.int (6 : Int32))])) _
            by_cases hk6 : (6 : Int32) < kq
            · skip
              refine ownStep (fun _ k => XS.icmpNo X43.here hx rfl (hb hby own_runok_d176) rfl (tlt (hk6 : (6 : Int32) < kq)).2.1 k) ?_
              refine ownStep (fun _ k => XS.aloadN X43.here hx rfl (hb hby own_runok_d179) rfl rfl k) ?_
              refine ownStep (fun _ k => XS.bipush X43.here hx rfl (hb hby own_runok_d180) k) ?_
              show ownGo p.tables e below (T43.setTop (mkF m 182 #[.val (.ref s_), .val (.int pz), .val (.int xx), .val (.int kq)] [(.int (6 : Int32)), (.ref s_)])) _
              have Zs46 : n0 ≤ h0.size := Nat.le_trans Z0 KP0.1
              obtain ⟨cq45, kq45, q45a, q45b, q45c⟩ := isOf hZ R43 E
              obtain ⟨_, _, ⟨T45, L45, k45, n45⟩, -, X45, ⟨Lc45, hQ45, l45, y45, z45⟩, st45⟩ := X43.interfaceBack hx (xi := (⟨"java/util/List", "get", "(I)Ljava/lang/Object;"⟩ : MethodName)) (y := (⟨"java/util/ArrayList$SubList", "get", "(I)Ljava/lang/Object;"⟩ : MethodName)) hown (mvT hZ (hw _ (List.mem_of_getElem? (i := 131) rfl))) (mvT hZ (hw _ (List.mem_of_getElem? (i := 132) rfl))) (mvT hZ (hw _ (List.mem_of_getElem? (i := 133) rfl))) (mvT hZ (hw _ (List.mem_of_getElem? (i := 168) rfl))) (mvT hZ (hw _ (List.mem_of_getElem? (i := 169) rfl))) (mvT hZ (hw _ (List.mem_of_getElem? (i := 170) rfl))) (mvT hZ (hw _ (List.mem_of_getElem? (i := 171) rfl))) (mvT hZ (hw _ (List.mem_of_getElem? (i := 153) rfl))) (by decide) (backOf (W := 0) (own_sget l Z a0 hw [] s_ a dd cl nn mc xx oo kq (6 : Int32) h0 n0 Zs46 E Sr So Ss Sm Ea Fe Fm A hsz HB (by decide) hk6 (own_jl (by decide) hk6 ku ol hn7) (own_ju (by decide) hk6 ku ol hn7) hn7) hZ (hw _ (List.mem_of_getElem? (i := 172) rfl)) (hw _ (List.mem_of_getElem? (i := 100) rfl)) (by decide) (by decide)) q45a q45b q45c (g := (mkF m 182 #[.val (.ref s_), .val (.int pz), .val (.int xx), .val (.int kq)] [(.int (6 : Int32)), (.ref s_)])) rfl (by rw [hml]; rfl) (Steps.refl _) (argsL := [(.int (6 : Int32))]) (rest := []) (lenOf own_runok_pd1 rfl) rfl (by show 2 * 0 + _ ≤ _; exact Nat.le_of_eq rfl) (hb hby own_runok_d182) (fun _ _ => ⟨rfl, R43, (by decide : 0 + 0 ≤ _), (by decide : 0 + 0 ≤ _)⟩)
              dsimp only [Pt.U, Pt.locs, Pt.cells, Pt.slots] at X45 l45 y45 z45 st45 hQ45
              obtain rfl : k45 = 0 := y45
              obtain rfl : n45 = 0 := z45
              obtain ⟨bb_45, rfl, N45q, R45, P47, P48⟩ := hQ45
              have N45 : Fr n0 L45 := l45 ▸ Fr.app N43 N45q
              refine ownStep (fun _ k => st45.trans k) ?_
              rw [R45] at P47
              rw [R45] at P48
              show ownGo p.tables e below (T45.setTop (mkF m 187 #[.val (.ref s_), .val (.int pz), .val (.int xx), .val (.int kq)] [(.ref bb_45)])) _
              obtain ⟨T49, X49, e49, st49⟩ := castY X45 hx hZ hown (hw _ (List.mem_of_getElem? (i := 175) rfl)) R45 (Ins.self P47) (g := (mkF m 187 #[.val (.ref s_), .val (.int pz), .val (.int xx), .val (.int kq)] [(.ref bb_45)])) rfl rfl (hb hby own_runok_d187)
              refine ownStep st49 ?_
              show ownGo p.tables e below (T49.setTop (mkF m 190 #[.val (.ref s_), .val (.int pz), .val (.int xx), .val (.int kq)] [(.ref bb_45)])) _
              have Zs51 : n0 ≤ h0.size := Nat.le_trans Z0 KP0.1
              obtain ⟨cq50, kq50, q50a, q50b, q50c⟩ := isOf hZ e49 P47
              obtain ⟨_, _, ⟨T50, L50, k50, n50⟩, -, X50, ⟨Lc50, hQ50, l50, y50, z50⟩, st50⟩ := X49.virtualBack hx (y := (⟨"java/lang/Integer", "intValue", "()I"⟩ : MethodName)) (z := (⟨"java/lang/Integer", "intValue", "()I"⟩ : MethodName)) hown (mvT hZ (hw _ (List.mem_of_getElem? (i := 177) rfl))) (mvT hZ (hw _ (List.mem_of_getElem? (i := 178) rfl))) (notFace_of_selects (args := #[]) (mvT hZ (hw _ (List.mem_of_getElem? (i := 180) rfl)))) (mvT hZ (hw _ (List.mem_of_getElem? (i := 180) rfl))) (mvT hZ (hw _ (List.mem_of_getElem? (i := 179) rfl))) (by decide) (backOf (W := 0) (own_iv l Z a0 hw [] bb_45 (xx + (oo + (6 : Int32))) h0 n0 Zs51 P48) hZ (hw _ (List.mem_of_getElem? (i := 181) rfl)) (hw _ (List.mem_of_getElem? (i := 52) rfl)) (by decide) (by decide)) q50a q50c (g := (mkF m 190 #[.val (.ref s_), .val (.int pz), .val (.int xx), .val (.int kq)] [(.ref bb_45)])) rfl (by rw [hml]; rfl) (Steps.refl _) (argsL := []) (rest := []) (lenOf own_runok_pd0 rfl) rfl (by show 2 * 0 + _ ≤ _; exact Nat.le_of_eq rfl) (hb hby own_runok_d190) (fun _ _ => ⟨rfl, e49, (by decide : 0 + 0 ≤ _), (by decide : 0 + 0 ≤ _)⟩)
              dsimp only [Pt.U, Pt.locs, Pt.cells, Pt.slots] at X50 l50 y50 z50 st50 hQ50
              obtain rfl : k50 = 0 := y50
              obtain rfl : n50 = 0 := z50
              obtain ⟨rfl, N50q, R50⟩ := hQ50
              have N50 : Fr n0 L50 := l50 ▸ Fr.app N45 N50q
              refine ownStep (fun _ k => st50.trans k) ?_
              refine ownStep (fun _ k => XS.iloadN X50.here hx rfl (hb hby own_runok_d193) rfl  k) ?_
              refine ownStep (fun _ k => XS.iloadN X50.here hx rfl (hb hby own_runok_d194) rfl  k) ?_
              refine ownStep (fun _ k => XS.iadd X50.here hx rfl (hb hby own_runok_d195) rfl k) ?_
              refine ownStep (fun _ k => XS.bipush X50.here hx rfl (hb hby own_runok_d196) k) ?_
              show ownGo p.tables e below (T50.setTop (mkF m 198 #[.val (.ref s_), .val (.int pz), .val (.int xx), .val (.int kq)] [(.int (6 : Int32)), (.int (xx + pz)), (.int (xx + (oo + (6 : Int32))))])) _
              refine ownStep (fun _ k => XS.iadd X50.here hx rfl (hb hby own_runok_d198) rfl k) ?_
              refine ownStep (fun _ k => XS.icmpYes X50.here hx rfl (pc0 := 199) (pc' := 204) rfl (hb hby own_runok_d199) rfl (teq ((by rw [hpz]; exact (Int32.add_assoc _ _ _).symm) : (xx + (oo + (6 : Int32))) = ((xx + pz) + (6 : Int32)))).1 (by decide) (by decide) k) ?_
              refine ownStep (fun _ k => XS.bipush X50.here hx rfl (hb hby own_runok_d204) k) ?_
              refine ownStep (fun _ k => XS.iloadN X50.here hx rfl (hb hby own_runok_d206) rfl  k) ?_
              refine ownStep (fun _ k => XS.icmpYes X50.here hx rfl (pc0 := 207) (pc' := 212) rfl (hb hby own_runok_d207) rfl (flt ((own_k7 ku ol hn7) : ¬ (7 : Int32) < kq)).2.1 (by decide) (by decide) k) ?_
              show ownGo p.tables e below (T50.setTop (mkF m 212 #[.val (.ref s_), .val (.int pz), .val (.int xx), .val (.int kq)] [])) _
              refine ownStep (fun _ k => XS.iconst X50.here hx rfl (hb hby own_runok_d212) k) ?_
              show ownGo p.tables e below (T50.setTop (mkF m 213 #[.val (.ref s_), .val (.int pz), .val (.int xx), .val (.int kq)] [(.int (1 : Int32))])) _
              exact ownRet X50 (v := some (.int (1 : Int32))) Bd.notSynchronized (fun h => by rw [Bd.returns] at h; cases h) (fun _ hr => retN X50 hx (t := .boolean) Bd.returns (by simp) (hb hby own_runok_d213) hr) (by rw [R50]; exact ⟨rfl, N50, rfl⟩) (by decide) (by decide)
            · skip
              refine ownStep (fun _ k => XS.icmpYes X43.here hx rfl (pc0 := 176) (pc' := 204) rfl (hb hby own_runok_d176) rfl (flt (hk6 : ¬ (6 : Int32) < kq)).2.1 (by decide) (by decide) k) ?_
              refine ownStep (fun _ k => XS.bipush X43.here hx rfl (hb hby own_runok_d204) k) ?_
              refine ownStep (fun _ k => XS.iloadN X43.here hx rfl (hb hby own_runok_d206) rfl  k) ?_
              refine ownStep (fun _ k => XS.icmpYes X43.here hx rfl (pc0 := 207) (pc' := 212) rfl (hb hby own_runok_d207) rfl (flt ((own_k7 ku ol hn7) : ¬ (7 : Int32) < kq)).2.1 (by decide) (by decide) k) ?_
              refine ownStep (fun _ k => XS.iconst X43.here hx rfl (hb hby own_runok_d212) k) ?_
              show ownGo p.tables e below (T43.setTop (mkF m 213 #[.val (.ref s_), .val (.int pz), .val (.int xx), .val (.int kq)] [(.int (1 : Int32))])) _
              exact ownRet X43 (v := some (.int (1 : Int32))) Bd.notSynchronized (fun h => by rw [Bd.returns] at h; cases h) (fun _ hr => retN X43 hx (t := .boolean) Bd.returns (by simp) (hb hby own_runok_d213) hr) (by rw [R43]; exact ⟨rfl, N43, rfl⟩) (by decide) (by decide)
          · skip
            refine ownStep (fun _ k => XS.icmpYes X36.here hx rfl (pc0 := 147) (pc' := 173) rfl (hb hby own_runok_d147) rfl (flt (hk5 : ¬ (5 : Int32) < kq)).2.1 (by decide) (by decide) k) ?_
            refine ownStep (fun _ k => XS.bipush X36.here hx rfl (hb hby own_runok_d173) k) ?_
            refine ownStep (fun _ k => XS.iloadN X36.here hx rfl (hb hby own_runok_d175) rfl  k) ?_
            refine ownStep (fun _ k => XS.icmpYes X36.here hx rfl (pc0 := 176) (pc' := 204) rfl (hb hby own_runok_d176) rfl (flt ((own_nlt hk5 (by decide)) : ¬ (6 : Int32) < kq)).2.1 (by decide) (by decide) k) ?_
            refine ownStep (fun _ k => XS.bipush X36.here hx rfl (hb hby own_runok_d204) k) ?_
            show ownGo p.tables e below (T36.setTop (mkF m 206 #[.val (.ref s_), .val (.int pz), .val (.int xx), .val (.int kq)] [(.int (7 : Int32))])) _
            refine ownStep (fun _ k => XS.iloadN X36.here hx rfl (hb hby own_runok_d206) rfl  k) ?_
            refine ownStep (fun _ k => XS.icmpYes X36.here hx rfl (pc0 := 207) (pc' := 212) rfl (hb hby own_runok_d207) rfl (flt ((own_k7 ku ol hn7) : ¬ (7 : Int32) < kq)).2.1 (by decide) (by decide) k) ?_
            refine ownStep (fun _ k => XS.iconst X36.here hx rfl (hb hby own_runok_d212) k) ?_
            show ownGo p.tables e below (T36.setTop (mkF m 213 #[.val (.ref s_), .val (.int pz), .val (.int xx), .val (.int kq)] [(.int (1 : Int32))])) _
            exact ownRet X36 (v := some (.int (1 : Int32))) Bd.notSynchronized (fun h => by rw [Bd.returns] at h; cases h) (fun _ hr => retN X36 hx (t := .boolean) Bd.returns (by simp) (hb hby own_runok_d213) hr) (by rw [R36]; exact ⟨rfl, N36, rfl⟩) (by decide) (by decide)
        · skip
          refine ownStep (fun _ k => XS.icmpYes X29.here hx rfl (pc0 := 119) (pc' := 145) rfl (hb hby own_runok_d119) rfl (flt (hk4 : ¬ (4 : Int32) < kq)).2.1 (by decide) (by decide) k) ?_
          refine ownStep (fun _ k => XS.iconst X29.here hx rfl (hb hby own_runok_d145) k) ?_
          refine ownStep (fun _ k => XS.iloadN X29.here hx rfl (hb hby own_runok_d146) rfl  k) ?_
          refine ownStep (fun _ k => XS.icmpYes X29.here hx rfl (pc0 := 147) (pc' := 173) rfl (hb hby own_runok_d147) rfl (flt ((own_nlt hk4 (by decide)) : ¬ (5 : Int32) < kq)).2.1 (by decide) (by decide) k) ?_
          refine ownStep (fun _ k => XS.bipush X29.here hx rfl (hb hby own_runok_d173) k) ?_
          show ownGo p.tables e below (T29.setTop (mkF m 175 #[.val (.ref s_), .val (.int pz), .val (.int xx), .val (.int kq)] [(.int (6 : Int32))])) _
          refine ownStep (fun _ k => XS.iloadN X29.here hx rfl (hb hby own_runok_d175) rfl  k) ?_
          refine ownStep (fun _ k => XS.icmpYes X29.here hx rfl (pc0 := 176) (pc' := 204) rfl (hb hby own_runok_d176) rfl (flt ((own_nlt hk4 (by decide)) : ¬ (6 : Int32) < kq)).2.1 (by decide) (by decide) k) ?_
          refine ownStep (fun _ k => XS.bipush X29.here hx rfl (hb hby own_runok_d204) k) ?_
          refine ownStep (fun _ k => XS.iloadN X29.here hx rfl (hb hby own_runok_d206) rfl  k) ?_
          refine ownStep (fun _ k => XS.icmpYes X29.here hx rfl (pc0 := 207) (pc' := 212) rfl (hb hby own_runok_d207) rfl (flt ((own_k7 ku ol hn7) : ¬ (7 : Int32) < kq)).2.1 (by decide) (by decide) k) ?_
          show ownGo p.tables e below (T29.setTop (mkF m 212 #[.val (.ref s_), .val (.int pz), .val (.int xx), .val (.int kq)] [])) _
          refine ownStep (fun _ k => XS.iconst X29.here hx rfl (hb hby own_runok_d212) k) ?_
          show ownGo p.tables e below (T29.setTop (mkF m 213 #[.val (.ref s_), .val (.int pz), .val (.int xx), .val (.int kq)] [(.int (1 : Int32))])) _
          exact ownRet X29 (v := some (.int (1 : Int32))) Bd.notSynchronized (fun h => by rw [Bd.returns] at h; cases h) (fun _ hr => retN X29 hx (t := .boolean) Bd.returns (by simp) (hb hby own_runok_d213) hr) (by rw [R29]; exact ⟨rfl, N29, rfl⟩) (by decide) (by decide)
      · skip
        refine ownStep (fun _ k => XS.icmpYes X22.here hx rfl (pc0 := 91) (pc' := 117) rfl (hb hby own_runok_d91) rfl (flt (hk3 : ¬ (3 : Int32) < kq)).2.1 (by decide) (by decide) k) ?_
        refine ownStep (fun _ k => XS.iconst X22.here hx rfl (hb hby own_runok_d117) k) ?_
        refine ownStep (fun _ k => XS.iloadN X22.here hx rfl (hb hby own_runok_d118) rfl  k) ?_
        refine ownStep (fun _ k => XS.icmpYes X22.here hx rfl (pc0 := 119) (pc' := 145) rfl (hb hby own_runok_d119) rfl (flt ((own_nlt hk3 (by decide)) : ¬ (4 : Int32) < kq)).2.1 (by decide) (by decide) k) ?_
        refine ownStep (fun _ k => XS.iconst X22.here hx rfl (hb hby own_runok_d145) k) ?_
        show ownGo p.tables e below (T22.setTop (mkF m 146 #[.val (.ref s_), .val (.int pz), .val (.int xx), .val (.int kq)] [(.int (5 : Int32))])) _
        refine ownStep (fun _ k => XS.iloadN X22.here hx rfl (hb hby own_runok_d146) rfl  k) ?_
        refine ownStep (fun _ k => XS.icmpYes X22.here hx rfl (pc0 := 147) (pc' := 173) rfl (hb hby own_runok_d147) rfl (flt ((own_nlt hk3 (by decide)) : ¬ (5 : Int32) < kq)).2.1 (by decide) (by decide) k) ?_
        refine ownStep (fun _ k => XS.bipush X22.here hx rfl (hb hby own_runok_d173) k) ?_
        refine ownStep (fun _ k => XS.iloadN X22.here hx rfl (hb hby own_runok_d175) rfl  k) ?_
        refine ownStep (fun _ k => XS.icmpYes X22.here hx rfl (pc0 := 176) (pc' := 204) rfl (hb hby own_runok_d176) rfl (flt ((own_nlt hk3 (by decide)) : ¬ (6 : Int32) < kq)).2.1 (by decide) (by decide) k) ?_
        show ownGo p.tables e below (T22.setTop (mkF m 204 #[.val (.ref s_), .val (.int pz), .val (.int xx), .val (.int kq)] [])) _
        refine ownStep (fun _ k => XS.bipush X22.here hx rfl (hb hby own_runok_d204) k) ?_
        refine ownStep (fun _ k => XS.iloadN X22.here hx rfl (hb hby own_runok_d206) rfl  k) ?_
        refine ownStep (fun _ k => XS.icmpYes X22.here hx rfl (pc0 := 207) (pc' := 212) rfl (hb hby own_runok_d207) rfl (flt ((own_k7 ku ol hn7) : ¬ (7 : Int32) < kq)).2.1 (by decide) (by decide) k) ?_
        refine ownStep (fun _ k => XS.iconst X22.here hx rfl (hb hby own_runok_d212) k) ?_
        show ownGo p.tables e below (T22.setTop (mkF m 213 #[.val (.ref s_), .val (.int pz), .val (.int xx), .val (.int kq)] [(.int (1 : Int32))])) _
        exact ownRet X22 (v := some (.int (1 : Int32))) Bd.notSynchronized (fun h => by rw [Bd.returns] at h; cases h) (fun _ hr => retN X22 hx (t := .boolean) Bd.returns (by simp) (hb hby own_runok_d213) hr) (by rw [R22]; exact ⟨rfl, N22, rfl⟩) (by decide) (by decide)
    · skip
      refine ownStep (fun _ k => XS.icmpYes X15.here hx rfl (pc0 := 63) (pc' := 89) rfl (hb hby own_runok_d63) rfl (flt (hk2 : ¬ (2 : Int32) < kq)).2.1 (by decide) (by decide) k) ?_
      refine ownStep (fun _ k => XS.iconst X15.here hx rfl (hb hby own_runok_d89) k) ?_
      refine ownStep (fun _ k => XS.iloadN X15.here hx rfl (hb hby own_runok_d90) rfl  k) ?_
      refine ownStep (fun _ k => XS.icmpYes X15.here hx rfl (pc0 := 91) (pc' := 117) rfl (hb hby own_runok_d91) rfl (flt ((own_nlt hk2 (by decide)) : ¬ (3 : Int32) < kq)).2.1 (by decide) (by decide) k) ?_
      refine ownStep (fun _ k => XS.iconst X15.here hx rfl (hb hby own_runok_d117) k) ?_
      show ownGo p.tables e below (T15.setTop (mkF m 118 #[.val (.ref s_), .val (.int pz), .val (.int xx), .val (.int kq)] [(.int (4 : Int32))])) _
      refine ownStep (fun _ k => XS.iloadN X15.here hx rfl (hb hby own_runok_d118) rfl  k) ?_
      refine ownStep (fun _ k => XS.icmpYes X15.here hx rfl (pc0 := 119) (pc' := 145) rfl (hb hby own_runok_d119) rfl (flt ((own_nlt hk2 (by decide)) : ¬ (4 : Int32) < kq)).2.1 (by decide) (by decide) k) ?_
      refine ownStep (fun _ k => XS.iconst X15.here hx rfl (hb hby own_runok_d145) k) ?_
      refine ownStep (fun _ k => XS.iloadN X15.here hx rfl (hb hby own_runok_d146) rfl  k) ?_
      refine ownStep (fun _ k => XS.icmpYes X15.here hx rfl (pc0 := 147) (pc' := 173) rfl (hb hby own_runok_d147) rfl (flt ((own_nlt hk2 (by decide)) : ¬ (5 : Int32) < kq)).2.1 (by decide) (by decide) k) ?_
      show ownGo p.tables e below (T15.setTop (mkF m 173 #[.val (.ref s_), .val (.int pz), .val (.int xx), .val (.int kq)] [])) _
      refine ownStep (fun _ k => XS.bipush X15.here hx rfl (hb hby own_runok_d173) k) ?_
      refine ownStep (fun _ k => XS.iloadN X15.here hx rfl (hb hby own_runok_d175) rfl  k) ?_
      refine ownStep (fun _ k => XS.icmpYes X15.here hx rfl (pc0 := 176) (pc' := 204) rfl (hb hby own_runok_d176) rfl (flt ((own_nlt hk2 (by decide)) : ¬ (6 : Int32) < kq)).2.1 (by decide) (by decide) k) ?_
      refine ownStep (fun _ k => XS.bipush X15.here hx rfl (hb hby own_runok_d204) k) ?_
      refine ownStep (fun _ k => XS.iloadN X15.here hx rfl (hb hby own_runok_d206) rfl  k) ?_
      show ownGo p.tables e below (T15.setTop (mkF m 207 #[.val (.ref s_), .val (.int pz), .val (.int xx), .val (.int kq)] [(.int kq), (.int (7 : Int32))])) _
      refine ownStep (fun _ k => XS.icmpYes X15.here hx rfl (pc0 := 207) (pc' := 212) rfl (hb hby own_runok_d207) rfl (flt ((own_k7 ku ol hn7) : ¬ (7 : Int32) < kq)).2.1 (by decide) (by decide) k) ?_
      refine ownStep (fun _ k => XS.iconst X15.here hx rfl (hb hby own_runok_d212) k) ?_
      show ownGo p.tables e below (T15.setTop (mkF m 213 #[.val (.ref s_), .val (.int pz), .val (.int xx), .val (.int kq)] [(.int (1 : Int32))])) _
      exact ownRet X15 (v := some (.int (1 : Int32))) Bd.notSynchronized (fun h => by rw [Bd.returns] at h; cases h) (fun _ hr => retN X15 hx (t := .boolean) Bd.returns (by simp) (hb hby own_runok_d213) hr) (by rw [R15]; exact ⟨rfl, N15, rfl⟩) (by decide) (by decide)
  · skip
    refine ownStep (fun _ k => XS.icmpYes X8.here hx rfl (pc0 := 35) (pc' := 61) rfl (hb hby own_runok_d35) rfl (flt (hk1 : ¬ (1 : Int32) < kq)).2.1 (by decide) (by decide) k) ?_
    refine ownStep (fun _ k => XS.iconst X8.here hx rfl (hb hby own_runok_d61) k) ?_
    refine ownStep (fun _ k => XS.iloadN X8.here hx rfl (hb hby own_runok_d62) rfl  k) ?_
    refine ownStep (fun _ k => XS.icmpYes X8.here hx rfl (pc0 := 63) (pc' := 89) rfl (hb hby own_runok_d63) rfl (flt ((own_nlt hk1 (by decide)) : ¬ (2 : Int32) < kq)).2.1 (by decide) (by decide) k) ?_
    refine ownStep (fun _ k => XS.iconst X8.here hx rfl (hb hby own_runok_d89) k) ?_
    show ownGo p.tables e below (T8.setTop (mkF m 90 #[.val (.ref s_), .val (.int pz), .val (.int xx), .val (.int kq)] [(.int (3 : Int32))])) _
    refine ownStep (fun _ k => XS.iloadN X8.here hx rfl (hb hby own_runok_d90) rfl  k) ?_
    refine ownStep (fun _ k => XS.icmpYes X8.here hx rfl (pc0 := 91) (pc' := 117) rfl (hb hby own_runok_d91) rfl (flt ((own_nlt hk1 (by decide)) : ¬ (3 : Int32) < kq)).2.1 (by decide) (by decide) k) ?_
    refine ownStep (fun _ k => XS.iconst X8.here hx rfl (hb hby own_runok_d117) k) ?_
    refine ownStep (fun _ k => XS.iloadN X8.here hx rfl (hb hby own_runok_d118) rfl  k) ?_
    refine ownStep (fun _ k => XS.icmpYes X8.here hx rfl (pc0 := 119) (pc' := 145) rfl (hb hby own_runok_d119) rfl (flt ((own_nlt hk1 (by decide)) : ¬ (4 : Int32) < kq)).2.1 (by decide) (by decide) k) ?_
    show ownGo p.tables e below (T8.setTop (mkF m 145 #[.val (.ref s_), .val (.int pz), .val (.int xx), .val (.int kq)] [])) _
    refine ownStep (fun _ k => XS.iconst X8.here hx rfl (hb hby own_runok_d145) k) ?_
    refine ownStep (fun _ k => XS.iloadN X8.here hx rfl (hb hby own_runok_d146) rfl  k) ?_
    refine ownStep (fun _ k => XS.icmpYes X8.here hx rfl (pc0 := 147) (pc' := 173) rfl (hb hby own_runok_d147) rfl (flt ((own_nlt hk1 (by decide)) : ¬ (5 : Int32) < kq)).2.1 (by decide) (by decide) k) ?_
    refine ownStep (fun _ k => XS.bipush X8.here hx rfl (hb hby own_runok_d173) k) ?_
    refine ownStep (fun _ k => XS.iloadN X8.here hx rfl (hb hby own_runok_d175) rfl  k) ?_
    show ownGo p.tables e below (T8.setTop (mkF m 176 #[.val (.ref s_), .val (.int pz), .val (.int xx), .val (.int kq)] [(.int kq), (.int (6 : Int32))])) _
    refine ownStep (fun _ k => XS.icmpYes X8.here hx rfl (pc0 := 176) (pc' := 204) rfl (hb hby own_runok_d176) rfl (flt ((own_nlt hk1 (by decide)) : ¬ (6 : Int32) < kq)).2.1 (by decide) (by decide) k) ?_
    refine ownStep (fun _ k => XS.bipush X8.here hx rfl (hb hby own_runok_d204) k) ?_
    refine ownStep (fun _ k => XS.iloadN X8.here hx rfl (hb hby own_runok_d206) rfl  k) ?_
    refine ownStep (fun _ k => XS.icmpYes X8.here hx rfl (pc0 := 207) (pc' := 212) rfl (hb hby own_runok_d207) rfl (flt ((own_k7 ku ol hn7) : ¬ (7 : Int32) < kq)).2.1 (by decide) (by decide) k) ?_
    refine ownStep (fun _ k => XS.iconst X8.here hx rfl (hb hby own_runok_d212) k) ?_
    show ownGo p.tables e below (T8.setTop (mkF m 213 #[.val (.ref s_), .val (.int pz), .val (.int xx), .val (.int kq)] [(.int (1 : Int32))])) _
    exact ownRet X8 (v := some (.int (1 : Int32))) Bd.notSynchronized (fun h => by rw [Bd.returns] at h; cases h) (fun _ hr => retN X8 hx (t := .boolean) Bd.returns (by simp) (hb hby own_runok_d213) hr) (by rw [R8]; exact ⟨rfl, N8, rfl⟩) (by decide) (by decide)
theorem own_rget_d0 : decode jdk_38_method_20_code 0 = .ok (.iload_n 1, 1) := by decide +kernel
theorem own_rget_d1 : decode jdk_38_method_20_code 1 = .ok (.aload_n 0, 1) := by decide +kernel
theorem own_rget_d2 : decode jdk_38_method_20_code 2 = .ok (.getfield 48, 3) := by decide +kernel
theorem own_rget_d5 : decode jdk_38_method_20_code 5 = .ok (.invokestatic 118, 3) := by decide +kernel
theorem own_rget_d8 : decode jdk_38_method_20_code 8 = .ok (.pop, 1) := by decide +kernel
theorem own_rget_d9 : decode jdk_38_method_20_code 9 = .ok (.aload_n 0, 1) := by decide +kernel
theorem own_rget_d10 : decode jdk_38_method_20_code 10 = .ok (.iload_n 1, 1) := by decide +kernel
theorem own_rget_d11 : decode jdk_38_method_20_code 11 = .ok (.invokevirtual 123, 3) := by decide +kernel
theorem own_rget_d14 : decode jdk_38_method_20_code 14 = .ok (.areturn, 1) := by decide +kernel
theorem own_rget_pn : plainName "java/util/ArrayList" = true := by first | (simp [plainName, overriddenIn]; done) | decide +kernel
theorem own_rget_pd0 : parseMethodDescriptor "(II)I" = some ⟨[.int, .int], some .int⟩ := by decide +kernel
theorem own_rget_pd1 : parseMethodDescriptor "(I)Ljava/lang/Object;" = some ⟨[.int], some (.object "java/lang/Object")⟩ := by decide +kernel
theorem own_rget_ef (m : MethodId) (x0 : Addr) (x1 : Int32) : entryFrame m #[(.ref x0), (.int x1)] 2 = mkF m 0 #[.val (.ref x0), .val (.int x1)] [] := by first | (simp [entryFrame, mkF, argsToLocals, Value.category]; done) | rfl
def own_rget_Q (Z : State) (r_ : Addr) (dr : Addr) (clr : Cell) (mm : Int32) (a : Addr) (mc : Int32) (nn : Int32) (sz : Int32) (ii : Int32) (h0 : Heap) (n0 : Nat) (vv_ : Option Value) (hh_ : Heap) (LL_ : List Loc) : Prop := ∃ sb : Addr, ∃ oo : Int32, ∃ kq : Int32, vv_ = some (.ref sb) ∧ Fr n0 LL_ ∧ hh_ = h0 ∧ (Exa Z hh_ sb "java/util/ArrayList$SubList") ∧ (Fld Z hh_ sb "java/util/ArrayList$SubList" "root" "Ljava/util/ArrayList;" (.ref a)) ∧ (Fld Z hh_ sb "java/util/ArrayList$SubList" "offset" "I" (.int oo)) ∧ (Fld Z hh_ sb "java/util/ArrayList$SubList" "size" "I" (.int kq)) ∧ (Fld Z hh_ sb "java/util/AbstractList" "modCount" "I" (.int mc)) ∧ (oo = ii * sz) ∧ (kq = own_min nn (oo + sz) - oo)
set_option maxRecDepth 65536 in
set_option maxHeartbeats 40000000 in
theorem own_rget (l : Launch) (Z : State) (a0 : Array Value) (hw : ∀ d ∈ tables_1, d.before a0 Z = true) (ws : List Jvm.Cond) (r_ : Addr) (dr : Addr) (clr : Cell) (mm : Int32) (a : Addr) (mc : Int32) (nn : Int32) (sz : Int32) (ii : Int32) (h0 : Heap) (n0 : Nat) (Z0 : n0 ≤ h0.size) (Er : Exa Z h0 r_ "java/util/ArrayList") (Re : Fld Z h0 r_ "java/util/ArrayList" "elementData" "[Ljava/lang/Object;" (.ref dr)) (Rs : Fld Z h0 r_ "java/util/ArrayList" "size" "I" (.int mm)) (RA : Arr Z h0 dr clr (.object "java/lang/Object")) (hrz : clr.slots.size = 10) (HS : own_subs Z h0 clr mm a mc nn sz) (il : ¬ ii < (0 : Int32)) (iu : ii < mm) (hm7 : ¬ (7 : Int32) < mm) :
    MetFree l (⟨"java/util/ArrayList", "get", "(I)Ljava/lang/Object;"⟩ : MethodName) (head1 (Jvm.Cond.code (⟨"java/util/ArrayList", "get", "(I)Ljava/lang/Object;"⟩ : MethodName) jdk_38_method_20_code 2 (some (.object "java/lang/Object")) :: ws) ({ frames := 2, cells := 0, slots := 0, locals := 27 } : Room)) (fun aa_ UU_ => aa_ = #[(.ref r_), (.int ii)] ∧ Z.Warmed39 UU_.vm ∧ UU_.heap = h0) (fun _ _ _ _ _ => True) (fun _ UU_ oo_ UV_ => ∃ vv_ LL_, oo_ = .returned vv_ ∧ own_rget_Q Z r_ dr clr mm a mc nn sz ii h0 n0 vv_ UV_.heap LL_ ∧ FrameEnd UU_ oo_ UV_ LL_ ({ frames := 2, cells := 0, slots := 0, locals := 27 } : Room).cells ({ frames := 2, cells := 0, slots := 0, locals := 27 } : Room).slots) := by
  refine MetFree.of_bodySF (plainFor_of_name own_rget_pn) hisR ?_
  intro p e s m args below meth c s₁ Bd hml0 hP hK
  obtain ⟨rfl, hZ, hh⟩ := hP
  have hx := Bd.exec
  have hby := Bd.bytes
  have hml : c.maxLocals = 2 := hml0
  have hown : s.vm.findClass "java/util/ArrayList" = some m.cls := findClass_of_methodNamed Bd.named
  have hnm := (name_of_methodNamed Bd.named Bd.method).1
  have X0 : Stand p l e ({ frames := 2, cells := 0, slots := 0, locals := 27 } : Room) s m #[(.ref r_), (.int ii)] below meth c s₁ [] 0 0 := Stand.of_body Bd
  have e0 : s₁.heap = h0 := by rw [← hh, Bd.state]; rfl
  have N0 := Fr.nil n0
  have KP0 : Keep h0 h0 [] := Keep.refl _ _
  refine ownFin (Q := own_rget_Q Z r_ dr clr mm a mc nn sz ii h0 n0) ?_
  refine ownStep (fun _ k => castTop (own_rget_ef m r_ ii) k) ?_
  show ownGo p.tables e below (s₁.setTop (mkF m 0 #[.val (.ref r_), .val (.int ii)] [])) _
  refine ownStep (fun _ k => XS.iloadN X0.here hx rfl (hb hby own_rget_d0) rfl  k) ?_
  refine ownStep (fun _ k => XS.aloadN X0.here hx rfl (hb hby own_rget_d1) rfl rfl k) ?_
  show ownGo p.tables e below (s₁.setTop (mkF m 2 #[.val (.ref r_), .val (.int ii)] [(.ref r_), (.int ii)])) _
  obtain ⟨T1, X1, e1, st1⟩ := getF X0 hx hZ hown (host := "") (Or.inl (hw _ (List.mem_of_getElem? (i := 47) rfl))) Via.refl e0 Rs (g := (mkF m 2 #[.val (.ref r_), .val (.int ii)] [(.ref r_), (.int ii)])) rfl rfl (hb hby own_rget_d2)
  refine ownStep st1 ?_
  show ownGo p.tables e below (T1.setTop (mkF m 5 #[.val (.ref r_), .val (.int ii)] [(.int mm), (.int ii)])) _
  have Zs3 : n0 ≤ h0.size := Nat.le_trans Z0 KP0.1
  obtain ⟨_, _, ⟨T2, L2, k2, n2⟩, -, X2, ⟨Lc2, hQ2, l2, y2, z2⟩, st2⟩ := Jvm.LawKit.callS X1 hx (y := (⟨"java/util/Objects", "checkIndex", "(II)I"⟩ : MethodName)) hown (mvT hZ (hw _ (List.mem_of_getElem? (i := 139) rfl))) (mvT hZ (hw _ (List.mem_of_getElem? (i := 140) rfl))) (mvT hZ (hw _ (List.mem_of_getElem? (i := 141) rfl))) (mvT hZ (hw _ (List.mem_of_getElem? (i := 142) rfl))) (by decide) (backOf (W := 0) (own_al_chk l Z a0 hw [] ii mm h0 n0 Zs3 il iu) hZ (hw _ (List.mem_of_getElem? (i := 142) rfl)) (hw _ (List.mem_of_getElem? (i := 141) rfl)) (by decide) (by decide)) (g := (mkF m 5 #[.val (.ref r_), .val (.int ii)] [(.int mm), (.int ii)])) rfl (by rw [hml]; rfl) (argsL := [(.int ii), (.int mm)]) (rest := []) (lenOf own_rget_pd0 rfl) rfl (by show 2 * 0 + _ ≤ _; exact Nat.le_of_eq rfl) (hb hby own_rget_d5) (fun _ _ => ⟨rfl, e1, (by decide : 0 + 0 ≤ _), (by decide : 0 + 0 ≤ _)⟩)
  dsimp only [Pt.U, Pt.locs, Pt.cells, Pt.slots] at X2 l2 y2 z2 st2 hQ2
  obtain rfl : k2 = 0 := y2
  obtain rfl : n2 = 0 := z2
  obtain ⟨rfl, N2q, R2⟩ := hQ2
  have N2 : Fr n0 L2 := l2 ▸ Fr.app N0 N2q
  refine ownStep (fun _ k => st2 _ k) ?_
  refine ownStep (fun _ k => XS.pop X2.here hx rfl (hb hby own_rget_d8) rfl rfl k) ?_
  refine ownStep (fun _ k => XS.aloadN X2.here hx rfl (hb hby own_rget_d9) rfl rfl k) ?_
  refine ownStep (fun _ k => XS.iloadN X2.here hx rfl (hb hby own_rget_d10) rfl  k) ?_
  show ownGo p.tables e below (T2.setTop (mkF m 11 #[.val (.ref r_), .val (.int ii)] [(.int ii), (.ref r_)])) _
  obtain ⟨sb, oo, kq, hat, ho, hk, Es, Sr, So, Ss, Sm⟩ := HS _ il iu
  have Zs5 : n0 ≤ h0.size := Nat.le_trans Z0 KP0.1
  obtain ⟨cq4, kq4, q4a, q4b, q4c⟩ := isOf hZ R2 Er
  obtain ⟨_, _, ⟨T4, L4, k4, n4⟩, -, X4, ⟨Lc4, hQ4, l4, y4, z4⟩, st4⟩ := X2.virtualBack hx (y := (⟨"java/util/ArrayList", "elementData", "(I)Ljava/lang/Object;"⟩ : MethodName)) (z := (⟨"java/util/ArrayList", "elementData", "(I)Ljava/lang/Object;"⟩ : MethodName)) hown (mvT hZ (hw _ (List.mem_of_getElem? (i := 147) rfl))) (mvT hZ (hw _ (List.mem_of_getElem? (i := 148) rfl))) (notFace_of_selects (args := #[]) (mvT hZ (hw _ (List.mem_of_getElem? (i := 150) rfl)))) (mvT hZ (hw _ (List.mem_of_getElem? (i := 150) rfl))) (mvT hZ (hw _ (List.mem_of_getElem? (i := 149) rfl))) (by decide) (backOf (W := 0) (own_edS l Z a0 hw [] r_ dr clr ii sb h0 n0 Zs5 Re RA hrz il (own_lt10 iu hm7) hat) hZ (hw _ (List.mem_of_getElem? (i := 151) rfl)) (hw _ (List.mem_of_getElem? (i := 7) rfl)) (by decide) (by decide)) q4a q4c (g := (mkF m 11 #[.val (.ref r_), .val (.int ii)] [(.int ii), (.ref r_)])) rfl (by rw [hml]; rfl) (Steps.refl _) (argsL := [(.int ii)]) (rest := []) (lenOf own_rget_pd1 rfl) rfl (by show 2 * 0 + _ ≤ _; exact Nat.le_of_eq rfl) (hb hby own_rget_d11) (fun _ _ => ⟨rfl, R2, (by decide : 0 + 0 ≤ _), (by decide : 0 + 0 ≤ _)⟩)
  dsimp only [Pt.U, Pt.locs, Pt.cells, Pt.slots] at X4 l4 y4 z4 st4 hQ4
  obtain rfl : k4 = 0 := y4
  obtain rfl : n4 = 0 := z4
  obtain ⟨rfl, N4q, R4⟩ := hQ4
  have N4 : Fr n0 L4 := l4 ▸ Fr.app N2 N4q
  refine ownStep (fun _ k => st4.trans k) ?_
  show ownGo p.tables e below (T4.setTop (mkF m 14 #[.val (.ref r_), .val (.int ii)] [(.ref sb)])) _
  exact ownRet X4 (v := some (.ref sb)) Bd.notSynchronized (fun h => by rw [Bd.returns] at h; cases h) (fun _ hr => retOut X4 hx (t := (.object "java/lang/Object")) Bd.returns rfl (Or.inr (Or.inr (Or.inr (Or.inr ⟨rfl, rfl, rfl⟩)))) (hb hby own_rget_d14) hr) (by rw [R4]; exact ⟨sb, oo, kq, rfl, N4, rfl, Es, Sr, So, Ss, Sm, ho, hk⟩) (by decide) (by decide)
theorem own_step_d0 : decode method_3_code 0 = .ok (.iload_n 3, 1) := by decide +kernel
theorem own_step_d1 : decode method_3_code 1 = .ok (.ifCond .ge 5, 3) := by decide +kernel
theorem own_step_d6 : decode method_3_code 6 = .ok (.iload_n 1, 1) := by decide +kernel
theorem own_step_d7 : decode method_3_code 7 = .ok (.iload_n 2, 1) := by decide +kernel
theorem own_step_d8 : decode method_3_code 8 = .ok (.if_icmp .lt 5, 3) := by decide +kernel
theorem own_step_d11 : decode method_3_code 11 = .ok (.iload_n 3, 1) := by decide +kernel
theorem own_step_d12 : decode method_3_code 12 = .ok (.ireturn, 1) := by decide +kernel
theorem own_step_d13 : decode method_3_code 13 = .ok (.aload_n 0, 1) := by decide +kernel
theorem own_step_d14 : decode method_3_code 14 = .ok (.iload_n 1, 1) := by decide +kernel
theorem own_step_d15 : decode method_3_code 15 = .ok (.invokeinterface 13 2, 5) := by decide +kernel
theorem own_step_d20 : decode method_3_code 20 = .ok (.checkcast 8, 3) := by decide +kernel
theorem own_step_d23 : decode method_3_code 23 = .ok (.astore 6, 2) := by decide +kernel
theorem own_step_d25 : decode method_3_code 25 = .ok (.aload 6, 2) := by decide +kernel
theorem own_step_d27 : decode method_3_code 27 = .ok (.invokeinterface 7 1, 5) := by decide +kernel
theorem own_step_d32 : decode method_3_code 32 = .ok (.istore 7, 2) := by decide +kernel
theorem own_step_d34 : decode method_3_code 34 = .ok (.iload 7, 2) := by decide +kernel
theorem own_step_d36 : decode method_3_code 36 = .ok (.iconst 1, 1) := by decide +kernel
theorem own_step_d37 : decode method_3_code 37 = .ok (.if_icmp .ge 5, 3) := by decide +kernel
theorem own_step_d42 : decode method_3_code 42 = .ok (.ldc2_w 22, 3) := by decide +kernel
theorem own_step_d45 : decode method_3_code 45 = .ok (.lstore 8, 2) := by decide +kernel
theorem own_step_d47 : decode method_3_code 47 = .ok (.iload 7, 2) := by decide +kernel
theorem own_step_d49 : decode method_3_code 49 = .ok (.iconst 1, 1) := by decide +kernel
theorem own_step_d50 : decode method_3_code 50 = .ok (.if_icmp .le 18, 3) := by decide +kernel
theorem own_step_d53 : decode method_3_code 53 = .ok (.iload 7, 2) := by decide +kernel
theorem own_step_d55 : decode method_3_code 55 = .ok (.i2l, 1) := by decide +kernel
theorem own_step_d56 : decode method_3_code 56 = .ok (.iload 5, 2) := by decide +kernel
theorem own_step_d58 : decode method_3_code 58 = .ok (.i2l, 1) := by decide +kernel
theorem own_step_d59 : decode method_3_code 59 = .ok (.lmul, 1) := by decide +kernel
theorem own_step_d60 : decode method_3_code 60 = .ok (.lload 8, 2) := by decide +kernel
theorem own_step_d62 : decode method_3_code 62 = .ok (.lcmp, 1) := by decide +kernel
theorem own_step_d63 : decode method_3_code 63 = .ok (.ifCond .le 5, 3) := by decide +kernel
theorem own_step_d68 : decode method_3_code 68 = .ok (.iload_n 1, 1) := by decide +kernel
theorem own_step_d69 : decode method_3_code 69 = .ok (.iload_n 2, 1) := by decide +kernel
theorem own_step_d70 : decode method_3_code 70 = .ok (.iconst 1, 1) := by decide +kernel
theorem own_step_d71 : decode method_3_code 71 = .ok (.isub, 1) := by decide +kernel
theorem own_step_d72 : decode method_3_code 72 = .ok (.if_icmp .ne 7, 3) := by decide +kernel
theorem own_step_d75 : decode method_3_code 75 = .ok (.iconst 1, 1) := by decide +kernel
theorem own_step_d76 : decode method_3_code 76 = .ok (.goto 4, 3) := by decide +kernel
theorem own_step_d79 : decode method_3_code 79 = .ok (.iconst 0, 1) := by decide +kernel
theorem own_step_d80 : decode method_3_code 80 = .ok (.istore 10, 2) := by decide +kernel
theorem own_step_d82 : decode method_3_code 82 = .ok (.iload 10, 2) := by decide +kernel
theorem own_step_d84 : decode method_3_code 84 = .ok (.ifCond .ne 20, 3) := by decide +kernel
theorem own_step_d87 : decode method_3_code 87 = .ok (.iload 7, 2) := by decide +kernel
theorem own_step_d89 : decode method_3_code 89 = .ok (.iconst 1, 1) := by decide +kernel
theorem own_step_d90 : decode method_3_code 90 = .ok (.iadd, 1) := by decide +kernel
theorem own_step_d91 : decode method_3_code 91 = .ok (.i2l, 1) := by decide +kernel
theorem own_step_d92 : decode method_3_code 92 = .ok (.iload 5, 2) := by decide +kernel
theorem own_step_d94 : decode method_3_code 94 = .ok (.i2l, 1) := by decide +kernel
theorem own_step_d95 : decode method_3_code 95 = .ok (.lmul, 1) := by decide +kernel
theorem own_step_d96 : decode method_3_code 96 = .ok (.lload 8, 2) := by decide +kernel
theorem own_step_d98 : decode method_3_code 98 = .ok (.lcmp, 1) := by decide +kernel
theorem own_step_d99 : decode method_3_code 99 = .ok (.ifCond .gt 5, 3) := by decide +kernel
theorem own_step_d104 : decode method_3_code 104 = .ok (.aload 6, 2) := by decide +kernel
theorem own_step_d106 : decode method_3_code 106 = .ok (.iload_n 3, 1) := by decide +kernel
theorem own_step_d107 : decode method_3_code 107 = .ok (.iload 4, 2) := by decide +kernel
theorem own_step_d109 : decode method_3_code 109 = .ok (.invokestatic 24, 3) := by decide +kernel
theorem own_step_d112 : decode method_3_code 112 = .ok (.ifCond .ne 5, 3) := by decide +kernel
theorem own_step_d117 : decode method_3_code 117 = .ok (.iload_n 3, 1) := by decide +kernel
theorem own_step_d118 : decode method_3_code 118 = .ok (.iload 7, 2) := by decide +kernel
theorem own_step_d120 : decode method_3_code 120 = .ok (.iadd, 1) := by decide +kernel
theorem own_step_d121 : decode method_3_code 121 = .ok (.ireturn, 1) := by decide +kernel
theorem own_step_pn : plainName "com/example/circuline/circuline/storage/InsertSplitPinLaw" = true := by first | (simp [plainName, overriddenIn]; done) | decide +kernel
theorem own_step_pd0 : parseMethodDescriptor "(I)Ljava/lang/Object;" = some ⟨[.int], some (.object "java/lang/Object")⟩ := by decide +kernel
theorem own_step_pd1 : parseMethodDescriptor "()I" = some ⟨[], some .int⟩ := by decide +kernel
theorem own_step_pd2 : parseMethodDescriptor "(Ljava/util/List;II)Z" = some ⟨[(.object "java/util/List"), .int, .int], some .boolean⟩ := by decide +kernel
theorem own_step_ef (m : MethodId) (x0 : Addr) (x1 : Int32) (x2 : Int32) (x3 : Int32) (x4 : Int32) (x5 : Int32) : entryFrame m #[(.ref x0), (.int x1), (.int x2), (.int x3), (.int x4), (.int x5)] 11 = mkF m 0 #[.val (.ref x0), .val (.int x1), .val (.int x2), .val (.int x3), .val (.int x4), .val (.int x5), .unset, .unset, .unset, .unset, .unset] [] := by first | (simp [entryFrame, mkF, argsToLocals, Value.category]; done) | rfl
def own_step_Q (Z : State) (r_ : Addr) (dr : Addr) (clr : Cell) (mm : Int32) (a : Addr) (mc : Int32) (nn : Int32) (sz : Int32) (dd : Addr) (cl : Cell) (xx : Int32) (cc : Int32) (ii : Int32) (pp : Int32) (h0 : Heap) (n0 : Nat) (vv_ : Option Value) (hh_ : Heap) (LL_ : List Loc) : Prop := ∃ po : Int32, vv_ = some (.int po) ∧ Fr n0 LL_ ∧ hh_ = h0 ∧ (own_pos mm nn sz (ii + (1 : Int32)) po)
set_option maxRecDepth 65536 in
set_option maxHeartbeats 40000000 in
theorem own_step (l : Launch) (Z : State) (a0 : Array Value) (hw : ∀ d ∈ tables_1, d.before a0 Z = true) (ws : List Jvm.Cond) (r_ : Addr) (dr : Addr) (clr : Cell) (mm : Int32) (a : Addr) (mc : Int32) (nn : Int32) (sz : Int32) (dd : Addr) (cl : Cell) (xx : Int32) (cc : Int32) (ii : Int32) (pp : Int32) (h0 : Heap) (n0 : Nat) (Z0 : n0 ≤ h0.size) (Er : Exa Z h0 r_ "java/util/ArrayList") (Re : Fld Z h0 r_ "java/util/ArrayList" "elementData" "[Ljava/lang/Object;" (.ref dr)) (Rs : Fld Z h0 r_ "java/util/ArrayList" "size" "I" (.int mm)) (RA : Arr Z h0 dr clr (.object "java/lang/Object")) (hrz : clr.slots.size = 10) (HS : own_subs Z h0 clr mm a mc nn sz) (Ea : Exa Z h0 a "java/util/ArrayList") (Fe : Fld Z h0 a "java/util/ArrayList" "elementData" "[Ljava/lang/Object;" (.ref dd)) (Fm : Fld Z h0 a "java/util/AbstractList" "modCount" "I" (.int mc)) (A : Arr Z h0 dd cl (.object "java/lang/Object")) (hsz : cl.slots.size = 10) (HB : own_boxes Z h0 cl nn xx) (hzp : own_szp cc sz) (hcnt : own_cnt nn sz mm) (hn1 : 1 ≤ nn.toInt) (hn7 : ¬ (7 : Int32) < nn) (hcc : 1 ≤ cc.toInt) (il : ¬ ii < (0 : Int32)) (i7 : ii.toInt ≤ 7) (hpos : own_pos mm nn sz ii pp) :
    MetFree l (⟨"com/example/circuline/circuline/storage/InsertSplitPinLaw", "step", "(Ljava/util/List;IIIII)I"⟩ : MethodName) (head1 (Jvm.Cond.code (⟨"com/example/circuline/circuline/storage/InsertSplitPinLaw", "step", "(Ljava/util/List;IIIII)I"⟩ : MethodName) method_3_code 11 (some .int) :: ws) ({ frames := 4, cells := 0, slots := 0, locals := 55 } : Room)) (fun aa_ UU_ => aa_ = #[(.ref r_), (.int ii), (.int mm), (.int pp), (.int xx), (.int cc)] ∧ Z.Warmed39 UU_.vm ∧ UU_.heap = h0) (fun _ _ _ _ _ => True) (fun _ UU_ oo_ UV_ => ∃ vv_ LL_, oo_ = .returned vv_ ∧ own_step_Q Z r_ dr clr mm a mc nn sz dd cl xx cc ii pp h0 n0 vv_ UV_.heap LL_ ∧ FrameEnd UU_ oo_ UV_ LL_ ({ frames := 4, cells := 0, slots := 0, locals := 55 } : Room).cells ({ frames := 4, cells := 0, slots := 0, locals := 55 } : Room).slots) := by
  refine MetFree.of_bodySF (plainFor_of_name own_step_pn) hisR ?_
  intro p e s m args below meth c s₁ Bd hml0 hP hK
  obtain ⟨rfl, hZ, hh⟩ := hP
  have hx := Bd.exec
  have hby := Bd.bytes
  have hml : c.maxLocals = 11 := hml0
  have hown : s.vm.findClass "com/example/circuline/circuline/storage/InsertSplitPinLaw" = some m.cls := findClass_of_methodNamed Bd.named
  have hnm := (name_of_methodNamed Bd.named Bd.method).1
  have X0 : Stand p l e ({ frames := 4, cells := 0, slots := 0, locals := 55 } : Room) s m #[(.ref r_), (.int ii), (.int mm), (.int pp), (.int xx), (.int cc)] below meth c s₁ [] 0 0 := Stand.of_body Bd
  have e0 : s₁.heap = h0 := by rw [← hh, Bd.state]; rfl
  have N0 := Fr.nil n0
  have KP0 : Keep h0 h0 [] := Keep.refl _ _
  refine ownFin (Q := own_step_Q Z r_ dr clr mm a mc nn sz dd cl xx cc ii pp h0 n0) ?_
  refine ownStep (fun _ k => castTop (own_step_ef m r_ ii mm pp xx cc) k) ?_
  show ownGo p.tables e below (s₁.setTop (mkF m 0 #[.val (.ref r_), .val (.int ii), .val (.int mm), .val (.int pp), .val (.int xx), .val (.int cc), .unset, .unset, .unset, .unset, .unset] [])) _
  refine ownStep (fun _ k => XS.iloadN X0.here hx rfl (hb hby own_step_d0) rfl  k) ?_
  refine ownStep (fun _ k => XS.ifYes X0.here hx rfl (pc0 := 1) (pc' := 6) rfl (hb hby own_step_d1) rfl ((if0 _ _).trans (flt ((own_ppos hzp hcnt hn1 il hpos) : ¬ pp < (0 : Int32))).2.1) (by decide) (by decide) k) ?_
  refine ownStep (fun _ k => XS.iloadN X0.here hx rfl (hb hby own_step_d6) rfl  k) ?_
  refine ownStep (fun _ k => XS.iloadN X0.here hx rfl (hb hby own_step_d7) rfl  k) ?_
  show ownGo p.tables e below (s₁.setTop (mkF m 8 #[.val (.ref r_), .val (.int ii), .val (.int mm), .val (.int pp), .val (.int xx), .val (.int cc), .unset, .unset, .unset, .unset, .unset] [(.int mm), (.int ii)])) _
  by_cases hc8 : ii < mm
  · skip
    refine ownStep (fun _ k => XS.icmpYes X0.here hx rfl (pc0 := 8) (pc' := 13) rfl (hb hby own_step_d8) rfl (tlt (hc8 : ii < mm)).1 (by decide) (by decide) k) ?_
    refine ownStep (fun _ k => XS.aloadN X0.here hx rfl (hb hby own_step_d13) rfl rfl k) ?_
    refine ownStep (fun _ k => XS.iloadN X0.here hx rfl (hb hby own_step_d14) rfl  k) ?_
    show ownGo p.tables e below (s₁.setTop (mkF m 15 #[.val (.ref r_), .val (.int ii), .val (.int mm), .val (.int pp), .val (.int xx), .val (.int cc), .unset, .unset, .unset, .unset, .unset] [(.int ii), (.ref r_)])) _
    have Zs2 : n0 ≤ h0.size := Nat.le_trans Z0 KP0.1
    obtain ⟨cq1, kq1, q1a, q1b, q1c⟩ := isOf hZ e0 Er
    obtain ⟨_, _, ⟨T1, L1, k1, n1⟩, -, X1, ⟨Lc1, hQ1, l1, y1, z1⟩, st1⟩ := X0.interfaceBack hx (xi := (⟨"java/util/List", "get", "(I)Ljava/lang/Object;"⟩ : MethodName)) (y := (⟨"java/util/ArrayList", "get", "(I)Ljava/lang/Object;"⟩ : MethodName)) hown (mvT hZ (hw _ (List.mem_of_getElem? (i := 131) rfl))) (mvT hZ (hw _ (List.mem_of_getElem? (i := 132) rfl))) (mvT hZ (hw _ (List.mem_of_getElem? (i := 133) rfl))) (mvT hZ (hw _ (List.mem_of_getElem? (i := 134) rfl))) (mvT hZ (hw _ (List.mem_of_getElem? (i := 135) rfl))) (mvT hZ (hw _ (List.mem_of_getElem? (i := 136) rfl))) (mvT hZ (hw _ (List.mem_of_getElem? (i := 137) rfl))) (mvT hZ (hw _ (List.mem_of_getElem? (i := 45) rfl))) (by decide) (backOf (W := 0) (own_rget l Z a0 hw [] r_ dr clr mm a mc nn sz ii h0 n0 Zs2 Er Re Rs RA hrz HS il hc8 (own_m7 hcnt)) hZ (hw _ (List.mem_of_getElem? (i := 138) rfl)) (hw _ (List.mem_of_getElem? (i := 7) rfl)) (by decide) (by decide)) q1a q1b q1c (g := (mkF m 15 #[.val (.ref r_), .val (.int ii), .val (.int mm), .val (.int pp), .val (.int xx), .val (.int cc), .unset, .unset, .unset, .unset, .unset] [(.int ii), (.ref r_)])) rfl (by rw [hml]; rfl) (Steps.refl _) (argsL := [(.int ii)]) (rest := []) (lenOf own_step_pd0 rfl) rfl (by show 2 * 0 + _ ≤ _; exact Nat.le_of_eq rfl) (hb hby own_step_d15) (fun _ _ => ⟨rfl, e0, (by decide : 0 + 0 ≤ _), (by decide : 0 + 0 ≤ _)⟩)
    dsimp only [Pt.U, Pt.locs, Pt.cells, Pt.slots] at X1 l1 y1 z1 st1 hQ1
    obtain rfl : k1 = 0 := y1
    obtain rfl : n1 = 0 := z1
    obtain ⟨sb, oo, kq, rfl, N1q, R1, P3, P4, P5, P6, P7, P8, P9⟩ := hQ1
    have N1 : Fr n0 L1 := l1 ▸ Fr.app N0 N1q
    refine ownStep (fun _ k => st1.trans k) ?_
    rw [R1] at P3
    rw [R1] at P4
    rw [R1] at P5
    rw [R1] at P6
    rw [R1] at P7
    show ownGo p.tables e below (T1.setTop (mkF m 20 #[.val (.ref r_), .val (.int ii), .val (.int mm), .val (.int pp), .val (.int xx), .val (.int cc), .unset, .unset, .unset, .unset, .unset] [(.ref sb)])) _
    have ho : oo = ii * sz := P8
    have hk : kq = own_min nn (oo + sz) - oo := P9
    have hr := own_run hzp hcnt hn7 il hc8 ho hk
    have hpz : pp = oo := (own_posE hpos hc8).trans ho.symm
    show ownGo p.tables e below (T1.setTop (mkF m 20 #[.val (.ref r_), .val (.int ii), .val (.int mm), .val (.int pp), .val (.int xx), .val (.int cc), .unset, .unset, .unset, .unset, .unset] [(.ref sb)])) _
    obtain ⟨T10, X10, e10, st10⟩ := castY X1 hx hZ hown (hw _ (List.mem_of_getElem? (i := 152) rfl)) R1 (Ins.of_exa P3 (hw _ (List.mem_of_getElem? (i := 153) rfl))) (g := (mkF m 20 #[.val (.ref r_), .val (.int ii), .val (.int mm), .val (.int pp), .val (.int xx), .val (.int cc), .unset, .unset, .unset, .unset, .unset] [(.ref sb)])) rfl rfl (hb hby own_step_d20)
    refine ownStep st10 ?_
    refine ownStep (fun _ k => XS.astore X10.here hx rfl (hb hby own_step_d23) rfl rfl (l' := #[.val (.ref r_), .val (.int ii), .val (.int mm), .val (.int pp), .val (.int xx), .val (.int cc), .val (.ref sb), .unset, .unset, .unset, .unset]) rfl k) ?_
    refine ownStep (fun _ k => XS.aload X10.here hx rfl (hb hby own_step_d25) rfl rfl k) ?_
    show ownGo p.tables e below (T10.setTop (mkF m 27 #[.val (.ref r_), .val (.int ii), .val (.int mm), .val (.int pp), .val (.int xx), .val (.int cc), .val (.ref sb), .unset, .unset, .unset, .unset] [(.ref sb)])) _
    have Zs12 : n0 ≤ h0.size := Nat.le_trans Z0 KP0.1
    obtain ⟨cq11, kq11, q11a, q11b, q11c⟩ := isOf hZ e10 P3
    obtain ⟨_, _, ⟨T11, L11, k11, n11⟩, -, X11, ⟨Lc11, hQ11, l11, y11, z11⟩, st11⟩ := X10.interfaceBack hx (xi := (⟨"java/util/List", "size", "()I"⟩ : MethodName)) (y := (⟨"java/util/ArrayList$SubList", "size", "()I"⟩ : MethodName)) hown (mvT hZ (hw _ (List.mem_of_getElem? (i := 49) rfl))) (mvT hZ (hw _ (List.mem_of_getElem? (i := 39) rfl))) (mvT hZ (hw _ (List.mem_of_getElem? (i := 40) rfl))) (mvT hZ (hw _ (List.mem_of_getElem? (i := 154) rfl))) (mvT hZ (hw _ (List.mem_of_getElem? (i := 155) rfl))) (mvT hZ (hw _ (List.mem_of_getElem? (i := 156) rfl))) (mvT hZ (hw _ (List.mem_of_getElem? (i := 157) rfl))) (mvT hZ (hw _ (List.mem_of_getElem? (i := 153) rfl))) (by decide) (backOf (W := 0) (own_ssz l Z a0 hw [] sb a mc oo kq h0 n0 Zs12 P3 P4 P5 P6 P7 Fm) hZ (hw _ (List.mem_of_getElem? (i := 158) rfl)) (hw _ (List.mem_of_getElem? (i := 100) rfl)) (by decide) (by decide)) q11a q11b q11c (g := (mkF m 27 #[.val (.ref r_), .val (.int ii), .val (.int mm), .val (.int pp), .val (.int xx), .val (.int cc), .val (.ref sb), .unset, .unset, .unset, .unset] [(.ref sb)])) rfl (by rw [hml]; rfl) (Steps.refl _) (argsL := []) (rest := []) (lenOf own_step_pd1 rfl) rfl (by show 2 * 0 + _ ≤ _; exact Nat.le_of_eq rfl) (hb hby own_step_d27) (fun _ _ => ⟨rfl, e10, (by decide : 0 + 0 ≤ _), (by decide : 0 + 0 ≤ _)⟩)
    dsimp only [Pt.U, Pt.locs, Pt.cells, Pt.slots] at X11 l11 y11 z11 st11 hQ11
    obtain rfl : k11 = 0 := y11
    obtain rfl : n11 = 0 := z11
    obtain ⟨rfl, N11q, R11⟩ := hQ11
    have N11 : Fr n0 L11 := l11 ▸ Fr.app N1 N11q
    refine ownStep (fun _ k => st11.trans k) ?_
    refine ownStep (fun _ k => XS.istore X11.here hx rfl (hb hby own_step_d32) rfl (l' := #[.val (.ref r_), .val (.int ii), .val (.int mm), .val (.int pp), .val (.int xx), .val (.int cc), .val (.ref sb), .val (.int kq), .unset, .unset, .unset]) rfl k) ?_
    refine ownStep (fun _ k => XS.iload X11.here hx rfl (hb hby own_step_d34) rfl  k) ?_
    refine ownStep (fun _ k => XS.iconst X11.here hx rfl (hb hby own_step_d36) k) ?_
    refine ownStep (fun _ k => XS.icmpYes X11.here hx rfl (pc0 := 37) (pc' := 42) rfl (hb hby own_step_d37) rfl (flt ((own_k1 hr.2.1) : ¬ kq < (1 : Int32))).2.1 (by decide) (by decide) k) ?_
    show ownGo p.tables e below (T11.setTop (mkF m 42 #[.val (.ref r_), .val (.int ii), .val (.int mm), .val (.int pp), .val (.int xx), .val (.int cc), .val (.ref sb), .val (.int kq), .unset, .unset, .unset] [])) _
    refine ownStep (X11.ldc2Long hx hown (mvT hZ (hw _ (List.mem_of_getElem? (i := 164) rfl))) (g := (mkF m 42 #[.val (.ref r_), .val (.int ii), .val (.int mm), .val (.int pp), .val (.int xx), .val (.int cc), .val (.ref sb), .val (.int kq), .unset, .unset, .unset] [])) rfl (hb hby own_step_d42)) ?_
    refine ownStep (fun _ k => XS.lstore X11.here hx rfl (hb hby own_step_d45) rfl (l' := #[.val (.ref r_), .val (.int ii), .val (.int mm), .val (.int pp), .val (.int xx), .val (.int cc), .val (.ref sb), .val (.int kq), .val (.long (10000 : Int64)), .second, .unset]) rfl k) ?_
    refine ownStep (fun _ k => XS.iload X11.here hx rfl (hb hby own_step_d47) rfl  k) ?_
    refine ownStep (fun _ k => XS.iconst X11.here hx rfl (hb hby own_step_d49) k) ?_
    show ownGo p.tables e below (T11.setTop (mkF m 50 #[.val (.ref r_), .val (.int ii), .val (.int mm), .val (.int pp), .val (.int xx), .val (.int cc), .val (.ref sb), .val (.int kq), .val (.long (10000 : Int64)), .second, .unset] [(.int (1 : Int32)), (.int kq)])) _
    by_cases hc50 : (1 : Int32) < kq
    · skip
      refine ownStep (fun _ k => XS.icmpNo X11.here hx rfl (hb hby own_step_d50) rfl (tlt (hc50 : (1 : Int32) < kq)).2.2.2 k) ?_
      refine ownStep (fun _ k => XS.iload X11.here hx rfl (hb hby own_step_d53) rfl  k) ?_
      refine ownStep (fun _ k => XS.i2l X11.here hx rfl (hb hby own_step_d55) rfl k) ?_
      refine ownStep (fun _ k => XS.iload X11.here hx rfl (hb hby own_step_d56) rfl  k) ?_
      refine ownStep (fun _ k => XS.i2l X11.here hx rfl (hb hby own_step_d58) rfl k) ?_
      show ownGo p.tables e below (T11.setTop (mkF m 59 #[.val (.ref r_), .val (.int ii), .val (.int mm), .val (.int pp), .val (.int xx), .val (.int cc), .val (.ref sb), .val (.int kq), .val (.long (10000 : Int64)), .second, .unset] [(.long (cc.toInt64)), (.long (kq.toInt64))])) _
      refine ownStep (fun _ k => XS.lmul X11.here hx rfl (hb hby own_step_d59) rfl k) ?_
      refine ownStep (fun _ k => XS.lload X11.here hx rfl (hb hby own_step_d60) rfl  k) ?_
      refine ownStep (fun _ k => XS.lcmp X11.here hx rfl (hb hby own_step_d62) rfl k) ?_
      refine ownStep (fun _ k => XS.ifYes X11.here hx rfl (pc0 := 63) (pc' := 68) rfl (hb hby own_step_d63) rfl ((if0 _ _).trans (flt ((own_c1 hzp hcc hr.2.2.2.1 hc50) : ¬ (0 : Int32) < (lcmpW ((kq.toInt64) * (cc.toInt64)) (10000 : Int64)))).2.2.2) (by decide) (by decide) k) ?_
      refine ownStep (fun _ k => XS.iloadN X11.here hx rfl (hb hby own_step_d68) rfl  k) ?_
      show ownGo p.tables e below (T11.setTop (mkF m 69 #[.val (.ref r_), .val (.int ii), .val (.int mm), .val (.int pp), .val (.int xx), .val (.int cc), .val (.ref sb), .val (.int kq), .val (.long (10000 : Int64)), .second, .unset] [(.int ii)])) _
      refine ownStep (fun _ k => XS.iloadN X11.here hx rfl (hb hby own_step_d69) rfl  k) ?_
      refine ownStep (fun _ k => XS.iconst X11.here hx rfl (hb hby own_step_d70) k) ?_
      refine ownStep (fun _ k => XS.isub X11.here hx rfl (hb hby own_step_d71) rfl k) ?_
      show ownGo p.tables e below (T11.setTop (mkF m 72 #[.val (.ref r_), .val (.int ii), .val (.int mm), .val (.int pp), .val (.int xx), .val (.int cc), .val (.ref sb), .val (.int kq), .val (.long (10000 : Int64)), .second, .unset] [(.int (mm - (1 : Int32))), (.int ii)])) _
      by_cases hc72 : ii = (mm - (1 : Int32))
      · skip
        refine ownStep (fun _ k => XS.icmpNo X11.here hx rfl (hb hby own_step_d72) rfl (teq (hc72 : ii = (mm - (1 : Int32)))).2 k) ?_
        refine ownStep (fun _ k => XS.iconst X11.here hx rfl (hb hby own_step_d75) k) ?_
        refine ownStep (fun _ k => XS.goto X11.here hx rfl (pc0 := 76) (pc' := 80) rfl (hb hby own_step_d76) (by decide) (by decide) k) ?_
        refine ownStep (fun _ k => XS.istore X11.here hx rfl (hb hby own_step_d80) rfl (l' := #[.val (.ref r_), .val (.int ii), .val (.int mm), .val (.int pp), .val (.int xx), .val (.int cc), .val (.ref sb), .val (.int kq), .val (.long (10000 : Int64)), .second, .val (.int (1 : Int32))]) rfl k) ?_
        refine ownStep (fun _ k => XS.iload X11.here hx rfl (hb hby own_step_d82) rfl  k) ?_
        show ownGo p.tables e below (T11.setTop (mkF m 84 #[.val (.ref r_), .val (.int ii), .val (.int mm), .val (.int pp), .val (.int xx), .val (.int cc), .val (.ref sb), .val (.int kq), .val (.long (10000 : Int64)), .second, .val (.int (1 : Int32))] [(.int (1 : Int32))])) _
        refine ownStep (fun _ k => XS.ifYes X11.here hx rfl (pc0 := 84) (pc' := 104) rfl (hb hby own_step_d84) rfl ((if0 _ _).trans (feq (by decide : ¬ (1 : Int32) = (0 : Int32))).2) (by decide) (by decide) k) ?_
        refine ownStep (fun _ k => XS.aload X11.here hx rfl (hb hby own_step_d104) rfl rfl k) ?_
        refine ownStep (fun _ k => XS.iloadN X11.here hx rfl (hb hby own_step_d106) rfl  k) ?_
        refine ownStep (fun _ k => XS.iload X11.here hx rfl (hb hby own_step_d107) rfl  k) ?_
        show ownGo p.tables e below (T11.setTop (mkF m 109 #[.val (.ref r_), .val (.int ii), .val (.int mm), .val (.int pp), .val (.int xx), .val (.int cc), .val (.ref sb), .val (.int kq), .val (.long (10000 : Int64)), .second, .val (.int (1 : Int32))] [(.int xx), (.int pp), (.ref sb)])) _
        have Zs14 : n0 ≤ h0.size := Nat.le_trans Z0 KP0.1
        obtain ⟨_, _, ⟨T13, L13, k13, n13⟩, -, X13, ⟨Lc13, hQ13, l13, y13, z13⟩, st13⟩ := Jvm.LawKit.callS X11 hx (y := (⟨"com/example/circuline/circuline/storage/InsertSplitPinLaw", "runOk", "(Ljava/util/List;II)Z"⟩ : MethodName)) hown (mvT hZ (hw _ (List.mem_of_getElem? (i := 165) rfl))) (mvT hZ (hw _ (List.mem_of_getElem? (i := 166) rfl))) (mvT hZ (hw _ (List.mem_of_getElem? (i := 129) rfl))) (mvT hZ (hw _ (List.mem_of_getElem? (i := 167) rfl))) (by decide) (backOf (W := 0) (own_runok l Z a0 hw [] sb a dd cl nn mc xx oo kq pp h0 n0 Zs14 P3 P4 P5 P6 P7 Ea Fe Fm A hsz HB hr.2.1 hr.2.2.1 hr.1 hn7 hpz) hZ (hw _ (List.mem_of_getElem? (i := 167) rfl)) (hw _ (List.mem_of_getElem? (i := 129) rfl)) (by decide) (by decide)) (g := (mkF m 109 #[.val (.ref r_), .val (.int ii), .val (.int mm), .val (.int pp), .val (.int xx), .val (.int cc), .val (.ref sb), .val (.int kq), .val (.long (10000 : Int64)), .second, .val (.int (1 : Int32))] [(.int xx), (.int pp), (.ref sb)])) rfl (by rw [hml]; rfl) (argsL := [(.ref sb), (.int pp), (.int xx)]) (rest := []) (lenOf own_step_pd2 rfl) rfl (by show 2 * 0 + _ ≤ _; exact Nat.le_of_eq rfl) (hb hby own_step_d109) (fun _ _ => ⟨rfl, R11, (by decide : 0 + 0 ≤ _), (by decide : 0 + 0 ≤ _)⟩)
        dsimp only [Pt.U, Pt.locs, Pt.cells, Pt.slots] at X13 l13 y13 z13 st13 hQ13
        obtain rfl : k13 = 0 := y13
        obtain rfl : n13 = 0 := z13
        obtain ⟨rfl, N13q, R13⟩ := hQ13
        have N13 : Fr n0 L13 := l13 ▸ Fr.app N11 N13q
        refine ownStep (fun _ k => st13 _ k) ?_
        refine ownStep (fun _ k => XS.ifYes X13.here hx rfl (pc0 := 112) (pc' := 117) rfl (hb hby own_step_d112) rfl ((if0 _ _).trans (feq (by decide : ¬ (1 : Int32) = (0 : Int32))).2) (by decide) (by decide) k) ?_
        refine ownStep (fun _ k => XS.iloadN X13.here hx rfl (hb hby own_step_d117) rfl  k) ?_
        refine ownStep (fun _ k => XS.iload X13.here hx rfl (hb hby own_step_d118) rfl  k) ?_
        refine ownStep (fun _ k => XS.iadd X13.here hx rfl (hb hby own_step_d120) rfl k) ?_
        show ownGo p.tables e below (T13.setTop (mkF m 121 #[.val (.ref r_), .val (.int ii), .val (.int mm), .val (.int pp), .val (.int xx), .val (.int cc), .val (.ref sb), .val (.int kq), .val (.long (10000 : Int64)), .second, .val (.int (1 : Int32))] [(.int (pp + kq))])) _
        exact ownRet X13 (v := some (.int (pp + kq))) Bd.notSynchronized (fun h => by rw [Bd.returns] at h; cases h) (fun _ hr => retI X13 hx Bd.returns (hb hby own_step_d121) hr) (by rw [R13]; exact ⟨(pp + kq), rfl, N13, rfl, (own_next hzp hcnt hn7 il hc8 ho hk hpz)⟩) (by decide) (by decide)
      · skip
        refine ownStep (fun _ k => XS.icmpYes X11.here hx rfl (pc0 := 72) (pc' := 79) rfl (hb hby own_step_d72) rfl (feq (hc72 : ¬ ii = (mm - (1 : Int32)))).2 (by decide) (by decide) k) ?_
        refine ownStep (fun _ k => XS.iconst X11.here hx rfl (hb hby own_step_d79) k) ?_
        refine ownStep (fun _ k => XS.istore X11.here hx rfl (hb hby own_step_d80) rfl (l' := #[.val (.ref r_), .val (.int ii), .val (.int mm), .val (.int pp), .val (.int xx), .val (.int cc), .val (.ref sb), .val (.int kq), .val (.long (10000 : Int64)), .second, .val (.int (0 : Int32))]) rfl k) ?_
        refine ownStep (fun _ k => XS.iload X11.here hx rfl (hb hby own_step_d82) rfl  k) ?_
        refine ownStep (fun _ k => XS.ifNo X11.here hx rfl (hb hby own_step_d84) rfl ((if0 _ _).trans (teq (by decide : (0 : Int32) = (0 : Int32))).2) k) ?_
        show ownGo p.tables e below (T11.setTop (mkF m 87 #[.val (.ref r_), .val (.int ii), .val (.int mm), .val (.int pp), .val (.int xx), .val (.int cc), .val (.ref sb), .val (.int kq), .val (.long (10000 : Int64)), .second, .val (.int (0 : Int32))] [])) _
        refine ownStep (fun _ k => XS.iload X11.here hx rfl (hb hby own_step_d87) rfl  k) ?_
        refine ownStep (fun _ k => XS.iconst X11.here hx rfl (hb hby own_step_d89) k) ?_
        refine ownStep (fun _ k => XS.iadd X11.here hx rfl (hb hby own_step_d90) rfl k) ?_
        refine ownStep (fun _ k => XS.i2l X11.here hx rfl (hb hby own_step_d91) rfl k) ?_
        refine ownStep (fun _ k => XS.iload X11.here hx rfl (hb hby own_step_d92) rfl  k) ?_
        show ownGo p.tables e below (T11.setTop (mkF m 94 #[.val (.ref r_), .val (.int ii), .val (.int mm), .val (.int pp), .val (.int xx), .val (.int cc), .val (.ref sb), .val (.int kq), .val (.long (10000 : Int64)), .second, .val (.int (0 : Int32))] [(.int cc), (.long ((kq + (1 : Int32)).toInt64))])) _
        refine ownStep (fun _ k => XS.i2l X11.here hx rfl (hb hby own_step_d94) rfl k) ?_
        refine ownStep (fun _ k => XS.lmul X11.here hx rfl (hb hby own_step_d95) rfl k) ?_
        refine ownStep (fun _ k => XS.lload X11.here hx rfl (hb hby own_step_d96) rfl  k) ?_
        refine ownStep (fun _ k => XS.lcmp X11.here hx rfl (hb hby own_step_d98) rfl k) ?_
        refine ownStep (fun _ k => XS.ifYes X11.here hx rfl (pc0 := 99) (pc' := 104) rfl (hb hby own_step_d99) rfl ((if0 _ _).trans (tlt ((own_c2 hzp (hr.2.2.2.2.2 (own_nlast hcnt hc72))) : (0 : Int32) < (lcmpW (((kq + (1 : Int32)).toInt64) * (cc.toInt64)) (10000 : Int64)))).2.2.1) (by decide) (by decide) k) ?_
        show ownGo p.tables e below (T11.setTop (mkF m 104 #[.val (.ref r_), .val (.int ii), .val (.int mm), .val (.int pp), .val (.int xx), .val (.int cc), .val (.ref sb), .val (.int kq), .val (.long (10000 : Int64)), .second, .val (.int (0 : Int32))] [])) _
        refine ownStep (fun _ k => XS.aload X11.here hx rfl (hb hby own_step_d104) rfl rfl k) ?_
        refine ownStep (fun _ k => XS.iloadN X11.here hx rfl (hb hby own_step_d106) rfl  k) ?_
        refine ownStep (fun _ k => XS.iload X11.here hx rfl (hb hby own_step_d107) rfl  k) ?_
        show ownGo p.tables e below (T11.setTop (mkF m 109 #[.val (.ref r_), .val (.int ii), .val (.int mm), .val (.int pp), .val (.int xx), .val (.int cc), .val (.ref sb), .val (.int kq), .val (.long (10000 : Int64)), .second, .val (.int (0 : Int32))] [(.int xx), (.int pp), (.ref sb)])) _
        have Zs16 : n0 ≤ h0.size := Nat.le_trans Z0 KP0.1
        obtain ⟨_, _, ⟨T15, L15, k15, n15⟩, -, X15, ⟨Lc15, hQ15, l15, y15, z15⟩, st15⟩ := Jvm.LawKit.callS X11 hx (y := (⟨"com/example/circuline/circuline/storage/InsertSplitPinLaw", "runOk", "(Ljava/util/List;II)Z"⟩ : MethodName)) hown (mvT hZ (hw _ (List.mem_of_getElem? (i := 165) rfl))) (mvT hZ (hw _ (List.mem_of_getElem? (i := 166) rfl))) (mvT hZ (hw _ (List.mem_of_getElem? (i := 129) rfl))) (mvT hZ (hw _ (List.mem_of_getElem? (i := 167) rfl))) (by decide) (backOf (W := 0) (own_runok l Z a0 hw [] sb a dd cl nn mc xx oo kq pp h0 n0 Zs16 P3 P4 P5 P6 P7 Ea Fe Fm A hsz HB hr.2.1 hr.2.2.1 hr.1 hn7 hpz) hZ (hw _ (List.mem_of_getElem? (i := 167) rfl)) (hw _ (List.mem_of_getElem? (i := 129) rfl)) (by decide) (by decide)) (g := (mkF m 109 #[.val (.ref r_), .val (.int ii), .val (.int mm), .val (.int pp), .val (.int xx), .val (.int cc), .val (.ref sb), .val (.int kq), .val (.long (10000 : Int64)), .second, .val (.int (0 : Int32))] [(.int xx), (.int pp), (.ref sb)])) rfl (by rw [hml]; rfl) (argsL := [(.ref sb), (.int pp), (.int xx)]) (rest := []) (lenOf own_step_pd2 rfl) rfl (by show 2 * 0 + _ ≤ _; exact Nat.le_of_eq rfl) (hb hby own_step_d109) (fun _ _ => ⟨rfl, R11, (by decide : 0 + 0 ≤ _), (by decide : 0 + 0 ≤ _)⟩)
        dsimp only [Pt.U, Pt.locs, Pt.cells, Pt.slots] at X15 l15 y15 z15 st15 hQ15
        obtain rfl : k15 = 0 := y15
        obtain rfl : n15 = 0 := z15
        obtain ⟨rfl, N15q, R15⟩ := hQ15
        have N15 : Fr n0 L15 := l15 ▸ Fr.app N11 N15q
        refine ownStep (fun _ k => st15 _ k) ?_
        refine ownStep (fun _ k => XS.ifYes X15.here hx rfl (pc0 := 112) (pc' := 117) rfl (hb hby own_step_d112) rfl ((if0 _ _).trans (feq (by decide : ¬ (1 : Int32) = (0 : Int32))).2) (by decide) (by decide) k) ?_
        refine ownStep (fun _ k => XS.iloadN X15.here hx rfl (hb hby own_step_d117) rfl  k) ?_
        refine ownStep (fun _ k => XS.iload X15.here hx rfl (hb hby own_step_d118) rfl  k) ?_
        refine ownStep (fun _ k => XS.iadd X15.here hx rfl (hb hby own_step_d120) rfl k) ?_
        show ownGo p.tables e below (T15.setTop (mkF m 121 #[.val (.ref r_), .val (.int ii), .val (.int mm), .val (.int pp), .val (.int xx), .val (.int cc), .val (.ref sb), .val (.int kq), .val (.long (10000 : Int64)), .second, .val (.int (0 : Int32))] [(.int (pp + kq))])) _
        exact ownRet X15 (v := some (.int (pp + kq))) Bd.notSynchronized (fun h => by rw [Bd.returns] at h; cases h) (fun _ hr => retI X15 hx Bd.returns (hb hby own_step_d121) hr) (by rw [R15]; exact ⟨(pp + kq), rfl, N15, rfl, (own_next hzp hcnt hn7 il hc8 ho hk hpz)⟩) (by decide) (by decide)
    · skip
      refine ownStep (fun _ k => XS.icmpYes X11.here hx rfl (pc0 := 50) (pc' := 68) rfl (hb hby own_step_d50) rfl (flt (hc50 : ¬ (1 : Int32) < kq)).2.2.2 (by decide) (by decide) k) ?_
      refine ownStep (fun _ k => XS.iloadN X11.here hx rfl (hb hby own_step_d68) rfl  k) ?_
      refine ownStep (fun _ k => XS.iloadN X11.here hx rfl (hb hby own_step_d69) rfl  k) ?_
      refine ownStep (fun _ k => XS.iconst X11.here hx rfl (hb hby own_step_d70) k) ?_
      refine ownStep (fun _ k => XS.isub X11.here hx rfl (hb hby own_step_d71) rfl k) ?_
      show ownGo p.tables e below (T11.setTop (mkF m 72 #[.val (.ref r_), .val (.int ii), .val (.int mm), .val (.int pp), .val (.int xx), .val (.int cc), .val (.ref sb), .val (.int kq), .val (.long (10000 : Int64)), .second, .unset] [(.int (mm - (1 : Int32))), (.int ii)])) _
      by_cases hc72 : ii = (mm - (1 : Int32))
      · skip
        refine ownStep (fun _ k => XS.icmpNo X11.here hx rfl (hb hby own_step_d72) rfl (teq (hc72 : ii = (mm - (1 : Int32)))).2 k) ?_
        refine ownStep (fun _ k => XS.iconst X11.here hx rfl (hb hby own_step_d75) k) ?_
        refine ownStep (fun _ k => XS.goto X11.here hx rfl (pc0 := 76) (pc' := 80) rfl (hb hby own_step_d76) (by decide) (by decide) k) ?_
        refine ownStep (fun _ k => XS.istore X11.here hx rfl (hb hby own_step_d80) rfl (l' := #[.val (.ref r_), .val (.int ii), .val (.int mm), .val (.int pp), .val (.int xx), .val (.int cc), .val (.ref sb), .val (.int kq), .val (.long (10000 : Int64)), .second, .val (.int (1 : Int32))]) rfl k) ?_
        refine ownStep (fun _ k => XS.iload X11.here hx rfl (hb hby own_step_d82) rfl  k) ?_
        show ownGo p.tables e below (T11.setTop (mkF m 84 #[.val (.ref r_), .val (.int ii), .val (.int mm), .val (.int pp), .val (.int xx), .val (.int cc), .val (.ref sb), .val (.int kq), .val (.long (10000 : Int64)), .second, .val (.int (1 : Int32))] [(.int (1 : Int32))])) _
        refine ownStep (fun _ k => XS.ifYes X11.here hx rfl (pc0 := 84) (pc' := 104) rfl (hb hby own_step_d84) rfl ((if0 _ _).trans (feq (by decide : ¬ (1 : Int32) = (0 : Int32))).2) (by decide) (by decide) k) ?_
        refine ownStep (fun _ k => XS.aload X11.here hx rfl (hb hby own_step_d104) rfl rfl k) ?_
        refine ownStep (fun _ k => XS.iloadN X11.here hx rfl (hb hby own_step_d106) rfl  k) ?_
        refine ownStep (fun _ k => XS.iload X11.here hx rfl (hb hby own_step_d107) rfl  k) ?_
        show ownGo p.tables e below (T11.setTop (mkF m 109 #[.val (.ref r_), .val (.int ii), .val (.int mm), .val (.int pp), .val (.int xx), .val (.int cc), .val (.ref sb), .val (.int kq), .val (.long (10000 : Int64)), .second, .val (.int (1 : Int32))] [(.int xx), (.int pp), (.ref sb)])) _
        have Zs18 : n0 ≤ h0.size := Nat.le_trans Z0 KP0.1
        obtain ⟨_, _, ⟨T17, L17, k17, n17⟩, -, X17, ⟨Lc17, hQ17, l17, y17, z17⟩, st17⟩ := Jvm.LawKit.callS X11 hx (y := (⟨"com/example/circuline/circuline/storage/InsertSplitPinLaw", "runOk", "(Ljava/util/List;II)Z"⟩ : MethodName)) hown (mvT hZ (hw _ (List.mem_of_getElem? (i := 165) rfl))) (mvT hZ (hw _ (List.mem_of_getElem? (i := 166) rfl))) (mvT hZ (hw _ (List.mem_of_getElem? (i := 129) rfl))) (mvT hZ (hw _ (List.mem_of_getElem? (i := 167) rfl))) (by decide) (backOf (W := 0) (own_runok l Z a0 hw [] sb a dd cl nn mc xx oo kq pp h0 n0 Zs18 P3 P4 P5 P6 P7 Ea Fe Fm A hsz HB hr.2.1 hr.2.2.1 hr.1 hn7 hpz) hZ (hw _ (List.mem_of_getElem? (i := 167) rfl)) (hw _ (List.mem_of_getElem? (i := 129) rfl)) (by decide) (by decide)) (g := (mkF m 109 #[.val (.ref r_), .val (.int ii), .val (.int mm), .val (.int pp), .val (.int xx), .val (.int cc), .val (.ref sb), .val (.int kq), .val (.long (10000 : Int64)), .second, .val (.int (1 : Int32))] [(.int xx), (.int pp), (.ref sb)])) rfl (by rw [hml]; rfl) (argsL := [(.ref sb), (.int pp), (.int xx)]) (rest := []) (lenOf own_step_pd2 rfl) rfl (by show 2 * 0 + _ ≤ _; exact Nat.le_of_eq rfl) (hb hby own_step_d109) (fun _ _ => ⟨rfl, R11, (by decide : 0 + 0 ≤ _), (by decide : 0 + 0 ≤ _)⟩)
        dsimp only [Pt.U, Pt.locs, Pt.cells, Pt.slots] at X17 l17 y17 z17 st17 hQ17
        obtain rfl : k17 = 0 := y17
        obtain rfl : n17 = 0 := z17
        obtain ⟨rfl, N17q, R17⟩ := hQ17
        have N17 : Fr n0 L17 := l17 ▸ Fr.app N11 N17q
        refine ownStep (fun _ k => st17 _ k) ?_
        refine ownStep (fun _ k => XS.ifYes X17.here hx rfl (pc0 := 112) (pc' := 117) rfl (hb hby own_step_d112) rfl ((if0 _ _).trans (feq (by decide : ¬ (1 : Int32) = (0 : Int32))).2) (by decide) (by decide) k) ?_
        refine ownStep (fun _ k => XS.iloadN X17.here hx rfl (hb hby own_step_d117) rfl  k) ?_
        refine ownStep (fun _ k => XS.iload X17.here hx rfl (hb hby own_step_d118) rfl  k) ?_
        refine ownStep (fun _ k => XS.iadd X17.here hx rfl (hb hby own_step_d120) rfl k) ?_
        show ownGo p.tables e below (T17.setTop (mkF m 121 #[.val (.ref r_), .val (.int ii), .val (.int mm), .val (.int pp), .val (.int xx), .val (.int cc), .val (.ref sb), .val (.int kq), .val (.long (10000 : Int64)), .second, .val (.int (1 : Int32))] [(.int (pp + kq))])) _
        exact ownRet X17 (v := some (.int (pp + kq))) Bd.notSynchronized (fun h => by rw [Bd.returns] at h; cases h) (fun _ hr => retI X17 hx Bd.returns (hb hby own_step_d121) hr) (by rw [R17]; exact ⟨(pp + kq), rfl, N17, rfl, (own_next hzp hcnt hn7 il hc8 ho hk hpz)⟩) (by decide) (by decide)
      · skip
        refine ownStep (fun _ k => XS.icmpYes X11.here hx rfl (pc0 := 72) (pc' := 79) rfl (hb hby own_step_d72) rfl (feq (hc72 : ¬ ii = (mm - (1 : Int32)))).2 (by decide) (by decide) k) ?_
        refine ownStep (fun _ k => XS.iconst X11.here hx rfl (hb hby own_step_d79) k) ?_
        refine ownStep (fun _ k => XS.istore X11.here hx rfl (hb hby own_step_d80) rfl (l' := #[.val (.ref r_), .val (.int ii), .val (.int mm), .val (.int pp), .val (.int xx), .val (.int cc), .val (.ref sb), .val (.int kq), .val (.long (10000 : Int64)), .second, .val (.int (0 : Int32))]) rfl k) ?_
        refine ownStep (fun _ k => XS.iload X11.here hx rfl (hb hby own_step_d82) rfl  k) ?_
        refine ownStep (fun _ k => XS.ifNo X11.here hx rfl (hb hby own_step_d84) rfl ((if0 _ _).trans (teq (by decide : (0 : Int32) = (0 : Int32))).2) k) ?_
        show ownGo p.tables e below (T11.setTop (mkF m 87 #[.val (.ref r_), .val (.int ii), .val (.int mm), .val (.int pp), .val (.int xx), .val (.int cc), .val (.ref sb), .val (.int kq), .val (.long (10000 : Int64)), .second, .val (.int (0 : Int32))] [])) _
        refine ownStep (fun _ k => XS.iload X11.here hx rfl (hb hby own_step_d87) rfl  k) ?_
        refine ownStep (fun _ k => XS.iconst X11.here hx rfl (hb hby own_step_d89) k) ?_
        refine ownStep (fun _ k => XS.iadd X11.here hx rfl (hb hby own_step_d90) rfl k) ?_
        refine ownStep (fun _ k => XS.i2l X11.here hx rfl (hb hby own_step_d91) rfl k) ?_
        refine ownStep (fun _ k => XS.iload X11.here hx rfl (hb hby own_step_d92) rfl  k) ?_
        show ownGo p.tables e below (T11.setTop (mkF m 94 #[.val (.ref r_), .val (.int ii), .val (.int mm), .val (.int pp), .val (.int xx), .val (.int cc), .val (.ref sb), .val (.int kq), .val (.long (10000 : Int64)), .second, .val (.int (0 : Int32))] [(.int cc), (.long ((kq + (1 : Int32)).toInt64))])) _
        refine ownStep (fun _ k => XS.i2l X11.here hx rfl (hb hby own_step_d94) rfl k) ?_
        refine ownStep (fun _ k => XS.lmul X11.here hx rfl (hb hby own_step_d95) rfl k) ?_
        refine ownStep (fun _ k => XS.lload X11.here hx rfl (hb hby own_step_d96) rfl  k) ?_
        refine ownStep (fun _ k => XS.lcmp X11.here hx rfl (hb hby own_step_d98) rfl k) ?_
        refine ownStep (fun _ k => XS.ifYes X11.here hx rfl (pc0 := 99) (pc' := 104) rfl (hb hby own_step_d99) rfl ((if0 _ _).trans (tlt ((own_c2 hzp (hr.2.2.2.2.2 (own_nlast hcnt hc72))) : (0 : Int32) < (lcmpW (((kq + (1 : Int32)).toInt64) * (cc.toInt64)) (10000 : Int64)))).2.2.1) (by decide) (by decide) k) ?_
        show ownGo p.tables e below (T11.setTop (mkF m 104 #[.val (.ref r_), .val (.int ii), .val (.int mm), .val (.int pp), .val (.int xx), .val (.int cc), .val (.ref sb), .val (.int kq), .val (.long (10000 : Int64)), .second, .val (.int (0 : Int32))] [])) _
        refine ownStep (fun _ k => XS.aload X11.here hx rfl (hb hby own_step_d104) rfl rfl k) ?_
        refine ownStep (fun _ k => XS.iloadN X11.here hx rfl (hb hby own_step_d106) rfl  k) ?_
        refine ownStep (fun _ k => XS.iload X11.here hx rfl (hb hby own_step_d107) rfl  k) ?_
        show ownGo p.tables e below (T11.setTop (mkF m 109 #[.val (.ref r_), .val (.int ii), .val (.int mm), .val (.int pp), .val (.int xx), .val (.int cc), .val (.ref sb), .val (.int kq), .val (.long (10000 : Int64)), .second, .val (.int (0 : Int32))] [(.int xx), (.int pp), (.ref sb)])) _
        have Zs20 : n0 ≤ h0.size := Nat.le_trans Z0 KP0.1
        obtain ⟨_, _, ⟨T19, L19, k19, n19⟩, -, X19, ⟨Lc19, hQ19, l19, y19, z19⟩, st19⟩ := Jvm.LawKit.callS X11 hx (y := (⟨"com/example/circuline/circuline/storage/InsertSplitPinLaw", "runOk", "(Ljava/util/List;II)Z"⟩ : MethodName)) hown (mvT hZ (hw _ (List.mem_of_getElem? (i := 165) rfl))) (mvT hZ (hw _ (List.mem_of_getElem? (i := 166) rfl))) (mvT hZ (hw _ (List.mem_of_getElem? (i := 129) rfl))) (mvT hZ (hw _ (List.mem_of_getElem? (i := 167) rfl))) (by decide) (backOf (W := 0) (own_runok l Z a0 hw [] sb a dd cl nn mc xx oo kq pp h0 n0 Zs20 P3 P4 P5 P6 P7 Ea Fe Fm A hsz HB hr.2.1 hr.2.2.1 hr.1 hn7 hpz) hZ (hw _ (List.mem_of_getElem? (i := 167) rfl)) (hw _ (List.mem_of_getElem? (i := 129) rfl)) (by decide) (by decide)) (g := (mkF m 109 #[.val (.ref r_), .val (.int ii), .val (.int mm), .val (.int pp), .val (.int xx), .val (.int cc), .val (.ref sb), .val (.int kq), .val (.long (10000 : Int64)), .second, .val (.int (0 : Int32))] [(.int xx), (.int pp), (.ref sb)])) rfl (by rw [hml]; rfl) (argsL := [(.ref sb), (.int pp), (.int xx)]) (rest := []) (lenOf own_step_pd2 rfl) rfl (by show 2 * 0 + _ ≤ _; exact Nat.le_of_eq rfl) (hb hby own_step_d109) (fun _ _ => ⟨rfl, R11, (by decide : 0 + 0 ≤ _), (by decide : 0 + 0 ≤ _)⟩)
        dsimp only [Pt.U, Pt.locs, Pt.cells, Pt.slots] at X19 l19 y19 z19 st19 hQ19
        obtain rfl : k19 = 0 := y19
        obtain rfl : n19 = 0 := z19
        obtain ⟨rfl, N19q, R19⟩ := hQ19
        have N19 : Fr n0 L19 := l19 ▸ Fr.app N11 N19q
        refine ownStep (fun _ k => st19 _ k) ?_
        refine ownStep (fun _ k => XS.ifYes X19.here hx rfl (pc0 := 112) (pc' := 117) rfl (hb hby own_step_d112) rfl ((if0 _ _).trans (feq (by decide : ¬ (1 : Int32) = (0 : Int32))).2) (by decide) (by decide) k) ?_
        refine ownStep (fun _ k => XS.iloadN X19.here hx rfl (hb hby own_step_d117) rfl  k) ?_
        refine ownStep (fun _ k => XS.iload X19.here hx rfl (hb hby own_step_d118) rfl  k) ?_
        refine ownStep (fun _ k => XS.iadd X19.here hx rfl (hb hby own_step_d120) rfl k) ?_
        show ownGo p.tables e below (T19.setTop (mkF m 121 #[.val (.ref r_), .val (.int ii), .val (.int mm), .val (.int pp), .val (.int xx), .val (.int cc), .val (.ref sb), .val (.int kq), .val (.long (10000 : Int64)), .second, .val (.int (0 : Int32))] [(.int (pp + kq))])) _
        exact ownRet X19 (v := some (.int (pp + kq))) Bd.notSynchronized (fun h => by rw [Bd.returns] at h; cases h) (fun _ hr => retI X19 hx Bd.returns (hb hby own_step_d121) hr) (by rw [R19]; exact ⟨(pp + kq), rfl, N19, rfl, (own_next hzp hcnt hn7 il hc8 ho hk hpz)⟩) (by decide) (by decide)
  · skip
    refine ownStep (fun _ k => XS.icmpNo X0.here hx rfl (hb hby own_step_d8) rfl (flt (hc8 : ¬ ii < mm)).1 k) ?_
    refine ownStep (fun _ k => XS.iloadN X0.here hx rfl (hb hby own_step_d11) rfl  k) ?_
    show ownGo p.tables e below (s₁.setTop (mkF m 12 #[.val (.ref r_), .val (.int ii), .val (.int mm), .val (.int pp), .val (.int xx), .val (.int cc), .unset, .unset, .unset, .unset, .unset] [(.int pp)])) _
    exact ownRet X0 (v := some (.int pp)) Bd.notSynchronized (fun h => by rw [Bd.returns] at h; cases h) (fun _ hr => retI X0 hx Bd.returns (hb hby own_step_d12) hr) (by rw [e0]; exact ⟨pp, rfl, N0, rfl, (own_stay i7 hpos hc8)⟩) (by decide) (by decide)
theorem own_al_max_10_1_d0 : decode jdk_29_method_65_code 0 = .ok (.iload_n 0, 1) := by decide +kernel
theorem own_al_max_10_1_d1 : decode jdk_29_method_65_code 1 = .ok (.iload_n 1, 1) := by decide +kernel
theorem own_al_max_10_1_d2 : decode jdk_29_method_65_code 2 = .ok (.if_icmp .lt 7, 3) := by decide +kernel
theorem own_al_max_10_1_d5 : decode jdk_29_method_65_code 5 = .ok (.iload_n 0, 1) := by decide +kernel
theorem own_al_max_10_1_d6 : decode jdk_29_method_65_code 6 = .ok (.goto 4, 3) := by decide +kernel
theorem own_al_max_10_1_d10 : decode jdk_29_method_65_code 10 = .ok (.ireturn, 1) := by decide +kernel
theorem own_al_max_10_1_ef (m : MethodId) (x0 : Int32) (x1 : Int32) : entryFrame m #[(.int x0), (.int x1)] 2 = mkF m 0 #[.val (.int x0), .val (.int x1)] [] := by first | (simp [entryFrame, mkF, argsToLocals, Value.category]; done) | rfl
def own_al_max_10_1_Q (Z : State)  (h0 : Heap) (n0 : Nat) (vv_ : Option Value) (hh_ : Heap) (LL_ : List Loc) : Prop := vv_ = some (.int (10 : Int32)) ∧ Fr n0 LL_ ∧ hh_ = h0
set_option maxRecDepth 65536 in
set_option maxHeartbeats 40000000 in
theorem own_al_max_10_1 (l : Launch) (Z : State) (a0 : Array Value) (hw : ∀ d ∈ tables_1, d.before a0 Z = true) (ws : List Jvm.Cond)  (h0 : Heap) (n0 : Nat) (Z0 : n0 ≤ h0.size) :
    MetFree l (⟨"java/lang/Math", "max", "(II)I"⟩ : MethodName) (head1 (Jvm.Cond.code (⟨"java/lang/Math", "max", "(II)I"⟩ : MethodName) jdk_29_method_65_code 2 (some .int) :: ws) ({ frames := 0, cells := 0, slots := 0, locals := 0 } : Room)) (fun aa_ UU_ => aa_ = #[(.int (10 : Int32)), (.int (1 : Int32))] ∧ Z.Warmed39 UU_.vm ∧ UU_.heap = h0) (fun _ _ _ _ _ => True) (fun _ UU_ oo_ UV_ => ∃ vv_ LL_, oo_ = .returned vv_ ∧ own_al_max_10_1_Q Z  h0 n0 vv_ UV_.heap LL_ ∧ FrameEnd UU_ oo_ UV_ LL_ ({ frames := 0, cells := 0, slots := 0, locals := 0 } : Room).cells ({ frames := 0, cells := 0, slots := 0, locals := 0 } : Room).slots) := by
  refine MetFree.of_bodySF (Jvm.Free.JP.mathPlain rfl (by decide +kernel)) hisR ?_
  intro p e s m args below meth c s₁ Bd hml0 hP hK
  obtain ⟨rfl, hZ, hh⟩ := hP
  have hx := Bd.exec
  have hby := Bd.bytes
  have hml : c.maxLocals = 2 := hml0
  have hown : s.vm.findClass "java/lang/Math" = some m.cls := findClass_of_methodNamed Bd.named
  have hnm := (name_of_methodNamed Bd.named Bd.method).1
  have X0 : Stand p l e ({ frames := 0, cells := 0, slots := 0, locals := 0 } : Room) s m #[(.int (10 : Int32)), (.int (1 : Int32))] below meth c s₁ [] 0 0 := Stand.of_body Bd
  have e0 : s₁.heap = h0 := by rw [← hh, Bd.state]; rfl
  have N0 := Fr.nil n0
  have KP0 : Keep h0 h0 [] := Keep.refl _ _
  refine ownFin (Q := own_al_max_10_1_Q Z  h0 n0) ?_
  refine ownStep (fun _ k => castTop (own_al_max_10_1_ef m (10 : Int32) (1 : Int32)) k) ?_
  show ownGo p.tables e below (s₁.setTop (mkF m 0 #[.val (.int (10 : Int32)), .val (.int (1 : Int32))] [])) _
  refine ownStep (fun _ k => XS.iloadN X0.here hx rfl (hb hby own_al_max_10_1_d0) rfl  k) ?_
  refine ownStep (fun _ k => XS.iloadN X0.here hx rfl (hb hby own_al_max_10_1_d1) rfl  k) ?_
  refine ownStep (fun _ k => XS.icmpNo X0.here hx rfl (hb hby own_al_max_10_1_d2) rfl (flt (by decide : ¬ (10 : Int32) < (1 : Int32))).1 k) ?_
  refine ownStep (fun _ k => XS.iloadN X0.here hx rfl (hb hby own_al_max_10_1_d5) rfl  k) ?_
  refine ownStep (fun _ k => XS.goto X0.here hx rfl (pc0 := 6) (pc' := 10) rfl (hb hby own_al_max_10_1_d6) (by decide) (by decide) k) ?_
  show ownGo p.tables e below (s₁.setTop (mkF m 10 #[.val (.int (10 : Int32)), .val (.int (1 : Int32))] [(.int (10 : Int32))])) _
  exact ownRet X0 (v := some (.int (10 : Int32))) Bd.notSynchronized (fun h => by rw [Bd.returns] at h; cases h) (fun _ hr => retI X0 hx Bd.returns (hb hby own_al_max_10_1_d10) hr) (by rw [e0]; exact ⟨rfl, N0, rfl⟩) (by decide) (by decide)
theorem own_al_growI_d0 : decode jdk_38_method_6_code 0 = .ok (.aload_n 0, 1) := by decide +kernel
theorem own_al_growI_d1 : decode jdk_38_method_6_code 1 = .ok (.getfield 9, 3) := by decide +kernel
theorem own_al_growI_d4 : decode jdk_38_method_6_code 4 = .ok (.arraylength, 1) := by decide +kernel
theorem own_al_growI_d5 : decode jdk_38_method_6_code 5 = .ok (.istore_n 2, 1) := by decide +kernel
theorem own_al_growI_d6 : decode jdk_38_method_6_code 6 = .ok (.iload_n 2, 1) := by decide +kernel
theorem own_al_growI_d7 : decode jdk_38_method_6_code 7 = .ok (.ifCond .gt 13, 3) := by decide +kernel
theorem own_al_growI_d10 : decode jdk_38_method_6_code 10 = .ok (.aload_n 0, 1) := by decide +kernel
theorem own_al_growI_d11 : decode jdk_38_method_6_code 11 = .ok (.getfield 9, 3) := by decide +kernel
theorem own_al_growI_d14 : decode jdk_38_method_6_code 14 = .ok (.getstatic 39, 3) := by decide +kernel
theorem own_al_growI_d17 : decode jdk_38_method_6_code 17 = .ok (.if_acmp .eq 28, 3) := by decide +kernel
theorem own_al_growI_d45 : decode jdk_38_method_6_code 45 = .ok (.aload_n 0, 1) := by decide +kernel
theorem own_al_growI_d46 : decode jdk_38_method_6_code 46 = .ok (.bipush 10, 2) := by decide +kernel
theorem own_al_growI_d48 : decode jdk_38_method_6_code 48 = .ok (.iload_n 1, 1) := by decide +kernel
theorem own_al_growI_d49 : decode jdk_38_method_6_code 49 = .ok (.invokestatic 79, 3) := by decide +kernel
theorem own_al_growI_d52 : decode jdk_38_method_6_code 52 = .ok (.anewarray 7, 3) := by decide +kernel
theorem own_al_growI_d55 : decode jdk_38_method_6_code 55 = .ok (.dup_x1, 1) := by decide +kernel
theorem own_al_growI_d56 : decode jdk_38_method_6_code 56 = .ok (.putfield 9, 3) := by decide +kernel
theorem own_al_growI_d59 : decode jdk_38_method_6_code 59 = .ok (.areturn, 1) := by decide +kernel
theorem own_al_growI_pn : plainName "java/util/ArrayList" = true := by first | (simp [plainName, overriddenIn]; done) | decide +kernel
theorem own_al_growI_pd0 : parseMethodDescriptor "(II)I" = some ⟨[.int, .int], some .int⟩ := by decide +kernel
theorem own_al_growI_ef (m : MethodId) (x0 : Addr) (x1 : Int32) : entryFrame m #[(.ref x0), (.int x1)] 4 = mkF m 0 #[.val (.ref x0), .val (.int x1), .unset, .unset] [] := by first | (simp [entryFrame, mkF, argsToLocals, Value.category]; done) | rfl
def own_al_growI_Q (Z : State) (a : Addr) (ed : Addr) (kd : ClassId) (mc : Int32) (h0 : Heap) (n0 : Nat) (vv_ : Option Value) (hh_ : Heap) (LL_ : List Loc) : Prop := ∃ dd : Addr, ∃ kk : ClassId, vv_ = some (.ref dd) ∧ Fr n0 LL_ ∧ Keep h0 hh_ [a] ∧ (Fld Z hh_ a "java/util/ArrayList" "elementData" "[Ljava/lang/Object;" (.ref dd)) ∧ (Fld Z hh_ a "java/util/ArrayList" "size" "I" (.int (0 : Int32))) ∧ (Fld Z hh_ a "java/util/AbstractList" "modCount" "I" (.int mc)) ∧ (Arv Z hh_ dd kk (.object "java/lang/Object") (10 : Int32) [.null, .null, .null, .null, .null, .null, .null, .null, .null, .null] .null) ∧ (Ovr Z kk "java/lang/Object") ∧ (h0.size ≤ dd)
set_option maxRecDepth 65536 in
set_option maxHeartbeats 40000000 in
theorem own_al_growI (l : Launch) (Z : State) (a0 : Array Value) (hw : ∀ d ∈ tables_1, d.before a0 Z = true) (ws : List Jvm.Cond) (a : Addr) (ed : Addr) (kd : ClassId) (mc : Int32) (h0 : Heap) (n0 : Nat) (Z0 : n0 ≤ h0.size) (hOld : Old Z n0 h0) (S : Sta Z Z.heap "java/util/ArrayList" "DEFAULTCAPACITY_EMPTY_ELEMENTDATA" "[Ljava/lang/Object;" (.ref ed)) (V : Arv Z Z.heap ed kd (.object "java/lang/Object") (0 : Int32) [] .null) (E : Exa Z h0 a "java/util/ArrayList") (Fe : Fld Z h0 a "java/util/ArrayList" "elementData" "[Ljava/lang/Object;" (.ref ed)) (Fs : Fld Z h0 a "java/util/ArrayList" "size" "I" (.int (0 : Int32))) (Fm : Fld Z h0 a "java/util/AbstractList" "modCount" "I" (.int mc)) (g : n0 ≤ a) :
    MetFree l (⟨"java/util/ArrayList", "grow", "(I)[Ljava/lang/Object;"⟩ : MethodName) (head1 (Jvm.Cond.code (⟨"java/util/ArrayList", "grow", "(I)[Ljava/lang/Object;"⟩ : MethodName) jdk_38_method_6_code 4 (some (.array (.object "java/lang/Object"))) :: ws) ({ frames := 1, cells := 1, slots := 10, locals := 14 } : Room)) (fun aa_ UU_ => aa_ = #[(.ref a), (.int (1 : Int32))] ∧ Z.Warmed39 UU_.vm ∧ UU_.heap = h0) (fun _ _ _ _ _ => True) (fun _ UU_ oo_ UV_ => ∃ vv_ LL_, oo_ = .returned vv_ ∧ own_al_growI_Q Z a ed kd mc h0 n0 vv_ UV_.heap LL_ ∧ FrameEnd UU_ oo_ UV_ LL_ ({ frames := 1, cells := 1, slots := 10, locals := 14 } : Room).cells ({ frames := 1, cells := 1, slots := 10, locals := 14 } : Room).slots) := by
  refine MetFree.of_bodySF (plainFor_of_name own_al_growI_pn) hisR ?_
  intro p e s m args below meth c s₁ Bd hml0 hP hK
  obtain ⟨rfl, hZ, hh⟩ := hP
  have hx := Bd.exec
  have hby := Bd.bytes
  have hml : c.maxLocals = 4 := hml0
  have hown : s.vm.findClass "java/util/ArrayList" = some m.cls := findClass_of_methodNamed Bd.named
  have hnm := (name_of_methodNamed Bd.named Bd.method).1
  have X0 : Stand p l e ({ frames := 1, cells := 1, slots := 10, locals := 14 } : Room) s m #[(.ref a), (.int (1 : Int32))] below meth c s₁ [] 0 0 := Stand.of_body Bd
  have e0 : s₁.heap = h0 := by rw [← hh, Bd.state]; rfl
  have N0 := Fr.nil n0
  have KP0 : Keep h0 h0 [a] := Keep.refl _ _
  refine ownFin (Q := own_al_growI_Q Z a ed kd mc h0 n0) ?_
  refine ownStep (fun _ k => castTop (own_al_growI_ef m a (1 : Int32)) k) ?_
  show ownGo p.tables e below (s₁.setTop (mkF m 0 #[.val (.ref a), .val (.int (1 : Int32)), .unset, .unset] [])) _
  refine ownStep (fun _ k => XS.aloadN X0.here hx rfl (hb hby own_al_growI_d0) rfl rfl k) ?_
  show ownGo p.tables e below (s₁.setTop (mkF m 1 #[.val (.ref a), .val (.int (1 : Int32)), .unset, .unset] [(.ref a)])) _
  obtain ⟨T1, X1, e1, st1⟩ := getF X0 hx hZ hown (host := "") (Or.inl (hw _ (List.mem_of_getElem? (i := 29) rfl))) Via.refl e0 Fe (g := (mkF m 1 #[.val (.ref a), .val (.int (1 : Int32)), .unset, .unset] [(.ref a)])) rfl rfl (hb hby own_al_growI_d1)
  refine ownStep st1 ?_
  show ownGo p.tables e below (T1.setTop (mkF m 4 #[.val (.ref a), .val (.int (1 : Int32)), .unset, .unset] [(.ref ed)])) _
  have Q3 : Arv Z h0 ed kd (.object "java/lang/Object") (0 : Int32) [] .null := V.ext hOld.2
  have Vo2 := Q3
  obtain ⟨cl2, Ar2, q2, S2, N2, H2, G2⟩ := Vo2
  refine ownStep (X1.arraylength hx (by rw [e1]; exact Ar2.1) (State.isArrayOf_alike hZ.alike Ar2.2.1) (g := (mkF m 4 #[.val (.ref a), .val (.int (1 : Int32)), .unset, .unset] [(.ref ed)])) rfl rfl (hb hby own_al_growI_d4)) ?_
  rw [len_of S2 N2]
  refine ownStep (fun _ k => XS.istoreN X1.here hx rfl (hb hby own_al_growI_d5) rfl (l' := #[.val (.ref a), .val (.int (1 : Int32)), .val (.int (0 : Int32)), .unset]) rfl k) ?_
  refine ownStep (fun _ k => XS.iloadN X1.here hx rfl (hb hby own_al_growI_d6) rfl  k) ?_
  refine ownStep (fun _ k => XS.ifNo X1.here hx rfl (hb hby own_al_growI_d7) rfl ((if0 _ _).trans (flt (by decide : ¬ (0 : Int32) < (0 : Int32))).2.2.1) k) ?_
  refine ownStep (fun _ k => XS.aloadN X1.here hx rfl (hb hby own_al_growI_d10) rfl rfl k) ?_
  show ownGo p.tables e below (T1.setTop (mkF m 11 #[.val (.ref a), .val (.int (1 : Int32)), .val (.int (0 : Int32)), .unset] [(.ref a)])) _
  obtain ⟨T4, X4, e4, st4⟩ := getF X1 hx hZ hown (host := "") (Or.inl (hw _ (List.mem_of_getElem? (i := 29) rfl))) Via.refl e1 Fe (g := (mkF m 11 #[.val (.ref a), .val (.int (1 : Int32)), .val (.int (0 : Int32)), .unset] [(.ref a)])) rfl rfl (hb hby own_al_growI_d11)
  refine ownStep st4 ?_
  show ownGo p.tables e below (T4.setTop (mkF m 14 #[.val (.ref a), .val (.int (1 : Int32)), .val (.int (0 : Int32)), .unset] [(.ref ed)])) _
  have Q5 : Sta Z h0 "java/util/ArrayList" "DEFAULTCAPACITY_EMPTY_ELEMENTDATA" "[Ljava/lang/Object;" (.ref ed) := S.ext hOld.2
  obtain ⟨T6, X6, e6, st6⟩ := getS2 X4 hx hZ hown (host := "") (Or.inl (hw _ (List.mem_of_getElem? (i := 28) rfl))) Via.refl e4 Q5 (g := (mkF m 14 #[.val (.ref a), .val (.int (1 : Int32)), .val (.int (0 : Int32)), .unset] [(.ref ed)])) rfl (hb hby own_al_growI_d14)
  refine ownStep st6 ?_
  show ownGo p.tables e below (T6.setTop (mkF m 17 #[.val (.ref a), .val (.int (1 : Int32)), .val (.int (0 : Int32)), .unset] [(.ref ed), (.ref ed)])) _
  refine ownStep (fun _ k => Jvm.RoadKit.acmp (g := (mkF m 17 #[.val (.ref a), .val (.int (1 : Int32)), .val (.int (0 : Int32)), .unset] [(.ref ed), (.ref ed)])) X6 hx rfl rfl rfl (pc0 := 17) (pc' := 45) (same := true) rfl (hb hby own_al_growI_d17) rfl (decide_eq_true rfl) (by decide) (by decide) k) ?_
  refine ownStep (fun _ k => XS.aloadN X6.here hx rfl (hb hby own_al_growI_d45) rfl rfl k) ?_
  refine ownStep (fun _ k => XS.bipush X6.here hx rfl (hb hby own_al_growI_d46) k) ?_
  refine ownStep (fun _ k => XS.iloadN X6.here hx rfl (hb hby own_al_growI_d48) rfl  k) ?_
  show ownGo p.tables e below (T6.setTop (mkF m 49 #[.val (.ref a), .val (.int (1 : Int32)), .val (.int (0 : Int32)), .unset] [(.int (1 : Int32)), (.int (10 : Int32)), (.ref a)])) _
  have Zs8 : n0 ≤ h0.size := Nat.le_trans Z0 KP0.1
  obtain ⟨_, _, ⟨T7, L7, k7, n7⟩, -, X7, ⟨Lc7, hQ7, l7, y7, z7⟩, st7⟩ := Jvm.LawKit.callS X6 hx (y := (⟨"java/lang/Math", "max", "(II)I"⟩ : MethodName)) hown (mvT hZ (hw _ (List.mem_of_getElem? (i := 79) rfl))) (mvT hZ (hw _ (List.mem_of_getElem? (i := 2) rfl))) (mvT hZ (hw _ (List.mem_of_getElem? (i := 3) rfl))) (mvT hZ (hw _ (List.mem_of_getElem? (i := 4) rfl))) (by decide) (backOf (W := 1) (own_al_max_10_1 l Z a0 hw []  h0 n0 Zs8 ) hZ (hw _ (List.mem_of_getElem? (i := 4) rfl)) (hw _ (List.mem_of_getElem? (i := 3) rfl)) (by decide) (by decide)) (g := (mkF m 49 #[.val (.ref a), .val (.int (1 : Int32)), .val (.int (0 : Int32)), .unset] [(.int (1 : Int32)), (.int (10 : Int32)), (.ref a)])) rfl (by rw [hml]; rfl) (argsL := [(.int (10 : Int32)), (.int (1 : Int32))]) (rest := [(.ref a)]) (lenOf own_al_growI_pd0 rfl) rfl (by show 2 * 0 + _ ≤ _; exact Nat.le_of_eq rfl) (hb hby own_al_growI_d49) (fun _ _ => ⟨rfl, e6, (by decide : 0 + 0 ≤ _), (by decide : 0 + 0 ≤ _)⟩)
  dsimp only [Pt.U, Pt.locs, Pt.cells, Pt.slots] at X7 l7 y7 z7 st7 hQ7
  obtain rfl : k7 = 0 := y7
  obtain rfl : n7 = 0 := z7
  obtain ⟨rfl, N7q, R7⟩ := hQ7
  have N7 : Fr n0 L7 := l7 ▸ Fr.app N0 N7q
  refine ownStep (fun _ k => st7 _ k) ?_
  show ownGo p.tables e below (T7.setTop (mkF m 52 #[.val (.ref a), .val (.int (1 : Int32)), .val (.int (0 : Int32)), .unset] [(.int (10 : Int32)), (.ref a)])) _
  obtain ⟨T9, h9, k9, X9, e9, E9, A9, O9, st9⟩ := newR X7 hx hZ hown (hw _ (List.mem_of_getElem? (i := 80) rfl)) (hw _ (List.mem_of_getElem? (i := 81) rfl)) R7 (g := (mkF m 52 #[.val (.ref a), .val (.int (1 : Int32)), .val (.int (0 : Int32)), .unset] [(.int (10 : Int32)), (.ref a)])) rfl (hb hby own_al_growI_d52) rfl (by decide) (cap := 10) (by decide) (by decide) (by decide) (by decide)
  obtain ⟨b9, g9⟩ : ∃ z, z = h0.size := ⟨_, rfl⟩
  rw [← g9] at A9 st9
  have gh_b9 : h0.size ≤ b9 := Nat.le_trans KP0.1 (Nat.le_of_eq g9.symm)
  have gn_b9 : n0 ≤ b9 := Nat.le_trans Z0 gh_b9
  have KP10 : Keep h0 h9 [a] := KP0.ext E9
  have V9 : Arv Z h9 b9 k9 (.object "java/lang/Object") (10 : Int32) [.null, .null, .null, .null, .null, .null, .null, .null, .null, .null] .null := (Arv.new A9 (by decide)).pad (pad_rep [] .null 10)
  refine ownStep st9 ?_
  refine ownStep (fun _ k => XS.dupX1 X9.here hx rfl (hb hby own_al_growI_d55) rfl rfl rfl k) ?_
  show ownGo p.tables e below (T9.setTop (mkF m 56 #[.val (.ref a), .val (.int (1 : Int32)), .val (.int (0 : Int32)), .unset] [(.ref b9), (.ref a), (.ref b9)])) _
  have Q11 : Fld Z h9 a "java/util/ArrayList" "elementData" "[Ljava/lang/Object;" (.ref ed) := (Fe.ext E9)
  have Q12 : Exa Z h9 a "java/util/ArrayList" := (E.ext E9)
  obtain ⟨T13, h13, X13, e13, W13, st13⟩ := putF X9 hx hZ hown (host := "") (Or.inl (hw _ (List.mem_of_getElem? (i := 29) rfl))) Via.refl e9 Q11 Q12 (Or.inl (hw _ (List.mem_of_getElem? (i := 30) rfl))) (hw _ (List.mem_of_getElem? (i := 6) rfl)) (ty := (.array (.object "java/lang/Object"))) (by decide) rfl rfl (g := (mkF m 56 #[.val (.ref a), .val (.int (1 : Int32)), .val (.int (0 : Int32)), .unset] [(.ref b9), (.ref a), (.ref b9)])) rfl rfl (hb hby own_al_growI_d56)
  have N14 := Fr.snoc X13 N7 g
  have KP15 : Keep h0 h13 [a] := KP10.wr W13 (Or.inl (List.mem_of_getElem? (i := 0) rfl))
  have F16 : Fld Z h13 a "java/util/ArrayList" "elementData" "[Ljava/lang/Object;" (.ref b9) := Q11.same W13
  refine ownStep st13 ?_
  show ownGo p.tables e below (T13.setTop (mkF m 59 #[.val (.ref a), .val (.int (1 : Int32)), .val (.int (0 : Int32)), .unset] [(.ref b9)])) _
  have Q17 : Fld Z h13 a "java/util/ArrayList" "size" "I" (.int (0 : Int32)) := ((Fs.ext E9).other W13 (Or.inr (slot_ne (Or.inl (hw _ (List.mem_of_getElem? (i := 48) rfl))) (Or.inl (hw _ (List.mem_of_getElem? (i := 30) rfl))) (by decide) (t := .int) (t' := (.array (.object "java/lang/Object"))) (by decide) (by decide))))
  have Q18 : Fld Z h13 a "java/util/AbstractList" "modCount" "I" (.int mc) := ((Fm.ext E9).other W13 (Or.inr (slot_ne (Or.inl (hw _ (List.mem_of_getElem? (i := 27) rfl))) (Or.inl (hw _ (List.mem_of_getElem? (i := 30) rfl))) (by decide) (t := .int) (t' := (.array (.object "java/lang/Object"))) (by decide) (by decide))))
  have ne19 : a ≠ b9 := Nat.ne_of_lt (Nat.lt_of_lt_of_le (Nat.lt_of_lt_of_le E.lt (Nat.le_refl _)) (Nat.le_of_eq g9.symm))
  have Q20 : Arv Z h13 b9 k9 (.object "java/lang/Object") (10 : Int32) [.null, .null, .null, .null, .null, .null, .null, .null, .null, .null] .null := (V9.other W13 (Ne.symm ne19))
  exact ownRet X13 (v := some (.ref b9)) Bd.notSynchronized (fun h => by rw [Bd.returns] at h; cases h) (fun _ hr => retOut X13 hx (t := (.array (.object "java/lang/Object"))) Bd.returns rfl (Or.inr (Or.inr (Or.inr (Or.inr ⟨rfl, rfl, rfl⟩)))) (hb hby own_al_growI_d59) hr) (by rw [e13]; exact ⟨b9, k9, rfl, N14, KP15, F16, Q17, Q18, Q20, O9, gh_b9⟩) (by decide) (by decide)
theorem own_al_grow_d0 : decode jdk_38_method_7_code 0 = .ok (.aload_n 0, 1) := by decide +kernel
theorem own_al_grow_d1 : decode jdk_38_method_7_code 1 = .ok (.aload_n 0, 1) := by decide +kernel
theorem own_al_grow_d2 : decode jdk_38_method_7_code 2 = .ok (.getfield 48, 3) := by decide +kernel
theorem own_al_grow_d5 : decode jdk_38_method_7_code 5 = .ok (.iconst 1, 1) := by decide +kernel
theorem own_al_grow_d6 : decode jdk_38_method_7_code 6 = .ok (.iadd, 1) := by decide +kernel
theorem own_al_grow_d7 : decode jdk_38_method_7_code 7 = .ok (.invokevirtual 69, 3) := by decide +kernel
theorem own_al_grow_d10 : decode jdk_38_method_7_code 10 = .ok (.areturn, 1) := by decide +kernel
theorem own_al_grow_pn : plainName "java/util/ArrayList" = true := by first | (simp [plainName, overriddenIn]; done) | decide +kernel
theorem own_al_grow_pd0 : parseMethodDescriptor "(I)[Ljava/lang/Object;" = some ⟨[.int], some (.array (.object "java/lang/Object"))⟩ := by decide +kernel
theorem own_al_grow_ef (m : MethodId) (x0 : Addr) : entryFrame m #[(.ref x0)] 1 = mkF m 0 #[.val (.ref x0)] [] := by first | (simp [entryFrame, mkF, argsToLocals, Value.category]; done) | rfl
def own_al_grow_Q (Z : State) (a : Addr) (ed : Addr) (kd : ClassId) (mc : Int32) (h0 : Heap) (n0 : Nat) (vv_ : Option Value) (hh_ : Heap) (LL_ : List Loc) : Prop := ∃ dd : Addr, ∃ kk : ClassId, vv_ = some (.ref dd) ∧ Fr n0 LL_ ∧ Keep h0 hh_ [a] ∧ (Fld Z hh_ a "java/util/ArrayList" "elementData" "[Ljava/lang/Object;" (.ref dd)) ∧ (Fld Z hh_ a "java/util/ArrayList" "size" "I" (.int (0 : Int32))) ∧ (Fld Z hh_ a "java/util/AbstractList" "modCount" "I" (.int mc)) ∧ (Arv Z hh_ dd kk (.object "java/lang/Object") (10 : Int32) [.null, .null, .null, .null, .null, .null, .null, .null, .null, .null] .null) ∧ (Ovr Z kk "java/lang/Object") ∧ (h0.size ≤ dd)
set_option maxRecDepth 65536 in
set_option maxHeartbeats 40000000 in
theorem own_al_grow (l : Launch) (Z : State) (a0 : Array Value) (hw : ∀ d ∈ tables_1, d.before a0 Z = true) (ws : List Jvm.Cond) (a : Addr) (ed : Addr) (kd : ClassId) (mc : Int32) (h0 : Heap) (n0 : Nat) (Z0 : n0 ≤ h0.size) (hOld : Old Z n0 h0) (S : Sta Z Z.heap "java/util/ArrayList" "DEFAULTCAPACITY_EMPTY_ELEMENTDATA" "[Ljava/lang/Object;" (.ref ed)) (V : Arv Z Z.heap ed kd (.object "java/lang/Object") (0 : Int32) [] .null) (E : Exa Z h0 a "java/util/ArrayList") (Fe : Fld Z h0 a "java/util/ArrayList" "elementData" "[Ljava/lang/Object;" (.ref ed)) (Fs : Fld Z h0 a "java/util/ArrayList" "size" "I" (.int (0 : Int32))) (Fm : Fld Z h0 a "java/util/AbstractList" "modCount" "I" (.int mc)) (g : n0 ≤ a) :
    MetFree l (⟨"java/util/ArrayList", "grow", "()[Ljava/lang/Object;"⟩ : MethodName) (head1 (Jvm.Cond.code (⟨"java/util/ArrayList", "grow", "()[Ljava/lang/Object;"⟩ : MethodName) jdk_38_method_7_code 1 (some (.array (.object "java/lang/Object"))) :: ws) ({ frames := 2, cells := 1, slots := 10, locals := 29 } : Room)) (fun aa_ UU_ => aa_ = #[(.ref a)] ∧ Z.Warmed39 UU_.vm ∧ UU_.heap = h0) (fun _ _ _ _ _ => True) (fun _ UU_ oo_ UV_ => ∃ vv_ LL_, oo_ = .returned vv_ ∧ own_al_grow_Q Z a ed kd mc h0 n0 vv_ UV_.heap LL_ ∧ FrameEnd UU_ oo_ UV_ LL_ ({ frames := 2, cells := 1, slots := 10, locals := 29 } : Room).cells ({ frames := 2, cells := 1, slots := 10, locals := 29 } : Room).slots) := by
  refine MetFree.of_bodySF (plainFor_of_name own_al_grow_pn) hisR ?_
  intro p e s m args below meth c s₁ Bd hml0 hP hK
  obtain ⟨rfl, hZ, hh⟩ := hP
  have hx := Bd.exec
  have hby := Bd.bytes
  have hml : c.maxLocals = 1 := hml0
  have hown : s.vm.findClass "java/util/ArrayList" = some m.cls := findClass_of_methodNamed Bd.named
  have hnm := (name_of_methodNamed Bd.named Bd.method).1
  have X0 : Stand p l e ({ frames := 2, cells := 1, slots := 10, locals := 29 } : Room) s m #[(.ref a)] below meth c s₁ [] 0 0 := Stand.of_body Bd
  have e0 : s₁.heap = h0 := by rw [← hh, Bd.state]; rfl
  have N0 := Fr.nil n0
  have KP0 : Keep h0 h0 [a] := Keep.refl _ _
  refine ownFin (Q := own_al_grow_Q Z a ed kd mc h0 n0) ?_
  refine ownStep (fun _ k => castTop (own_al_grow_ef m a) k) ?_
  show ownGo p.tables e below (s₁.setTop (mkF m 0 #[.val (.ref a)] [])) _
  refine ownStep (fun _ k => XS.aloadN X0.here hx rfl (hb hby own_al_grow_d0) rfl rfl k) ?_
  refine ownStep (fun _ k => XS.aloadN X0.here hx rfl (hb hby own_al_grow_d1) rfl rfl k) ?_
  show ownGo p.tables e below (s₁.setTop (mkF m 2 #[.val (.ref a)] [(.ref a), (.ref a)])) _
  obtain ⟨T1, X1, e1, st1⟩ := getF X0 hx hZ hown (host := "") (Or.inl (hw _ (List.mem_of_getElem? (i := 47) rfl))) Via.refl e0 Fs (g := (mkF m 2 #[.val (.ref a)] [(.ref a), (.ref a)])) rfl rfl (hb hby own_al_grow_d2)
  refine ownStep st1 ?_
  refine ownStep (fun _ k => XS.iconst X1.here hx rfl (hb hby own_al_grow_d5) k) ?_
  refine ownStep (fun _ k => XS.iadd X1.here hx rfl (hb hby own_al_grow_d6) rfl k) ?_
  show ownGo p.tables e below (T1.setTop (mkF m 7 #[.val (.ref a)] [(.int (1 : Int32)), (.ref a)])) _
  have Zs3 : n0 ≤ h0.size := Nat.le_trans Z0 KP0.1
  obtain ⟨cq2, q2, q2'⟩ := E.cell
  obtain ⟨_, _, ⟨T2, L2, k2, n2⟩, -, X2, ⟨Lc2, hQ2, l2, y2, z2⟩, st2⟩ := X1.privateBack hx (y := (⟨"java/util/ArrayList", "grow", "(I)[Ljava/lang/Object;"⟩ : MethodName)) hown (mvT hZ (hw _ (List.mem_of_getElem? (i := 74) rfl))) (mvT hZ (hw _ (List.mem_of_getElem? (i := 75) rfl))) (mvT hZ (hw _ (List.mem_of_getElem? (i := 77) rfl))) (Cond.privateMethod_at (mvP hZ (hw _ (List.mem_of_getElem? (i := 76) rfl)) (args := #[]))) (mvT hZ (hw _ (List.mem_of_getElem? (i := 78) rfl))) (by decide) (backOf (W := 0) (own_al_growI l Z a0 hw [] a ed kd mc h0 n0 Zs3 hOld S V E Fe Fs Fm g) hZ (hw _ (List.mem_of_getElem? (i := 78) rfl)) (hw _ (List.mem_of_getElem? (i := 7) rfl)) (by decide) (by decide)) (g := (mkF m 7 #[.val (.ref a)] [(.int (1 : Int32)), (.ref a)])) rfl (by rw [hml]; rfl) (Steps.refl _) (a := a) (by rw [e1]; exact q2) q2' (argsL := [(.int (1 : Int32))]) (rest := []) (lenOf own_al_grow_pd0 rfl) rfl (by show 2 * 0 + _ ≤ _; exact Nat.le_of_eq rfl) (hb hby own_al_grow_d7) (fun _ _ => ⟨rfl, e1, (by decide : 0 + 1 ≤ _), (by decide : 0 + 10 ≤ _)⟩)
  dsimp only [Pt.U, Pt.locs, Pt.cells, Pt.slots] at X2 l2 y2 z2 st2 hQ2
  obtain rfl : k2 = 1 := y2
  obtain rfl : n2 = 10 := z2
  obtain ⟨dd_2, kk_2, rfl, N2q, R2, P4, P5, P6, P7, P8, P9⟩ := hQ2
  have N2 : Fr n0 L2 := l2 ▸ Fr.app N0 N2q
  have gh_dd_2 : h0.size ≤ dd_2 := Nat.le_trans KP0.1 P9
  have gn_dd_2 : n0 ≤ dd_2 := Nat.le_trans Z0 gh_dd_2
  refine ownStep (fun _ k => st2.trans k) ?_
  have KP10 : Keep h0 T2.heap [a] := KP0.trans R2 (allS (Or.inl (List.mem_of_getElem? (i := 0) rfl)) all0)
  show ownGo p.tables e below (T2.setTop (mkF m 10 #[.val (.ref a)] [(.ref dd_2)])) _
  exact ownRet X2 (v := some (.ref dd_2)) Bd.notSynchronized (fun h => by rw [Bd.returns] at h; cases h) (fun _ hr => retOut X2 hx (t := (.array (.object "java/lang/Object"))) Bd.returns rfl (Or.inr (Or.inr (Or.inr (Or.inr ⟨rfl, rfl, rfl⟩)))) (hb hby own_al_grow_d10) hr) (⟨dd_2, kk_2, rfl, N2, KP10, P4, P5, P6, P7, P8, gh_dd_2⟩) (by decide) (by decide)
theorem own_al_add3_0_d0 : decode jdk_38_method_24_code 0 = .ok (.iload_n 3, 1) := by decide +kernel
theorem own_al_add3_0_d1 : decode jdk_38_method_24_code 1 = .ok (.aload_n 2, 1) := by decide +kernel
theorem own_al_add3_0_d2 : decode jdk_38_method_24_code 2 = .ok (.arraylength, 1) := by decide +kernel
theorem own_al_add3_0_d3 : decode jdk_38_method_24_code 3 = .ok (.if_icmp .ne 8, 3) := by decide +kernel
theorem own_al_add3_0_d6 : decode jdk_38_method_24_code 6 = .ok (.aload_n 0, 1) := by decide +kernel
theorem own_al_add3_0_d7 : decode jdk_38_method_24_code 7 = .ok (.invokevirtual 129, 3) := by decide +kernel
theorem own_al_add3_0_d10 : decode jdk_38_method_24_code 10 = .ok (.astore_n 2, 1) := by decide +kernel
theorem own_al_add3_0_d11 : decode jdk_38_method_24_code 11 = .ok (.aload_n 2, 1) := by decide +kernel
theorem own_al_add3_0_d12 : decode jdk_38_method_24_code 12 = .ok (.iload_n 3, 1) := by decide +kernel
theorem own_al_add3_0_d13 : decode jdk_38_method_24_code 13 = .ok (.aload_n 1, 1) := by decide +kernel
theorem own_al_add3_0_d14 : decode jdk_38_method_24_code 14 = .ok (.aastore, 1) := by decide +kernel
theorem own_al_add3_0_d15 : decode jdk_38_method_24_code 15 = .ok (.aload_n 0, 1) := by decide +kernel
theorem own_al_add3_0_d16 : decode jdk_38_method_24_code 16 = .ok (.iload_n 3, 1) := by decide +kernel
theorem own_al_add3_0_d17 : decode jdk_38_method_24_code 17 = .ok (.iconst 1, 1) := by decide +kernel
theorem own_al_add3_0_d18 : decode jdk_38_method_24_code 18 = .ok (.iadd, 1) := by decide +kernel
theorem own_al_add3_0_d19 : decode jdk_38_method_24_code 19 = .ok (.putfield 48, 3) := by decide +kernel
theorem own_al_add3_0_d22 : decode jdk_38_method_24_code 22 = .ok (.return_, 1) := by decide +kernel
theorem own_al_add3_0_pn : plainName "java/util/ArrayList" = true := by first | (simp [plainName, overriddenIn]; done) | decide +kernel
theorem own_al_add3_0_pd0 : parseMethodDescriptor "()[Ljava/lang/Object;" = some ⟨[], some (.array (.object "java/lang/Object"))⟩ := by decide +kernel
theorem own_al_add3_0_ef (m : MethodId) (x0 : Addr) (x1 : Addr) (x2 : Addr) (x3 : Int32) : entryFrame m #[(.ref x0), (.ref x1), (.ref x2), (.int x3)] 4 = mkF m 0 #[.val (.ref x0), .val (.ref x1), .val (.ref x2), .val (.int x3)] [] := by first | (simp [entryFrame, mkF, argsToLocals, Value.category]; done) | rfl
def own_al_add3_0_Q (Z : State) (a : Addr) (ed : Addr) (kd : ClassId) (mc : Int32) (ee : Addr) (h0 : Heap) (n0 : Nat) (vv_ : Option Value) (hh_ : Heap) (LL_ : List Loc) : Prop := ∃ dd : Addr, ∃ kk : ClassId, vv_ = none ∧ Fr n0 LL_ ∧ Keep h0 hh_ [a] ∧ (Fld Z hh_ a "java/util/ArrayList" "elementData" "[Ljava/lang/Object;" (.ref dd)) ∧ (Fld Z hh_ a "java/util/ArrayList" "size" "I" (.int (1 : Int32))) ∧ (Fld Z hh_ a "java/util/AbstractList" "modCount" "I" (.int mc)) ∧ (Arv Z hh_ dd kk (.object "java/lang/Object") (10 : Int32) [(.ref ee), .null, .null, .null, .null, .null, .null, .null, .null, .null] .null) ∧ (Ovr Z kk "java/lang/Object") ∧ (h0.size ≤ dd)
set_option maxRecDepth 65536 in
set_option maxHeartbeats 40000000 in
theorem own_al_add3_0 (l : Launch) (Z : State) (a0 : Array Value) (hw : ∀ d ∈ tables_1, d.before a0 Z = true) (ws : List Jvm.Cond) (a : Addr) (ed : Addr) (kd : ClassId) (mc : Int32) (ee : Addr) (h0 : Heap) (n0 : Nat) (Z0 : n0 ≤ h0.size) (hOld : Old Z n0 h0) (S : Sta Z Z.heap "java/util/ArrayList" "DEFAULTCAPACITY_EMPTY_ELEMENTDATA" "[Ljava/lang/Object;" (.ref ed)) (V : Arv Z Z.heap ed kd (.object "java/lang/Object") (0 : Int32) [] .null) (E : Exa Z h0 a "java/util/ArrayList") (Fe : Fld Z h0 a "java/util/ArrayList" "elementData" "[Ljava/lang/Object;" (.ref ed)) (Fs : Fld Z h0 a "java/util/ArrayList" "size" "I" (.int (0 : Int32))) (Fm : Fld Z h0 a "java/util/AbstractList" "modCount" "I" (.int mc)) (g : n0 ≤ a) (I : Ins Z h0 ee "java/lang/Object" true) :
    MetFree l (⟨"java/util/ArrayList", "add", "(Ljava/lang/Object;[Ljava/lang/Object;I)V"⟩ : MethodName) (head1 (Jvm.Cond.code (⟨"java/util/ArrayList", "add", "(Ljava/lang/Object;[Ljava/lang/Object;I)V"⟩ : MethodName) jdk_38_method_24_code 4 none :: ws) ({ frames := 3, cells := 1, slots := 10, locals := 41 } : Room)) (fun aa_ UU_ => aa_ = #[(.ref a), (.ref ee), (.ref ed), (.int (0 : Int32))] ∧ Z.Warmed39 UU_.vm ∧ UU_.heap = h0) (fun _ _ _ _ _ => True) (fun _ UU_ oo_ UV_ => ∃ vv_ LL_, oo_ = .returned vv_ ∧ own_al_add3_0_Q Z a ed kd mc ee h0 n0 vv_ UV_.heap LL_ ∧ FrameEnd UU_ oo_ UV_ LL_ ({ frames := 3, cells := 1, slots := 10, locals := 41 } : Room).cells ({ frames := 3, cells := 1, slots := 10, locals := 41 } : Room).slots) := by
  refine MetFree.of_bodySF (plainFor_of_name own_al_add3_0_pn) hisR ?_
  intro p e s m args below meth c s₁ Bd hml0 hP hK
  obtain ⟨rfl, hZ, hh⟩ := hP
  have hx := Bd.exec
  have hby := Bd.bytes
  have hml : c.maxLocals = 4 := hml0
  have hown : s.vm.findClass "java/util/ArrayList" = some m.cls := findClass_of_methodNamed Bd.named
  have hnm := (name_of_methodNamed Bd.named Bd.method).1
  have X0 : Stand p l e ({ frames := 3, cells := 1, slots := 10, locals := 41 } : Room) s m #[(.ref a), (.ref ee), (.ref ed), (.int (0 : Int32))] below meth c s₁ [] 0 0 := Stand.of_body Bd
  have e0 : s₁.heap = h0 := by rw [← hh, Bd.state]; rfl
  have N0 := Fr.nil n0
  have KP0 : Keep h0 h0 [a] := Keep.refl _ _
  refine ownFin (Q := own_al_add3_0_Q Z a ed kd mc ee h0 n0) ?_
  refine ownStep (fun _ k => castTop (own_al_add3_0_ef m a ee ed (0 : Int32)) k) ?_
  show ownGo p.tables e below (s₁.setTop (mkF m 0 #[.val (.ref a), .val (.ref ee), .val (.ref ed), .val (.int (0 : Int32))] [])) _
  refine ownStep (fun _ k => XS.iloadN X0.here hx rfl (hb hby own_al_add3_0_d0) rfl  k) ?_
  refine ownStep (fun _ k => XS.aloadN X0.here hx rfl (hb hby own_al_add3_0_d1) rfl rfl k) ?_
  show ownGo p.tables e below (s₁.setTop (mkF m 2 #[.val (.ref a), .val (.ref ee), .val (.ref ed), .val (.int (0 : Int32))] [(.ref ed), (.int (0 : Int32))])) _
  have Q2 : Arv Z h0 ed kd (.object "java/lang/Object") (0 : Int32) [] .null := V.ext hOld.2
  have Vo1 := Q2
  obtain ⟨cl1, Ar1, q1, S1, N1, H1, G1⟩ := Vo1
  refine ownStep (X0.arraylength hx (by rw [e0]; exact Ar1.1) (State.isArrayOf_alike hZ.alike Ar1.2.1) (g := (mkF m 2 #[.val (.ref a), .val (.ref ee), .val (.ref ed), .val (.int (0 : Int32))] [(.ref ed), (.int (0 : Int32))])) rfl rfl (hb hby own_al_add3_0_d2)) ?_
  rw [len_of S1 N1]
  refine ownStep (fun _ k => XS.icmpNo X0.here hx rfl (hb hby own_al_add3_0_d3) rfl (teq (by decide : (0 : Int32) = (0 : Int32))).2 k) ?_
  refine ownStep (fun _ k => XS.aloadN X0.here hx rfl (hb hby own_al_add3_0_d6) rfl rfl k) ?_
  show ownGo p.tables e below (s₁.setTop (mkF m 7 #[.val (.ref a), .val (.ref ee), .val (.ref ed), .val (.int (0 : Int32))] [(.ref a)])) _
  have Zs4 : n0 ≤ h0.size := Nat.le_trans Z0 KP0.1
  obtain ⟨cq3, q3, q3'⟩ := E.cell
  obtain ⟨_, _, ⟨T3, L3, k3, n3⟩, -, X3, ⟨Lc3, hQ3, l3, y3, z3⟩, st3⟩ := X0.privateBack hx (y := (⟨"java/util/ArrayList", "grow", "()[Ljava/lang/Object;"⟩ : MethodName)) hown (mvT hZ (hw _ (List.mem_of_getElem? (i := 69) rfl))) (mvT hZ (hw _ (List.mem_of_getElem? (i := 70) rfl))) (mvT hZ (hw _ (List.mem_of_getElem? (i := 72) rfl))) (Cond.privateMethod_at (mvP hZ (hw _ (List.mem_of_getElem? (i := 71) rfl)) (args := #[]))) (mvT hZ (hw _ (List.mem_of_getElem? (i := 73) rfl))) (by decide) (backOf (W := 0) (own_al_grow l Z a0 hw [] a ed kd mc h0 n0 Zs4 hOld S V E Fe Fs Fm g) hZ (hw _ (List.mem_of_getElem? (i := 73) rfl)) (hw _ (List.mem_of_getElem? (i := 7) rfl)) (by decide) (by decide)) (g := (mkF m 7 #[.val (.ref a), .val (.ref ee), .val (.ref ed), .val (.int (0 : Int32))] [(.ref a)])) rfl (by rw [hml]; rfl) (Steps.refl _) (a := a) (by rw [e0]; exact q3) q3' (argsL := []) (rest := []) (lenOf own_al_add3_0_pd0 rfl) rfl (by show 2 * 0 + _ ≤ _; exact Nat.le_of_eq rfl) (hb hby own_al_add3_0_d7) (fun _ _ => ⟨rfl, e0, (by decide : 0 + 1 ≤ _), (by decide : 0 + 10 ≤ _)⟩)
  dsimp only [Pt.U, Pt.locs, Pt.cells, Pt.slots] at X3 l3 y3 z3 st3 hQ3
  obtain rfl : k3 = 1 := y3
  obtain rfl : n3 = 10 := z3
  obtain ⟨dd_3, kk_3, rfl, N3q, R3, P5, P6, P7, P8, P9, P10⟩ := hQ3
  have N3 : Fr n0 L3 := l3 ▸ Fr.app N0 N3q
  have gh_dd_3 : h0.size ≤ dd_3 := Nat.le_trans KP0.1 P10
  have gn_dd_3 : n0 ≤ dd_3 := Nat.le_trans Z0 gh_dd_3
  refine ownStep (fun _ k => st3.trans k) ?_
  have KP11 : Keep h0 T3.heap [a] := KP0.trans R3 (allS (Or.inl (List.mem_of_getElem? (i := 0) rfl)) all0)
  refine ownStep (fun _ k => XS.astoreN X3.here hx rfl (hb hby own_al_add3_0_d10) rfl rfl (l' := #[.val (.ref a), .val (.ref ee), .val (.ref dd_3), .val (.int (0 : Int32))]) rfl k) ?_
  refine ownStep (fun _ k => XS.aloadN X3.here hx rfl (hb hby own_al_add3_0_d11) rfl rfl k) ?_
  refine ownStep (fun _ k => XS.iloadN X3.here hx rfl (hb hby own_al_add3_0_d12) rfl  k) ?_
  refine ownStep (fun _ k => XS.aloadN X3.here hx rfl (hb hby own_al_add3_0_d13) rfl rfl k) ?_
  show ownGo p.tables e below (T3.setTop (mkF m 14 #[.val (.ref a), .val (.ref ee), .val (.ref dd_3), .val (.int (0 : Int32))] [(.ref ee), (.int (0 : Int32)), (.ref dd_3)])) _
  have Vo12 := P8
  obtain ⟨cl12, Ar12, q12, S12, N12, H12, G12⟩ := Vo12
  have hin12 : ¬ ((0 : Int32) < 0 ∨ cl12.slots.size ≤ ((0 : Int32)).toNatClampNeg) := inb_of S12 ⟨by decide, by decide⟩
  have Q13 : Ins Z T3.heap ee "java/lang/Object" true := (own_insKeep I R3)
  obtain ⟨T14, h14, X14, e14, W14, st14⟩ := stR X3 hx hZ rfl Ar12 (j := (0 : Int32)) hin12 rfl (Sto.ofV Ar12 q12 P9 Q13) (g := (mkF m 14 #[.val (.ref a), .val (.ref ee), .val (.ref dd_3), .val (.int (0 : Int32))] [(.ref ee), (.int (0 : Int32)), (.ref dd_3)])) rfl rfl (hb hby own_al_add3_0_d14)
  have N15 := Fr.snoc X14 N3 gn_dd_3
  have KP16 : Keep h0 h14 [a] := KP11.wr W14 (Or.inr gh_dd_3)
  have V17 : Arv Z h14 dd_3 kk_3 (.object "java/lang/Object") (10 : Int32) [(.ref ee), .null, .null, .null, .null, .null, .null, .null, .null, .null] .null := Arv.set Ar12 q12 S12 N12 H12 G12 rfl W14 0 rfl (Nat.le_of_ble_eq_true rfl)
  refine ownStep st14 ?_
  refine ownStep (fun _ k => XS.aloadN X14.here hx rfl (hb hby own_al_add3_0_d15) rfl rfl k) ?_
  refine ownStep (fun _ k => XS.iloadN X14.here hx rfl (hb hby own_al_add3_0_d16) rfl  k) ?_
  refine ownStep (fun _ k => XS.iconst X14.here hx rfl (hb hby own_al_add3_0_d17) k) ?_
  refine ownStep (fun _ k => XS.iadd X14.here hx rfl (hb hby own_al_add3_0_d18) rfl k) ?_
  show ownGo p.tables e below (T14.setTop (mkF m 19 #[.val (.ref a), .val (.ref ee), .val (.ref dd_3), .val (.int (0 : Int32))] [(.int (1 : Int32)), (.ref a)])) _
  have ne18 : a ≠ dd_3 := Nat.ne_of_lt (Nat.lt_of_lt_of_le (Nat.lt_of_lt_of_le E.lt (Nat.le_refl _)) P10)
  have Q19 : Fld Z h14 a "java/util/ArrayList" "size" "I" (.int (0 : Int32)) := (P6.other W14 (Or.inl ne18))
  have Q20 : Exa Z h14 a "java/util/ArrayList" := ((E.keep R3).wr W14)
  obtain ⟨T21, h21, X21, e21, W21, st21⟩ := putF X14 hx hZ hown (host := "") (Or.inl (hw _ (List.mem_of_getElem? (i := 47) rfl))) Via.refl e14 Q19 Q20 (Or.inl (hw _ (List.mem_of_getElem? (i := 48) rfl))) (hw _ (List.mem_of_getElem? (i := 6) rfl)) (ty := .int) (by decide) rfl rfl (g := (mkF m 19 #[.val (.ref a), .val (.ref ee), .val (.ref dd_3), .val (.int (0 : Int32))] [(.int (1 : Int32)), (.ref a)])) rfl rfl (hb hby own_al_add3_0_d19)
  have N22 := Fr.snoc X21 N15 g
  have KP23 : Keep h0 h21 [a] := KP16.wr W21 (Or.inl (List.mem_of_getElem? (i := 0) rfl))
  have F24 : Fld Z h21 a "java/util/ArrayList" "size" "I" (.int (1 : Int32)) := Q19.same W21
  refine ownStep st21 ?_
  show ownGo p.tables e below (T21.setTop (mkF m 22 #[.val (.ref a), .val (.ref ee), .val (.ref dd_3), .val (.int (0 : Int32))] [])) _
  have Q25 : Fld Z h21 a "java/util/ArrayList" "elementData" "[Ljava/lang/Object;" (.ref dd_3) := ((P5.other W14 (Or.inl ne18)).other W21 (Or.inr (slot_ne (Or.inl (hw _ (List.mem_of_getElem? (i := 30) rfl))) (Or.inl (hw _ (List.mem_of_getElem? (i := 48) rfl))) (by decide) (t := (.array (.object "java/lang/Object"))) (t' := .int) (by decide) (by decide))))
  have Q26 : Fld Z h21 a "java/util/AbstractList" "modCount" "I" (.int mc) := ((P7.other W14 (Or.inl ne18)).other W21 (Or.inr (slot_ne (Or.inl (hw _ (List.mem_of_getElem? (i := 27) rfl))) (Or.inl (hw _ (List.mem_of_getElem? (i := 48) rfl))) (by decide) (t := .int) (t' := .int) (by decide) (by decide))))
  have Q27 : Arv Z h21 dd_3 kk_3 (.object "java/lang/Object") (10 : Int32) [(.ref ee), .null, .null, .null, .null, .null, .null, .null, .null, .null] .null := (V17.other W21 (Ne.symm ne18))
  exact ownRet X21 (v := none) Bd.notSynchronized (fun _ => rfl) (fun _ hr => X21.returnOut hx Bd.returns (hb hby own_al_add3_0_d22) hr) (by rw [e21]; exact ⟨dd_3, kk_3, rfl, N22, KP23, Q25, F24, Q26, Q27, P9, gh_dd_3⟩) (by decide) (by decide)
theorem own_al_add_0_d0 : decode jdk_38_method_25_code 0 = .ok (.aload_n 0, 1) := by decide +kernel
theorem own_al_add_0_d1 : decode jdk_38_method_25_code 1 = .ok (.dup, 1) := by decide +kernel
theorem own_al_add_0_d2 : decode jdk_38_method_25_code 2 = .ok (.getfield 63, 3) := by decide +kernel
theorem own_al_add_0_d5 : decode jdk_38_method_25_code 5 = .ok (.iconst 1, 1) := by decide +kernel
theorem own_al_add_0_d6 : decode jdk_38_method_25_code 6 = .ok (.iadd, 1) := by decide +kernel
theorem own_al_add_0_d7 : decode jdk_38_method_25_code 7 = .ok (.putfield 63, 3) := by decide +kernel
theorem own_al_add_0_d10 : decode jdk_38_method_25_code 10 = .ok (.aload_n 0, 1) := by decide +kernel
theorem own_al_add_0_d11 : decode jdk_38_method_25_code 11 = .ok (.aload_n 1, 1) := by decide +kernel
theorem own_al_add_0_d12 : decode jdk_38_method_25_code 12 = .ok (.aload_n 0, 1) := by decide +kernel
theorem own_al_add_0_d13 : decode jdk_38_method_25_code 13 = .ok (.getfield 9, 3) := by decide +kernel
theorem own_al_add_0_d16 : decode jdk_38_method_25_code 16 = .ok (.aload_n 0, 1) := by decide +kernel
theorem own_al_add_0_d17 : decode jdk_38_method_25_code 17 = .ok (.getfield 48, 3) := by decide +kernel
theorem own_al_add_0_d20 : decode jdk_38_method_25_code 20 = .ok (.invokevirtual 131, 3) := by decide +kernel
theorem own_al_add_0_d23 : decode jdk_38_method_25_code 23 = .ok (.iconst 1, 1) := by decide +kernel
theorem own_al_add_0_d24 : decode jdk_38_method_25_code 24 = .ok (.ireturn, 1) := by decide +kernel
theorem own_al_add_0_pn : plainName "java/util/ArrayList" = true := by first | (simp [plainName, overriddenIn]; done) | decide +kernel
theorem own_al_add_0_pd0 : parseMethodDescriptor "(Ljava/lang/Object;[Ljava/lang/Object;I)V" = some ⟨[(.object "java/lang/Object"), (.array (.object "java/lang/Object")), .int], none⟩ := by decide +kernel
theorem own_al_add_0_ef (m : MethodId) (x0 : Addr) (x1 : Addr) : entryFrame m #[(.ref x0), (.ref x1)] 2 = mkF m 0 #[.val (.ref x0), .val (.ref x1)] [] := by first | (simp [entryFrame, mkF, argsToLocals, Value.category]; done) | rfl
def own_al_add_0_Q (Z : State) (a : Addr) (ed : Addr) (kd : ClassId) (mc : Int32) (ee : Addr) (h0 : Heap) (n0 : Nat) (vv_ : Option Value) (hh_ : Heap) (LL_ : List Loc) : Prop := ∃ dd : Addr, ∃ kk : ClassId, vv_ = some (.int (1 : Int32)) ∧ Fr n0 LL_ ∧ Keep h0 hh_ [a] ∧ (Fld Z hh_ a "java/util/ArrayList" "elementData" "[Ljava/lang/Object;" (.ref dd)) ∧ (Fld Z hh_ a "java/util/ArrayList" "size" "I" (.int (1 : Int32))) ∧ (Fld Z hh_ a "java/util/AbstractList" "modCount" "I" (.int (mc + (1 : Int32)))) ∧ (Arv Z hh_ dd kk (.object "java/lang/Object") (10 : Int32) [(.ref ee), .null, .null, .null, .null, .null, .null, .null, .null, .null] .null) ∧ (Ovr Z kk "java/lang/Object") ∧ (h0.size ≤ dd)
set_option maxRecDepth 65536 in
set_option maxHeartbeats 40000000 in
theorem own_al_add_0 (l : Launch) (Z : State) (a0 : Array Value) (hw : ∀ d ∈ tables_1, d.before a0 Z = true) (ws : List Jvm.Cond) (a : Addr) (ed : Addr) (kd : ClassId) (mc : Int32) (ee : Addr) (h0 : Heap) (n0 : Nat) (Z0 : n0 ≤ h0.size) (hOld : Old Z n0 h0) (S : Sta Z Z.heap "java/util/ArrayList" "DEFAULTCAPACITY_EMPTY_ELEMENTDATA" "[Ljava/lang/Object;" (.ref ed)) (V : Arv Z Z.heap ed kd (.object "java/lang/Object") (0 : Int32) [] .null) (E : Exa Z h0 a "java/util/ArrayList") (Fe : Fld Z h0 a "java/util/ArrayList" "elementData" "[Ljava/lang/Object;" (.ref ed)) (Fs : Fld Z h0 a "java/util/ArrayList" "size" "I" (.int (0 : Int32))) (Fm : Fld Z h0 a "java/util/AbstractList" "modCount" "I" (.int mc)) (g : n0 ≤ a) (I : Ins Z h0 ee "java/lang/Object" true) :
    MetFree l (⟨"java/util/ArrayList", "add", "(Ljava/lang/Object;)Z"⟩ : MethodName) (head1 (Jvm.Cond.code (⟨"java/util/ArrayList", "add", "(Ljava/lang/Object;)Z"⟩ : MethodName) jdk_38_method_25_code 2 (some .boolean) :: ws) ({ frames := 4, cells := 1, slots := 10, locals := 56 } : Room)) (fun aa_ UU_ => aa_ = #[(.ref a), (.ref ee)] ∧ Z.Warmed39 UU_.vm ∧ UU_.heap = h0) (fun _ _ _ _ _ => True) (fun _ UU_ oo_ UV_ => ∃ vv_ LL_, oo_ = .returned vv_ ∧ own_al_add_0_Q Z a ed kd mc ee h0 n0 vv_ UV_.heap LL_ ∧ FrameEnd UU_ oo_ UV_ LL_ ({ frames := 4, cells := 1, slots := 10, locals := 56 } : Room).cells ({ frames := 4, cells := 1, slots := 10, locals := 56 } : Room).slots) := by
  refine MetFree.of_bodySF (plainFor_of_name own_al_add_0_pn) hisR ?_
  intro p e s m args below meth c s₁ Bd hml0 hP hK
  obtain ⟨rfl, hZ, hh⟩ := hP
  have hx := Bd.exec
  have hby := Bd.bytes
  have hml : c.maxLocals = 2 := hml0
  have hown : s.vm.findClass "java/util/ArrayList" = some m.cls := findClass_of_methodNamed Bd.named
  have hnm := (name_of_methodNamed Bd.named Bd.method).1
  have X0 : Stand p l e ({ frames := 4, cells := 1, slots := 10, locals := 56 } : Room) s m #[(.ref a), (.ref ee)] below meth c s₁ [] 0 0 := Stand.of_body Bd
  have e0 : s₁.heap = h0 := by rw [← hh, Bd.state]; rfl
  have N0 := Fr.nil n0
  have KP0 : Keep h0 h0 [a] := Keep.refl _ _
  refine ownFin (Q := own_al_add_0_Q Z a ed kd mc ee h0 n0) ?_
  refine ownStep (fun _ k => castTop (own_al_add_0_ef m a ee) k) ?_
  show ownGo p.tables e below (s₁.setTop (mkF m 0 #[.val (.ref a), .val (.ref ee)] [])) _
  refine ownStep (fun _ k => XS.aloadN X0.here hx rfl (hb hby own_al_add_0_d0) rfl rfl k) ?_
  refine ownStep (fun _ k => XS.dup X0.here hx rfl (hb hby own_al_add_0_d1) rfl rfl k) ?_
  show ownGo p.tables e below (s₁.setTop (mkF m 2 #[.val (.ref a), .val (.ref ee)] [(.ref a), (.ref a)])) _
  obtain ⟨T1, X1, e1, st1⟩ := getF X0 hx hZ hown (host := "") (Or.inl (hw _ (List.mem_of_getElem? (i := 62) rfl))) (Via.of (hw _ (List.mem_of_getElem? (i := 63) rfl))) e0 Fm (g := (mkF m 2 #[.val (.ref a), .val (.ref ee)] [(.ref a), (.ref a)])) rfl rfl (hb hby own_al_add_0_d2)
  refine ownStep st1 ?_
  refine ownStep (fun _ k => XS.iconst X1.here hx rfl (hb hby own_al_add_0_d5) k) ?_
  refine ownStep (fun _ k => XS.iadd X1.here hx rfl (hb hby own_al_add_0_d6) rfl k) ?_
  show ownGo p.tables e below (T1.setTop (mkF m 7 #[.val (.ref a), .val (.ref ee)] [(.int (mc + (1 : Int32))), (.ref a)])) _
  obtain ⟨T2, h2, X2, e2, W2, st2⟩ := putF X1 hx hZ hown (host := "") (Or.inl (hw _ (List.mem_of_getElem? (i := 62) rfl))) (Via.of (hw _ (List.mem_of_getElem? (i := 63) rfl))) e1 Fm E (Or.inl (hw _ (List.mem_of_getElem? (i := 27) rfl))) (hw _ (List.mem_of_getElem? (i := 6) rfl)) (ty := .int) (by decide) rfl rfl (g := (mkF m 7 #[.val (.ref a), .val (.ref ee)] [(.int (mc + (1 : Int32))), (.ref a)])) rfl rfl (hb hby own_al_add_0_d7)
  have N3 := Fr.snoc X2 N0 g
  have KP4 : Keep h0 h2 [a] := KP0.wr W2 (Or.inl (List.mem_of_getElem? (i := 0) rfl))
  have F5 : Fld Z h2 a "java/util/AbstractList" "modCount" "I" (.int (mc + (1 : Int32))) := Fm.same W2
  refine ownStep st2 ?_
  refine ownStep (fun _ k => XS.aloadN X2.here hx rfl (hb hby own_al_add_0_d10) rfl rfl k) ?_
  refine ownStep (fun _ k => XS.aloadN X2.here hx rfl (hb hby own_al_add_0_d11) rfl rfl k) ?_
  refine ownStep (fun _ k => XS.aloadN X2.here hx rfl (hb hby own_al_add_0_d12) rfl rfl k) ?_
  show ownGo p.tables e below (T2.setTop (mkF m 13 #[.val (.ref a), .val (.ref ee)] [(.ref a), (.ref ee), (.ref a)])) _
  have Q6 : Fld Z h2 a "java/util/ArrayList" "elementData" "[Ljava/lang/Object;" (.ref ed) := (Fe.other W2 (Or.inr (slot_ne (Or.inl (hw _ (List.mem_of_getElem? (i := 30) rfl))) (Or.inl (hw _ (List.mem_of_getElem? (i := 27) rfl))) (by decide) (t := (.array (.object "java/lang/Object"))) (t' := .int) (by decide) (by decide))))
  obtain ⟨T7, X7, e7, st7⟩ := getF X2 hx hZ hown (host := "") (Or.inl (hw _ (List.mem_of_getElem? (i := 29) rfl))) Via.refl e2 Q6 (g := (mkF m 13 #[.val (.ref a), .val (.ref ee)] [(.ref a), (.ref ee), (.ref a)])) rfl rfl (hb hby own_al_add_0_d13)
  refine ownStep st7 ?_
  refine ownStep (fun _ k => XS.aloadN X7.here hx rfl (hb hby own_al_add_0_d16) rfl rfl k) ?_
  show ownGo p.tables e below (T7.setTop (mkF m 17 #[.val (.ref a), .val (.ref ee)] [(.ref a), (.ref ed), (.ref ee), (.ref a)])) _
  have Q8 : Fld Z h2 a "java/util/ArrayList" "size" "I" (.int (0 : Int32)) := (Fs.other W2 (Or.inr (slot_ne (Or.inl (hw _ (List.mem_of_getElem? (i := 48) rfl))) (Or.inl (hw _ (List.mem_of_getElem? (i := 27) rfl))) (by decide) (t := .int) (t' := .int) (by decide) (by decide))))
  obtain ⟨T9, X9, e9, st9⟩ := getF X7 hx hZ hown (host := "") (Or.inl (hw _ (List.mem_of_getElem? (i := 47) rfl))) Via.refl e7 Q8 (g := (mkF m 17 #[.val (.ref a), .val (.ref ee)] [(.ref a), (.ref ed), (.ref ee), (.ref a)])) rfl rfl (hb hby own_al_add_0_d17)
  refine ownStep st9 ?_
  show ownGo p.tables e below (T9.setTop (mkF m 20 #[.val (.ref a), .val (.ref ee)] [(.int (0 : Int32)), (.ref ed), (.ref ee), (.ref a)])) _
  have Q10 : Old Z n0 h2 := (hOld.wr W2 g)
  have Q11 : Exa Z h2 a "java/util/ArrayList" := (E.wr W2)
  have Q12 : Ins Z h2 ee "java/lang/Object" true := (I.wr W2)
  have Zs14 : n0 ≤ h2.size := Nat.le_trans Z0 KP4.1
  obtain ⟨cq13, q13, q13'⟩ := Q11.cell
  obtain ⟨_, _, ⟨T13, L13, k13, n13⟩, -, X13, ⟨Lc13, hQ13, l13, y13, z13⟩, st13⟩ := X9.privateBack hx (y := (⟨"java/util/ArrayList", "add", "(Ljava/lang/Object;[Ljava/lang/Object;I)V"⟩ : MethodName)) hown (mvT hZ (hw _ (List.mem_of_getElem? (i := 64) rfl))) (mvT hZ (hw _ (List.mem_of_getElem? (i := 65) rfl))) (mvT hZ (hw _ (List.mem_of_getElem? (i := 67) rfl))) (Cond.privateMethod_at (mvP hZ (hw _ (List.mem_of_getElem? (i := 66) rfl)) (args := #[]))) (mvT hZ (hw _ (List.mem_of_getElem? (i := 68) rfl))) (by decide) (backOf (W := 0) (own_al_add3_0 l Z a0 hw [] a ed kd (mc + (1 : Int32)) ee h2 n0 Zs14 Q10 S V Q11 Q6 Q8 F5 g Q12) hZ (hw _ (List.mem_of_getElem? (i := 68) rfl)) (hw _ (List.mem_of_getElem? (i := 7) rfl)) (by decide) (by decide)) (g := (mkF m 20 #[.val (.ref a), .val (.ref ee)] [(.int (0 : Int32)), (.ref ed), (.ref ee), (.ref a)])) rfl (by rw [hml]; rfl) (Steps.refl _) (a := a) (by rw [e9]; exact q13) q13' (argsL := [(.ref ee), (.ref ed), (.int (0 : Int32))]) (rest := []) (lenOf own_al_add_0_pd0 rfl) rfl (by show 2 * 0 + _ ≤ _; exact Nat.le_of_eq rfl) (hb hby own_al_add_0_d20) (fun _ _ => ⟨rfl, e9, (by decide : 0 + 1 ≤ _), (by decide : 0 + 10 ≤ _)⟩)
  dsimp only [Pt.U, Pt.locs, Pt.cells, Pt.slots] at X13 l13 y13 z13 st13 hQ13
  obtain rfl : k13 = 1 := y13
  obtain rfl : n13 = 10 := z13
  obtain ⟨dd_13, kk_13, rfl, N13q, R13, P15, P16, P17, P18, P19, P20⟩ := hQ13
  have N13 : Fr n0 L13 := l13 ▸ Fr.app N3 N13q
  have gh_dd_13 : h0.size ≤ dd_13 := Nat.le_trans KP4.1 P20
  have gn_dd_13 : n0 ≤ dd_13 := Nat.le_trans Z0 gh_dd_13
  refine ownStep (fun _ k => st13.trans k) ?_
  have KP21 : Keep h0 T13.heap [a] := KP4.trans R13 (allS (Or.inl (List.mem_of_getElem? (i := 0) rfl)) all0)
  refine ownStep (fun _ k => XS.iconst X13.here hx rfl (hb hby own_al_add_0_d23) k) ?_
  show ownGo p.tables e below (T13.setTop (mkF m 24 #[.val (.ref a), .val (.ref ee)] [(.int (1 : Int32))])) _
  exact ownRet X13 (v := some (.int (1 : Int32))) Bd.notSynchronized (fun h => by rw [Bd.returns] at h; cases h) (fun _ hr => retN X13 hx (t := .boolean) Bd.returns (by simp) (hb hby own_al_add_0_d24) hr) (⟨dd_13, kk_13, rfl, N13, KP21, P15, P16, P17, P18, P19, gh_dd_13⟩) (by decide) (by decide)
theorem own_al_add3_1_d0 : decode jdk_38_method_24_code 0 = .ok (.iload_n 3, 1) := by decide +kernel
theorem own_al_add3_1_d1 : decode jdk_38_method_24_code 1 = .ok (.aload_n 2, 1) := by decide +kernel
theorem own_al_add3_1_d2 : decode jdk_38_method_24_code 2 = .ok (.arraylength, 1) := by decide +kernel
theorem own_al_add3_1_d3 : decode jdk_38_method_24_code 3 = .ok (.if_icmp .ne 8, 3) := by decide +kernel
theorem own_al_add3_1_d11 : decode jdk_38_method_24_code 11 = .ok (.aload_n 2, 1) := by decide +kernel
theorem own_al_add3_1_d12 : decode jdk_38_method_24_code 12 = .ok (.iload_n 3, 1) := by decide +kernel
theorem own_al_add3_1_d13 : decode jdk_38_method_24_code 13 = .ok (.aload_n 1, 1) := by decide +kernel
theorem own_al_add3_1_d14 : decode jdk_38_method_24_code 14 = .ok (.aastore, 1) := by decide +kernel
theorem own_al_add3_1_d15 : decode jdk_38_method_24_code 15 = .ok (.aload_n 0, 1) := by decide +kernel
theorem own_al_add3_1_d16 : decode jdk_38_method_24_code 16 = .ok (.iload_n 3, 1) := by decide +kernel
theorem own_al_add3_1_d17 : decode jdk_38_method_24_code 17 = .ok (.iconst 1, 1) := by decide +kernel
theorem own_al_add3_1_d18 : decode jdk_38_method_24_code 18 = .ok (.iadd, 1) := by decide +kernel
theorem own_al_add3_1_d19 : decode jdk_38_method_24_code 19 = .ok (.putfield 48, 3) := by decide +kernel
theorem own_al_add3_1_d22 : decode jdk_38_method_24_code 22 = .ok (.return_, 1) := by decide +kernel
theorem own_al_add3_1_pn : plainName "java/util/ArrayList" = true := by first | (simp [plainName, overriddenIn]; done) | decide +kernel
theorem own_al_add3_1_ef (m : MethodId) (x0 : Addr) (x1 : Addr) (x2 : Addr) (x3 : Int32) : entryFrame m #[(.ref x0), (.ref x1), (.ref x2), (.int x3)] 4 = mkF m 0 #[.val (.ref x0), .val (.ref x1), .val (.ref x2), .val (.int x3)] [] := by first | (simp [entryFrame, mkF, argsToLocals, Value.category]; done) | rfl
def own_al_add3_1_Q (Z : State) (a : Addr) (dd : Addr) (kk : ClassId) (mc : Int32) (u0 : Value) (ee : Addr) (h0 : Heap) (n0 : Nat) (vv_ : Option Value) (hh_ : Heap) (LL_ : List Loc) : Prop := vv_ = none ∧ Fr n0 LL_ ∧ Keep h0 hh_ [a, dd] ∧ (Fld Z hh_ a "java/util/ArrayList" "elementData" "[Ljava/lang/Object;" (.ref dd)) ∧ (Fld Z hh_ a "java/util/ArrayList" "size" "I" (.int (2 : Int32))) ∧ (Fld Z hh_ a "java/util/AbstractList" "modCount" "I" (.int mc)) ∧ (Arv Z hh_ dd kk (.object "java/lang/Object") (10 : Int32) [u0, (.ref ee), .null, .null, .null, .null, .null, .null, .null, .null] .null)
set_option maxRecDepth 65536 in
set_option maxHeartbeats 40000000 in
theorem own_al_add3_1 (l : Launch) (Z : State) (a0 : Array Value) (hw : ∀ d ∈ tables_1, d.before a0 Z = true) (ws : List Jvm.Cond) (a : Addr) (dd : Addr) (kk : ClassId) (mc : Int32) (u0 : Value) (ee : Addr) (h0 : Heap) (n0 : Nat) (Z0 : n0 ≤ h0.size) (E : Exa Z h0 a "java/util/ArrayList") (Fe : Fld Z h0 a "java/util/ArrayList" "elementData" "[Ljava/lang/Object;" (.ref dd)) (Fs : Fld Z h0 a "java/util/ArrayList" "size" "I" (.int (1 : Int32))) (Fm : Fld Z h0 a "java/util/AbstractList" "modCount" "I" (.int mc)) (V : Arv Z h0 dd kk (.object "java/lang/Object") (10 : Int32) [u0, .null, .null, .null, .null, .null, .null, .null, .null, .null] .null) (O : Ovr Z kk "java/lang/Object") (g : n0 ≤ a) (gd : n0 ≤ dd) (nad : a ≠ dd) (I : Ins Z h0 ee "java/lang/Object" true) :
    MetFree l (⟨"java/util/ArrayList", "add", "(Ljava/lang/Object;[Ljava/lang/Object;I)V"⟩ : MethodName) (head1 (Jvm.Cond.code (⟨"java/util/ArrayList", "add", "(Ljava/lang/Object;[Ljava/lang/Object;I)V"⟩ : MethodName) jdk_38_method_24_code 4 none :: ws) ({ frames := 0, cells := 0, slots := 0, locals := 0 } : Room)) (fun aa_ UU_ => aa_ = #[(.ref a), (.ref ee), (.ref dd), (.int (1 : Int32))] ∧ Z.Warmed39 UU_.vm ∧ UU_.heap = h0) (fun _ _ _ _ _ => True) (fun _ UU_ oo_ UV_ => ∃ vv_ LL_, oo_ = .returned vv_ ∧ own_al_add3_1_Q Z a dd kk mc u0 ee h0 n0 vv_ UV_.heap LL_ ∧ FrameEnd UU_ oo_ UV_ LL_ ({ frames := 0, cells := 0, slots := 0, locals := 0 } : Room).cells ({ frames := 0, cells := 0, slots := 0, locals := 0 } : Room).slots) := by
  refine MetFree.of_bodySF (plainFor_of_name own_al_add3_1_pn) hisR ?_
  intro p e s m args below meth c s₁ Bd hml0 hP hK
  obtain ⟨rfl, hZ, hh⟩ := hP
  have hx := Bd.exec
  have hby := Bd.bytes
  have hml : c.maxLocals = 4 := hml0
  have hown : s.vm.findClass "java/util/ArrayList" = some m.cls := findClass_of_methodNamed Bd.named
  have hnm := (name_of_methodNamed Bd.named Bd.method).1
  have X0 : Stand p l e ({ frames := 0, cells := 0, slots := 0, locals := 0 } : Room) s m #[(.ref a), (.ref ee), (.ref dd), (.int (1 : Int32))] below meth c s₁ [] 0 0 := Stand.of_body Bd
  have e0 : s₁.heap = h0 := by rw [← hh, Bd.state]; rfl
  have N0 := Fr.nil n0
  have KP0 : Keep h0 h0 [a, dd] := Keep.refl _ _
  refine ownFin (Q := own_al_add3_1_Q Z a dd kk mc u0 ee h0 n0) ?_
  refine ownStep (fun _ k => castTop (own_al_add3_1_ef m a ee dd (1 : Int32)) k) ?_
  show ownGo p.tables e below (s₁.setTop (mkF m 0 #[.val (.ref a), .val (.ref ee), .val (.ref dd), .val (.int (1 : Int32))] [])) _
  refine ownStep (fun _ k => XS.iloadN X0.here hx rfl (hb hby own_al_add3_1_d0) rfl  k) ?_
  refine ownStep (fun _ k => XS.aloadN X0.here hx rfl (hb hby own_al_add3_1_d1) rfl rfl k) ?_
  show ownGo p.tables e below (s₁.setTop (mkF m 2 #[.val (.ref a), .val (.ref ee), .val (.ref dd), .val (.int (1 : Int32))] [(.ref dd), (.int (1 : Int32))])) _
  have Vo1 := V
  obtain ⟨cl1, Ar1, q1, S1, N1, H1, G1⟩ := Vo1
  refine ownStep (X0.arraylength hx (by rw [e0]; exact Ar1.1) (State.isArrayOf_alike hZ.alike Ar1.2.1) (g := (mkF m 2 #[.val (.ref a), .val (.ref ee), .val (.ref dd), .val (.int (1 : Int32))] [(.ref dd), (.int (1 : Int32))])) rfl rfl (hb hby own_al_add3_1_d2)) ?_
  rw [len_of S1 N1]
  refine ownStep (fun _ k => XS.icmpYes X0.here hx rfl (pc0 := 3) (pc' := 11) rfl (hb hby own_al_add3_1_d3) rfl (feq (by decide : ¬ (1 : Int32) = (10 : Int32))).2 (by decide) (by decide) k) ?_
  refine ownStep (fun _ k => XS.aloadN X0.here hx rfl (hb hby own_al_add3_1_d11) rfl rfl k) ?_
  refine ownStep (fun _ k => XS.iloadN X0.here hx rfl (hb hby own_al_add3_1_d12) rfl  k) ?_
  refine ownStep (fun _ k => XS.aloadN X0.here hx rfl (hb hby own_al_add3_1_d13) rfl rfl k) ?_
  show ownGo p.tables e below (s₁.setTop (mkF m 14 #[.val (.ref a), .val (.ref ee), .val (.ref dd), .val (.int (1 : Int32))] [(.ref ee), (.int (1 : Int32)), (.ref dd)])) _
  have Vo2 := V
  obtain ⟨cl2, Ar2, q2, S2, N2, H2, G2⟩ := Vo2
  have hin2 : ¬ ((1 : Int32) < 0 ∨ cl2.slots.size ≤ ((1 : Int32)).toNatClampNeg) := inb_of S2 ⟨by decide, by decide⟩
  obtain ⟨T3, h3, X3, e3, W3, st3⟩ := stR X0 hx hZ e0 Ar2 (j := (1 : Int32)) hin2 rfl (Sto.ofV Ar2 q2 O I) (g := (mkF m 14 #[.val (.ref a), .val (.ref ee), .val (.ref dd), .val (.int (1 : Int32))] [(.ref ee), (.int (1 : Int32)), (.ref dd)])) rfl rfl (hb hby own_al_add3_1_d14)
  have N4 := Fr.snoc X3 N0 gd
  have KP5 : Keep h0 h3 [a, dd] := KP0.wr W3 (Or.inl (List.mem_of_getElem? (i := 1) rfl))
  have V6 : Arv Z h3 dd kk (.object "java/lang/Object") (10 : Int32) [u0, (.ref ee), .null, .null, .null, .null, .null, .null, .null, .null] .null := Arv.set Ar2 q2 S2 N2 H2 G2 rfl W3 1 rfl (Nat.le_of_ble_eq_true rfl)
  refine ownStep st3 ?_
  refine ownStep (fun _ k => XS.aloadN X3.here hx rfl (hb hby own_al_add3_1_d15) rfl rfl k) ?_
  refine ownStep (fun _ k => XS.iloadN X3.here hx rfl (hb hby own_al_add3_1_d16) rfl  k) ?_
  refine ownStep (fun _ k => XS.iconst X3.here hx rfl (hb hby own_al_add3_1_d17) k) ?_
  refine ownStep (fun _ k => XS.iadd X3.here hx rfl (hb hby own_al_add3_1_d18) rfl k) ?_
  show ownGo p.tables e below (T3.setTop (mkF m 19 #[.val (.ref a), .val (.ref ee), .val (.ref dd), .val (.int (1 : Int32))] [(.int (2 : Int32)), (.ref a)])) _
  have Q7 : Fld Z h3 a "java/util/ArrayList" "size" "I" (.int (1 : Int32)) := (Fs.other W3 (Or.inl nad))
  have Q8 : Exa Z h3 a "java/util/ArrayList" := (E.wr W3)
  obtain ⟨T9, h9, X9, e9, W9, st9⟩ := putF X3 hx hZ hown (host := "") (Or.inl (hw _ (List.mem_of_getElem? (i := 47) rfl))) Via.refl e3 Q7 Q8 (Or.inl (hw _ (List.mem_of_getElem? (i := 48) rfl))) (hw _ (List.mem_of_getElem? (i := 6) rfl)) (ty := .int) (by decide) rfl rfl (g := (mkF m 19 #[.val (.ref a), .val (.ref ee), .val (.ref dd), .val (.int (1 : Int32))] [(.int (2 : Int32)), (.ref a)])) rfl rfl (hb hby own_al_add3_1_d19)
  have N10 := Fr.snoc X9 N4 g
  have KP11 : Keep h0 h9 [a, dd] := KP5.wr W9 (Or.inl (List.mem_of_getElem? (i := 0) rfl))
  have F12 : Fld Z h9 a "java/util/ArrayList" "size" "I" (.int (2 : Int32)) := Q7.same W9
  refine ownStep st9 ?_
  show ownGo p.tables e below (T9.setTop (mkF m 22 #[.val (.ref a), .val (.ref ee), .val (.ref dd), .val (.int (1 : Int32))] [])) _
  have Q13 : Fld Z h9 a "java/util/ArrayList" "elementData" "[Ljava/lang/Object;" (.ref dd) := ((Fe.other W3 (Or.inl nad)).other W9 (Or.inr (slot_ne (Or.inl (hw _ (List.mem_of_getElem? (i := 30) rfl))) (Or.inl (hw _ (List.mem_of_getElem? (i := 48) rfl))) (by decide) (t := (.array (.object "java/lang/Object"))) (t' := .int) (by decide) (by decide))))
  have Q14 : Fld Z h9 a "java/util/AbstractList" "modCount" "I" (.int mc) := ((Fm.other W3 (Or.inl nad)).other W9 (Or.inr (slot_ne (Or.inl (hw _ (List.mem_of_getElem? (i := 27) rfl))) (Or.inl (hw _ (List.mem_of_getElem? (i := 48) rfl))) (by decide) (t := .int) (t' := .int) (by decide) (by decide))))
  have Q15 : Arv Z h9 dd kk (.object "java/lang/Object") (10 : Int32) [u0, (.ref ee), .null, .null, .null, .null, .null, .null, .null, .null] .null := (V6.other W9 (Ne.symm nad))
  exact ownRet X9 (v := none) Bd.notSynchronized (fun _ => rfl) (fun _ hr => X9.returnOut hx Bd.returns (hb hby own_al_add3_1_d22) hr) (by rw [e9]; exact ⟨rfl, N10, KP11, Q13, F12, Q14, Q15⟩) (by decide) (by decide)
theorem own_al_add_1_d0 : decode jdk_38_method_25_code 0 = .ok (.aload_n 0, 1) := by decide +kernel
theorem own_al_add_1_d1 : decode jdk_38_method_25_code 1 = .ok (.dup, 1) := by decide +kernel
theorem own_al_add_1_d2 : decode jdk_38_method_25_code 2 = .ok (.getfield 63, 3) := by decide +kernel
theorem own_al_add_1_d5 : decode jdk_38_method_25_code 5 = .ok (.iconst 1, 1) := by decide +kernel
theorem own_al_add_1_d6 : decode jdk_38_method_25_code 6 = .ok (.iadd, 1) := by decide +kernel
theorem own_al_add_1_d7 : decode jdk_38_method_25_code 7 = .ok (.putfield 63, 3) := by decide +kernel
theorem own_al_add_1_d10 : decode jdk_38_method_25_code 10 = .ok (.aload_n 0, 1) := by decide +kernel
theorem own_al_add_1_d11 : decode jdk_38_method_25_code 11 = .ok (.aload_n 1, 1) := by decide +kernel
theorem own_al_add_1_d12 : decode jdk_38_method_25_code 12 = .ok (.aload_n 0, 1) := by decide +kernel
theorem own_al_add_1_d13 : decode jdk_38_method_25_code 13 = .ok (.getfield 9, 3) := by decide +kernel
theorem own_al_add_1_d16 : decode jdk_38_method_25_code 16 = .ok (.aload_n 0, 1) := by decide +kernel
theorem own_al_add_1_d17 : decode jdk_38_method_25_code 17 = .ok (.getfield 48, 3) := by decide +kernel
theorem own_al_add_1_d20 : decode jdk_38_method_25_code 20 = .ok (.invokevirtual 131, 3) := by decide +kernel
theorem own_al_add_1_d23 : decode jdk_38_method_25_code 23 = .ok (.iconst 1, 1) := by decide +kernel
theorem own_al_add_1_d24 : decode jdk_38_method_25_code 24 = .ok (.ireturn, 1) := by decide +kernel
theorem own_al_add_1_pn : plainName "java/util/ArrayList" = true := by first | (simp [plainName, overriddenIn]; done) | decide +kernel
theorem own_al_add_1_pd0 : parseMethodDescriptor "(Ljava/lang/Object;[Ljava/lang/Object;I)V" = some ⟨[(.object "java/lang/Object"), (.array (.object "java/lang/Object")), .int], none⟩ := by decide +kernel
theorem own_al_add_1_ef (m : MethodId) (x0 : Addr) (x1 : Addr) : entryFrame m #[(.ref x0), (.ref x1)] 2 = mkF m 0 #[.val (.ref x0), .val (.ref x1)] [] := by first | (simp [entryFrame, mkF, argsToLocals, Value.category]; done) | rfl
def own_al_add_1_Q (Z : State) (a : Addr) (dd : Addr) (kk : ClassId) (mc : Int32) (u0 : Value) (ee : Addr) (h0 : Heap) (n0 : Nat) (vv_ : Option Value) (hh_ : Heap) (LL_ : List Loc) : Prop := vv_ = some (.int (1 : Int32)) ∧ Fr n0 LL_ ∧ Keep h0 hh_ [a, dd] ∧ (Fld Z hh_ a "java/util/ArrayList" "elementData" "[Ljava/lang/Object;" (.ref dd)) ∧ (Fld Z hh_ a "java/util/ArrayList" "size" "I" (.int (2 : Int32))) ∧ (Fld Z hh_ a "java/util/AbstractList" "modCount" "I" (.int (mc + (1 : Int32)))) ∧ (Arv Z hh_ dd kk (.object "java/lang/Object") (10 : Int32) [u0, (.ref ee), .null, .null, .null, .null, .null, .null, .null, .null] .null)
set_option maxRecDepth 65536 in
set_option maxHeartbeats 40000000 in
theorem own_al_add_1 (l : Launch) (Z : State) (a0 : Array Value) (hw : ∀ d ∈ tables_1, d.before a0 Z = true) (ws : List Jvm.Cond) (a : Addr) (dd : Addr) (kk : ClassId) (mc : Int32) (u0 : Value) (ee : Addr) (h0 : Heap) (n0 : Nat) (Z0 : n0 ≤ h0.size) (E : Exa Z h0 a "java/util/ArrayList") (Fe : Fld Z h0 a "java/util/ArrayList" "elementData" "[Ljava/lang/Object;" (.ref dd)) (Fs : Fld Z h0 a "java/util/ArrayList" "size" "I" (.int (1 : Int32))) (Fm : Fld Z h0 a "java/util/AbstractList" "modCount" "I" (.int mc)) (V : Arv Z h0 dd kk (.object "java/lang/Object") (10 : Int32) [u0, .null, .null, .null, .null, .null, .null, .null, .null, .null] .null) (O : Ovr Z kk "java/lang/Object") (g : n0 ≤ a) (gd : n0 ≤ dd) (nad : a ≠ dd) (I : Ins Z h0 ee "java/lang/Object" true) :
    MetFree l (⟨"java/util/ArrayList", "add", "(Ljava/lang/Object;)Z"⟩ : MethodName) (head1 (Jvm.Cond.code (⟨"java/util/ArrayList", "add", "(Ljava/lang/Object;)Z"⟩ : MethodName) jdk_38_method_25_code 2 (some .boolean) :: ws) ({ frames := 1, cells := 1, slots := 10, locals := 15 } : Room)) (fun aa_ UU_ => aa_ = #[(.ref a), (.ref ee)] ∧ Z.Warmed39 UU_.vm ∧ UU_.heap = h0) (fun _ _ _ _ _ => True) (fun _ UU_ oo_ UV_ => ∃ vv_ LL_, oo_ = .returned vv_ ∧ own_al_add_1_Q Z a dd kk mc u0 ee h0 n0 vv_ UV_.heap LL_ ∧ FrameEnd UU_ oo_ UV_ LL_ ({ frames := 1, cells := 1, slots := 10, locals := 15 } : Room).cells ({ frames := 1, cells := 1, slots := 10, locals := 15 } : Room).slots) := by
  refine MetFree.of_bodySF (plainFor_of_name own_al_add_1_pn) hisR ?_
  intro p e s m args below meth c s₁ Bd hml0 hP hK
  obtain ⟨rfl, hZ, hh⟩ := hP
  have hx := Bd.exec
  have hby := Bd.bytes
  have hml : c.maxLocals = 2 := hml0
  have hown : s.vm.findClass "java/util/ArrayList" = some m.cls := findClass_of_methodNamed Bd.named
  have hnm := (name_of_methodNamed Bd.named Bd.method).1
  have X0 : Stand p l e ({ frames := 1, cells := 1, slots := 10, locals := 15 } : Room) s m #[(.ref a), (.ref ee)] below meth c s₁ [] 0 0 := Stand.of_body Bd
  have e0 : s₁.heap = h0 := by rw [← hh, Bd.state]; rfl
  have N0 := Fr.nil n0
  have KP0 : Keep h0 h0 [a, dd] := Keep.refl _ _
  refine ownFin (Q := own_al_add_1_Q Z a dd kk mc u0 ee h0 n0) ?_
  refine ownStep (fun _ k => castTop (own_al_add_1_ef m a ee) k) ?_
  show ownGo p.tables e below (s₁.setTop (mkF m 0 #[.val (.ref a), .val (.ref ee)] [])) _
  refine ownStep (fun _ k => XS.aloadN X0.here hx rfl (hb hby own_al_add_1_d0) rfl rfl k) ?_
  refine ownStep (fun _ k => XS.dup X0.here hx rfl (hb hby own_al_add_1_d1) rfl rfl k) ?_
  show ownGo p.tables e below (s₁.setTop (mkF m 2 #[.val (.ref a), .val (.ref ee)] [(.ref a), (.ref a)])) _
  obtain ⟨T1, X1, e1, st1⟩ := getF X0 hx hZ hown (host := "") (Or.inl (hw _ (List.mem_of_getElem? (i := 62) rfl))) (Via.of (hw _ (List.mem_of_getElem? (i := 63) rfl))) e0 Fm (g := (mkF m 2 #[.val (.ref a), .val (.ref ee)] [(.ref a), (.ref a)])) rfl rfl (hb hby own_al_add_1_d2)
  refine ownStep st1 ?_
  refine ownStep (fun _ k => XS.iconst X1.here hx rfl (hb hby own_al_add_1_d5) k) ?_
  refine ownStep (fun _ k => XS.iadd X1.here hx rfl (hb hby own_al_add_1_d6) rfl k) ?_
  show ownGo p.tables e below (T1.setTop (mkF m 7 #[.val (.ref a), .val (.ref ee)] [(.int (mc + (1 : Int32))), (.ref a)])) _
  obtain ⟨T2, h2, X2, e2, W2, st2⟩ := putF X1 hx hZ hown (host := "") (Or.inl (hw _ (List.mem_of_getElem? (i := 62) rfl))) (Via.of (hw _ (List.mem_of_getElem? (i := 63) rfl))) e1 Fm E (Or.inl (hw _ (List.mem_of_getElem? (i := 27) rfl))) (hw _ (List.mem_of_getElem? (i := 6) rfl)) (ty := .int) (by decide) rfl rfl (g := (mkF m 7 #[.val (.ref a), .val (.ref ee)] [(.int (mc + (1 : Int32))), (.ref a)])) rfl rfl (hb hby own_al_add_1_d7)
  have N3 := Fr.snoc X2 N0 g
  have KP4 : Keep h0 h2 [a, dd] := KP0.wr W2 (Or.inl (List.mem_of_getElem? (i := 0) rfl))
  have F5 : Fld Z h2 a "java/util/AbstractList" "modCount" "I" (.int (mc + (1 : Int32))) := Fm.same W2
  refine ownStep st2 ?_
  refine ownStep (fun _ k => XS.aloadN X2.here hx rfl (hb hby own_al_add_1_d10) rfl rfl k) ?_
  refine ownStep (fun _ k => XS.aloadN X2.here hx rfl (hb hby own_al_add_1_d11) rfl rfl k) ?_
  refine ownStep (fun _ k => XS.aloadN X2.here hx rfl (hb hby own_al_add_1_d12) rfl rfl k) ?_
  show ownGo p.tables e below (T2.setTop (mkF m 13 #[.val (.ref a), .val (.ref ee)] [(.ref a), (.ref ee), (.ref a)])) _
  have Q6 : Fld Z h2 a "java/util/ArrayList" "elementData" "[Ljava/lang/Object;" (.ref dd) := (Fe.other W2 (Or.inr (slot_ne (Or.inl (hw _ (List.mem_of_getElem? (i := 30) rfl))) (Or.inl (hw _ (List.mem_of_getElem? (i := 27) rfl))) (by decide) (t := (.array (.object "java/lang/Object"))) (t' := .int) (by decide) (by decide))))
  obtain ⟨T7, X7, e7, st7⟩ := getF X2 hx hZ hown (host := "") (Or.inl (hw _ (List.mem_of_getElem? (i := 29) rfl))) Via.refl e2 Q6 (g := (mkF m 13 #[.val (.ref a), .val (.ref ee)] [(.ref a), (.ref ee), (.ref a)])) rfl rfl (hb hby own_al_add_1_d13)
  refine ownStep st7 ?_
  refine ownStep (fun _ k => XS.aloadN X7.here hx rfl (hb hby own_al_add_1_d16) rfl rfl k) ?_
  show ownGo p.tables e below (T7.setTop (mkF m 17 #[.val (.ref a), .val (.ref ee)] [(.ref a), (.ref dd), (.ref ee), (.ref a)])) _
  have Q8 : Fld Z h2 a "java/util/ArrayList" "size" "I" (.int (1 : Int32)) := (Fs.other W2 (Or.inr (slot_ne (Or.inl (hw _ (List.mem_of_getElem? (i := 48) rfl))) (Or.inl (hw _ (List.mem_of_getElem? (i := 27) rfl))) (by decide) (t := .int) (t' := .int) (by decide) (by decide))))
  obtain ⟨T9, X9, e9, st9⟩ := getF X7 hx hZ hown (host := "") (Or.inl (hw _ (List.mem_of_getElem? (i := 47) rfl))) Via.refl e7 Q8 (g := (mkF m 17 #[.val (.ref a), .val (.ref ee)] [(.ref a), (.ref dd), (.ref ee), (.ref a)])) rfl rfl (hb hby own_al_add_1_d17)
  refine ownStep st9 ?_
  show ownGo p.tables e below (T9.setTop (mkF m 20 #[.val (.ref a), .val (.ref ee)] [(.int (1 : Int32)), (.ref dd), (.ref ee), (.ref a)])) _
  have Q10 : Exa Z h2 a "java/util/ArrayList" := (E.wr W2)
  have Q11 : Arv Z h2 dd kk (.object "java/lang/Object") (10 : Int32) [u0, .null, .null, .null, .null, .null, .null, .null, .null, .null] .null := (V.other W2 (Ne.symm nad))
  have Q12 : Ins Z h2 ee "java/lang/Object" true := (I.wr W2)
  have Zs14 : n0 ≤ h2.size := Nat.le_trans Z0 KP4.1
  obtain ⟨cq13, q13, q13'⟩ := Q10.cell
  obtain ⟨_, _, ⟨T13, L13, k13, n13⟩, -, X13, ⟨Lc13, hQ13, l13, y13, z13⟩, st13⟩ := X9.privateBack hx (y := (⟨"java/util/ArrayList", "add", "(Ljava/lang/Object;[Ljava/lang/Object;I)V"⟩ : MethodName)) hown (mvT hZ (hw _ (List.mem_of_getElem? (i := 64) rfl))) (mvT hZ (hw _ (List.mem_of_getElem? (i := 65) rfl))) (mvT hZ (hw _ (List.mem_of_getElem? (i := 67) rfl))) (Cond.privateMethod_at (mvP hZ (hw _ (List.mem_of_getElem? (i := 66) rfl)) (args := #[]))) (mvT hZ (hw _ (List.mem_of_getElem? (i := 68) rfl))) (by decide) (backOf (W := 0) (own_al_add3_1 l Z a0 hw [] a dd kk (mc + (1 : Int32)) u0 ee h2 n0 Zs14 Q10 Q6 Q8 F5 Q11 O g gd nad Q12) hZ (hw _ (List.mem_of_getElem? (i := 68) rfl)) (hw _ (List.mem_of_getElem? (i := 7) rfl)) (by decide) (by decide)) (g := (mkF m 20 #[.val (.ref a), .val (.ref ee)] [(.int (1 : Int32)), (.ref dd), (.ref ee), (.ref a)])) rfl (by rw [hml]; rfl) (Steps.refl _) (a := a) (by rw [e9]; exact q13) q13' (argsL := [(.ref ee), (.ref dd), (.int (1 : Int32))]) (rest := []) (lenOf own_al_add_1_pd0 rfl) rfl (by show 2 * 0 + _ ≤ _; exact Nat.le_of_eq rfl) (hb hby own_al_add_1_d20) (fun _ _ => ⟨rfl, e9, (by decide : 0 + 0 ≤ _), (by decide : 0 + 0 ≤ _)⟩)
  dsimp only [Pt.U, Pt.locs, Pt.cells, Pt.slots] at X13 l13 y13 z13 st13 hQ13
  obtain rfl : k13 = 0 := y13
  obtain rfl : n13 = 0 := z13
  obtain ⟨rfl, N13q, R13, P15, P16, P17, P18⟩ := hQ13
  have N13 : Fr n0 L13 := l13 ▸ Fr.app N3 N13q
  refine ownStep (fun _ k => st13.trans k) ?_
  have KP19 : Keep h0 T13.heap [a, dd] := KP4.trans R13 (allS (Or.inl (List.mem_of_getElem? (i := 0) rfl)) (allS (Or.inl (List.mem_of_getElem? (i := 1) rfl)) all0))
  refine ownStep (fun _ k => XS.iconst X13.here hx rfl (hb hby own_al_add_1_d23) k) ?_
  show ownGo p.tables e below (T13.setTop (mkF m 24 #[.val (.ref a), .val (.ref ee)] [(.int (1 : Int32))])) _
  exact ownRet X13 (v := some (.int (1 : Int32))) Bd.notSynchronized (fun h => by rw [Bd.returns] at h; cases h) (fun _ hr => retN X13 hx (t := .boolean) Bd.returns (by simp) (hb hby own_al_add_1_d24) hr) (⟨rfl, N13, KP19, P15, P16, P17, P18⟩) (by decide) (by decide)
theorem own_al_add3_2_d0 : decode jdk_38_method_24_code 0 = .ok (.iload_n 3, 1) := by decide +kernel
theorem own_al_add3_2_d1 : decode jdk_38_method_24_code 1 = .ok (.aload_n 2, 1) := by decide +kernel
theorem own_al_add3_2_d2 : decode jdk_38_method_24_code 2 = .ok (.arraylength, 1) := by decide +kernel
theorem own_al_add3_2_d3 : decode jdk_38_method_24_code 3 = .ok (.if_icmp .ne 8, 3) := by decide +kernel
theorem own_al_add3_2_d11 : decode jdk_38_method_24_code 11 = .ok (.aload_n 2, 1) := by decide +kernel
theorem own_al_add3_2_d12 : decode jdk_38_method_24_code 12 = .ok (.iload_n 3, 1) := by decide +kernel
theorem own_al_add3_2_d13 : decode jdk_38_method_24_code 13 = .ok (.aload_n 1, 1) := by decide +kernel
theorem own_al_add3_2_d14 : decode jdk_38_method_24_code 14 = .ok (.aastore, 1) := by decide +kernel
theorem own_al_add3_2_d15 : decode jdk_38_method_24_code 15 = .ok (.aload_n 0, 1) := by decide +kernel
theorem own_al_add3_2_d16 : decode jdk_38_method_24_code 16 = .ok (.iload_n 3, 1) := by decide +kernel
theorem own_al_add3_2_d17 : decode jdk_38_method_24_code 17 = .ok (.iconst 1, 1) := by decide +kernel
theorem own_al_add3_2_d18 : decode jdk_38_method_24_code 18 = .ok (.iadd, 1) := by decide +kernel
theorem own_al_add3_2_d19 : decode jdk_38_method_24_code 19 = .ok (.putfield 48, 3) := by decide +kernel
theorem own_al_add3_2_d22 : decode jdk_38_method_24_code 22 = .ok (.return_, 1) := by decide +kernel
theorem own_al_add3_2_pn : plainName "java/util/ArrayList" = true := by first | (simp [plainName, overriddenIn]; done) | decide +kernel
theorem own_al_add3_2_ef (m : MethodId) (x0 : Addr) (x1 : Addr) (x2 : Addr) (x3 : Int32) : entryFrame m #[(.ref x0), (.ref x1), (.ref x2), (.int x3)] 4 = mkF m 0 #[.val (.ref x0), .val (.ref x1), .val (.ref x2), .val (.int x3)] [] := by first | (simp [entryFrame, mkF, argsToLocals, Value.category]; done) | rfl
def own_al_add3_2_Q (Z : State) (a : Addr) (dd : Addr) (kk : ClassId) (mc : Int32) (u0 : Value) (u1 : Value) (ee : Addr) (h0 : Heap) (n0 : Nat) (vv_ : Option Value) (hh_ : Heap) (LL_ : List Loc) : Prop := vv_ = none ∧ Fr n0 LL_ ∧ Keep h0 hh_ [a, dd] ∧ (Fld Z hh_ a "java/util/ArrayList" "elementData" "[Ljava/lang/Object;" (.ref dd)) ∧ (Fld Z hh_ a "java/util/ArrayList" "size" "I" (.int (3 : Int32))) ∧ (Fld Z hh_ a "java/util/AbstractList" "modCount" "I" (.int mc)) ∧ (Arv Z hh_ dd kk (.object "java/lang/Object") (10 : Int32) [u0, u1, (.ref ee), .null, .null, .null, .null, .null, .null, .null] .null)
set_option maxRecDepth 65536 in
set_option maxHeartbeats 40000000 in
theorem own_al_add3_2 (l : Launch) (Z : State) (a0 : Array Value) (hw : ∀ d ∈ tables_1, d.before a0 Z = true) (ws : List Jvm.Cond) (a : Addr) (dd : Addr) (kk : ClassId) (mc : Int32) (u0 : Value) (u1 : Value) (ee : Addr) (h0 : Heap) (n0 : Nat) (Z0 : n0 ≤ h0.size) (E : Exa Z h0 a "java/util/ArrayList") (Fe : Fld Z h0 a "java/util/ArrayList" "elementData" "[Ljava/lang/Object;" (.ref dd)) (Fs : Fld Z h0 a "java/util/ArrayList" "size" "I" (.int (2 : Int32))) (Fm : Fld Z h0 a "java/util/AbstractList" "modCount" "I" (.int mc)) (V : Arv Z h0 dd kk (.object "java/lang/Object") (10 : Int32) [u0, u1, .null, .null, .null, .null, .null, .null, .null, .null] .null) (O : Ovr Z kk "java/lang/Object") (g : n0 ≤ a) (gd : n0 ≤ dd) (nad : a ≠ dd) (I : Ins Z h0 ee "java/lang/Object" true) :
    MetFree l (⟨"java/util/ArrayList", "add", "(Ljava/lang/Object;[Ljava/lang/Object;I)V"⟩ : MethodName) (head1 (Jvm.Cond.code (⟨"java/util/ArrayList", "add", "(Ljava/lang/Object;[Ljava/lang/Object;I)V"⟩ : MethodName) jdk_38_method_24_code 4 none :: ws) ({ frames := 0, cells := 0, slots := 0, locals := 0 } : Room)) (fun aa_ UU_ => aa_ = #[(.ref a), (.ref ee), (.ref dd), (.int (2 : Int32))] ∧ Z.Warmed39 UU_.vm ∧ UU_.heap = h0) (fun _ _ _ _ _ => True) (fun _ UU_ oo_ UV_ => ∃ vv_ LL_, oo_ = .returned vv_ ∧ own_al_add3_2_Q Z a dd kk mc u0 u1 ee h0 n0 vv_ UV_.heap LL_ ∧ FrameEnd UU_ oo_ UV_ LL_ ({ frames := 0, cells := 0, slots := 0, locals := 0 } : Room).cells ({ frames := 0, cells := 0, slots := 0, locals := 0 } : Room).slots) := by
  refine MetFree.of_bodySF (plainFor_of_name own_al_add3_2_pn) hisR ?_
  intro p e s m args below meth c s₁ Bd hml0 hP hK
  obtain ⟨rfl, hZ, hh⟩ := hP
  have hx := Bd.exec
  have hby := Bd.bytes
  have hml : c.maxLocals = 4 := hml0
  have hown : s.vm.findClass "java/util/ArrayList" = some m.cls := findClass_of_methodNamed Bd.named
  have hnm := (name_of_methodNamed Bd.named Bd.method).1
  have X0 : Stand p l e ({ frames := 0, cells := 0, slots := 0, locals := 0 } : Room) s m #[(.ref a), (.ref ee), (.ref dd), (.int (2 : Int32))] below meth c s₁ [] 0 0 := Stand.of_body Bd
  have e0 : s₁.heap = h0 := by rw [← hh, Bd.state]; rfl
  have N0 := Fr.nil n0
  have KP0 : Keep h0 h0 [a, dd] := Keep.refl _ _
  refine ownFin (Q := own_al_add3_2_Q Z a dd kk mc u0 u1 ee h0 n0) ?_
  refine ownStep (fun _ k => castTop (own_al_add3_2_ef m a ee dd (2 : Int32)) k) ?_
  show ownGo p.tables e below (s₁.setTop (mkF m 0 #[.val (.ref a), .val (.ref ee), .val (.ref dd), .val (.int (2 : Int32))] [])) _
  refine ownStep (fun _ k => XS.iloadN X0.here hx rfl (hb hby own_al_add3_2_d0) rfl  k) ?_
  refine ownStep (fun _ k => XS.aloadN X0.here hx rfl (hb hby own_al_add3_2_d1) rfl rfl k) ?_
  show ownGo p.tables e below (s₁.setTop (mkF m 2 #[.val (.ref a), .val (.ref ee), .val (.ref dd), .val (.int (2 : Int32))] [(.ref dd), (.int (2 : Int32))])) _
  have Vo1 := V
  obtain ⟨cl1, Ar1, q1, S1, N1, H1, G1⟩ := Vo1
  refine ownStep (X0.arraylength hx (by rw [e0]; exact Ar1.1) (State.isArrayOf_alike hZ.alike Ar1.2.1) (g := (mkF m 2 #[.val (.ref a), .val (.ref ee), .val (.ref dd), .val (.int (2 : Int32))] [(.ref dd), (.int (2 : Int32))])) rfl rfl (hb hby own_al_add3_2_d2)) ?_
  rw [len_of S1 N1]
  refine ownStep (fun _ k => XS.icmpYes X0.here hx rfl (pc0 := 3) (pc' := 11) rfl (hb hby own_al_add3_2_d3) rfl (feq (by decide : ¬ (2 : Int32) = (10 : Int32))).2 (by decide) (by decide) k) ?_
  refine ownStep (fun _ k => XS.aloadN X0.here hx rfl (hb hby own_al_add3_2_d11) rfl rfl k) ?_
  refine ownStep (fun _ k => XS.iloadN X0.here hx rfl (hb hby own_al_add3_2_d12) rfl  k) ?_
  refine ownStep (fun _ k => XS.aloadN X0.here hx rfl (hb hby own_al_add3_2_d13) rfl rfl k) ?_
  show ownGo p.tables e below (s₁.setTop (mkF m 14 #[.val (.ref a), .val (.ref ee), .val (.ref dd), .val (.int (2 : Int32))] [(.ref ee), (.int (2 : Int32)), (.ref dd)])) _
  have Vo2 := V
  obtain ⟨cl2, Ar2, q2, S2, N2, H2, G2⟩ := Vo2
  have hin2 : ¬ ((2 : Int32) < 0 ∨ cl2.slots.size ≤ ((2 : Int32)).toNatClampNeg) := inb_of S2 ⟨by decide, by decide⟩
  obtain ⟨T3, h3, X3, e3, W3, st3⟩ := stR X0 hx hZ e0 Ar2 (j := (2 : Int32)) hin2 rfl (Sto.ofV Ar2 q2 O I) (g := (mkF m 14 #[.val (.ref a), .val (.ref ee), .val (.ref dd), .val (.int (2 : Int32))] [(.ref ee), (.int (2 : Int32)), (.ref dd)])) rfl rfl (hb hby own_al_add3_2_d14)
  have N4 := Fr.snoc X3 N0 gd
  have KP5 : Keep h0 h3 [a, dd] := KP0.wr W3 (Or.inl (List.mem_of_getElem? (i := 1) rfl))
  have V6 : Arv Z h3 dd kk (.object "java/lang/Object") (10 : Int32) [u0, u1, (.ref ee), .null, .null, .null, .null, .null, .null, .null] .null := Arv.set Ar2 q2 S2 N2 H2 G2 rfl W3 2 rfl (Nat.le_of_ble_eq_true rfl)
  refine ownStep st3 ?_
  refine ownStep (fun _ k => XS.aloadN X3.here hx rfl (hb hby own_al_add3_2_d15) rfl rfl k) ?_
  refine ownStep (fun _ k => XS.iloadN X3.here hx rfl (hb hby own_al_add3_2_d16) rfl  k) ?_
  refine ownStep (fun _ k => XS.iconst X3.here hx rfl (hb hby own_al_add3_2_d17) k) ?_
  refine ownStep (fun _ k => XS.iadd X3.here hx rfl (hb hby own_al_add3_2_d18) rfl k) ?_
  show ownGo p.tables e below (T3.setTop (mkF m 19 #[.val (.ref a), .val (.ref ee), .val (.ref dd), .val (.int (2 : Int32))] [(.int (3 : Int32)), (.ref a)])) _
  have Q7 : Fld Z h3 a "java/util/ArrayList" "size" "I" (.int (2 : Int32)) := (Fs.other W3 (Or.inl nad))
  have Q8 : Exa Z h3 a "java/util/ArrayList" := (E.wr W3)
  obtain ⟨T9, h9, X9, e9, W9, st9⟩ := putF X3 hx hZ hown (host := "") (Or.inl (hw _ (List.mem_of_getElem? (i := 47) rfl))) Via.refl e3 Q7 Q8 (Or.inl (hw _ (List.mem_of_getElem? (i := 48) rfl))) (hw _ (List.mem_of_getElem? (i := 6) rfl)) (ty := .int) (by decide) rfl rfl (g := (mkF m 19 #[.val (.ref a), .val (.ref ee), .val (.ref dd), .val (.int (2 : Int32))] [(.int (3 : Int32)), (.ref a)])) rfl rfl (hb hby own_al_add3_2_d19)
  have N10 := Fr.snoc X9 N4 g
  have KP11 : Keep h0 h9 [a, dd] := KP5.wr W9 (Or.inl (List.mem_of_getElem? (i := 0) rfl))
  have F12 : Fld Z h9 a "java/util/ArrayList" "size" "I" (.int (3 : Int32)) := Q7.same W9
  refine ownStep st9 ?_
  show ownGo p.tables e below (T9.setTop (mkF m 22 #[.val (.ref a), .val (.ref ee), .val (.ref dd), .val (.int (2 : Int32))] [])) _
  have Q13 : Fld Z h9 a "java/util/ArrayList" "elementData" "[Ljava/lang/Object;" (.ref dd) := ((Fe.other W3 (Or.inl nad)).other W9 (Or.inr (slot_ne (Or.inl (hw _ (List.mem_of_getElem? (i := 30) rfl))) (Or.inl (hw _ (List.mem_of_getElem? (i := 48) rfl))) (by decide) (t := (.array (.object "java/lang/Object"))) (t' := .int) (by decide) (by decide))))
  have Q14 : Fld Z h9 a "java/util/AbstractList" "modCount" "I" (.int mc) := ((Fm.other W3 (Or.inl nad)).other W9 (Or.inr (slot_ne (Or.inl (hw _ (List.mem_of_getElem? (i := 27) rfl))) (Or.inl (hw _ (List.mem_of_getElem? (i := 48) rfl))) (by decide) (t := .int) (t' := .int) (by decide) (by decide))))
  have Q15 : Arv Z h9 dd kk (.object "java/lang/Object") (10 : Int32) [u0, u1, (.ref ee), .null, .null, .null, .null, .null, .null, .null] .null := (V6.other W9 (Ne.symm nad))
  exact ownRet X9 (v := none) Bd.notSynchronized (fun _ => rfl) (fun _ hr => X9.returnOut hx Bd.returns (hb hby own_al_add3_2_d22) hr) (by rw [e9]; exact ⟨rfl, N10, KP11, Q13, F12, Q14, Q15⟩) (by decide) (by decide)
theorem own_al_add_2_d0 : decode jdk_38_method_25_code 0 = .ok (.aload_n 0, 1) := by decide +kernel
theorem own_al_add_2_d1 : decode jdk_38_method_25_code 1 = .ok (.dup, 1) := by decide +kernel
theorem own_al_add_2_d2 : decode jdk_38_method_25_code 2 = .ok (.getfield 63, 3) := by decide +kernel
theorem own_al_add_2_d5 : decode jdk_38_method_25_code 5 = .ok (.iconst 1, 1) := by decide +kernel
theorem own_al_add_2_d6 : decode jdk_38_method_25_code 6 = .ok (.iadd, 1) := by decide +kernel
theorem own_al_add_2_d7 : decode jdk_38_method_25_code 7 = .ok (.putfield 63, 3) := by decide +kernel
theorem own_al_add_2_d10 : decode jdk_38_method_25_code 10 = .ok (.aload_n 0, 1) := by decide +kernel
theorem own_al_add_2_d11 : decode jdk_38_method_25_code 11 = .ok (.aload_n 1, 1) := by decide +kernel
theorem own_al_add_2_d12 : decode jdk_38_method_25_code 12 = .ok (.aload_n 0, 1) := by decide +kernel
theorem own_al_add_2_d13 : decode jdk_38_method_25_code 13 = .ok (.getfield 9, 3) := by decide +kernel
theorem own_al_add_2_d16 : decode jdk_38_method_25_code 16 = .ok (.aload_n 0, 1) := by decide +kernel
theorem own_al_add_2_d17 : decode jdk_38_method_25_code 17 = .ok (.getfield 48, 3) := by decide +kernel
theorem own_al_add_2_d20 : decode jdk_38_method_25_code 20 = .ok (.invokevirtual 131, 3) := by decide +kernel
theorem own_al_add_2_d23 : decode jdk_38_method_25_code 23 = .ok (.iconst 1, 1) := by decide +kernel
theorem own_al_add_2_d24 : decode jdk_38_method_25_code 24 = .ok (.ireturn, 1) := by decide +kernel
theorem own_al_add_2_pn : plainName "java/util/ArrayList" = true := by first | (simp [plainName, overriddenIn]; done) | decide +kernel
theorem own_al_add_2_pd0 : parseMethodDescriptor "(Ljava/lang/Object;[Ljava/lang/Object;I)V" = some ⟨[(.object "java/lang/Object"), (.array (.object "java/lang/Object")), .int], none⟩ := by decide +kernel
theorem own_al_add_2_ef (m : MethodId) (x0 : Addr) (x1 : Addr) : entryFrame m #[(.ref x0), (.ref x1)] 2 = mkF m 0 #[.val (.ref x0), .val (.ref x1)] [] := by first | (simp [entryFrame, mkF, argsToLocals, Value.category]; done) | rfl
def own_al_add_2_Q (Z : State) (a : Addr) (dd : Addr) (kk : ClassId) (mc : Int32) (u0 : Value) (u1 : Value) (ee : Addr) (h0 : Heap) (n0 : Nat) (vv_ : Option Value) (hh_ : Heap) (LL_ : List Loc) : Prop := vv_ = some (.int (1 : Int32)) ∧ Fr n0 LL_ ∧ Keep h0 hh_ [a, dd] ∧ (Fld Z hh_ a "java/util/ArrayList" "elementData" "[Ljava/lang/Object;" (.ref dd)) ∧ (Fld Z hh_ a "java/util/ArrayList" "size" "I" (.int (3 : Int32))) ∧ (Fld Z hh_ a "java/util/AbstractList" "modCount" "I" (.int (mc + (1 : Int32)))) ∧ (Arv Z hh_ dd kk (.object "java/lang/Object") (10 : Int32) [u0, u1, (.ref ee), .null, .null, .null, .null, .null, .null, .null] .null)
set_option maxRecDepth 65536 in
set_option maxHeartbeats 40000000 in
theorem own_al_add_2 (l : Launch) (Z : State) (a0 : Array Value) (hw : ∀ d ∈ tables_1, d.before a0 Z = true) (ws : List Jvm.Cond) (a : Addr) (dd : Addr) (kk : ClassId) (mc : Int32) (u0 : Value) (u1 : Value) (ee : Addr) (h0 : Heap) (n0 : Nat) (Z0 : n0 ≤ h0.size) (E : Exa Z h0 a "java/util/ArrayList") (Fe : Fld Z h0 a "java/util/ArrayList" "elementData" "[Ljava/lang/Object;" (.ref dd)) (Fs : Fld Z h0 a "java/util/ArrayList" "size" "I" (.int (2 : Int32))) (Fm : Fld Z h0 a "java/util/AbstractList" "modCount" "I" (.int mc)) (V : Arv Z h0 dd kk (.object "java/lang/Object") (10 : Int32) [u0, u1, .null, .null, .null, .null, .null, .null, .null, .null] .null) (O : Ovr Z kk "java/lang/Object") (g : n0 ≤ a) (gd : n0 ≤ dd) (nad : a ≠ dd) (I : Ins Z h0 ee "java/lang/Object" true) :
    MetFree l (⟨"java/util/ArrayList", "add", "(Ljava/lang/Object;)Z"⟩ : MethodName) (head1 (Jvm.Cond.code (⟨"java/util/ArrayList", "add", "(Ljava/lang/Object;)Z"⟩ : MethodName) jdk_38_method_25_code 2 (some .boolean) :: ws) ({ frames := 1, cells := 1, slots := 10, locals := 15 } : Room)) (fun aa_ UU_ => aa_ = #[(.ref a), (.ref ee)] ∧ Z.Warmed39 UU_.vm ∧ UU_.heap = h0) (fun _ _ _ _ _ => True) (fun _ UU_ oo_ UV_ => ∃ vv_ LL_, oo_ = .returned vv_ ∧ own_al_add_2_Q Z a dd kk mc u0 u1 ee h0 n0 vv_ UV_.heap LL_ ∧ FrameEnd UU_ oo_ UV_ LL_ ({ frames := 1, cells := 1, slots := 10, locals := 15 } : Room).cells ({ frames := 1, cells := 1, slots := 10, locals := 15 } : Room).slots) := by
  refine MetFree.of_bodySF (plainFor_of_name own_al_add_2_pn) hisR ?_
  intro p e s m args below meth c s₁ Bd hml0 hP hK
  obtain ⟨rfl, hZ, hh⟩ := hP
  have hx := Bd.exec
  have hby := Bd.bytes
  have hml : c.maxLocals = 2 := hml0
  have hown : s.vm.findClass "java/util/ArrayList" = some m.cls := findClass_of_methodNamed Bd.named
  have hnm := (name_of_methodNamed Bd.named Bd.method).1
  have X0 : Stand p l e ({ frames := 1, cells := 1, slots := 10, locals := 15 } : Room) s m #[(.ref a), (.ref ee)] below meth c s₁ [] 0 0 := Stand.of_body Bd
  have e0 : s₁.heap = h0 := by rw [← hh, Bd.state]; rfl
  have N0 := Fr.nil n0
  have KP0 : Keep h0 h0 [a, dd] := Keep.refl _ _
  refine ownFin (Q := own_al_add_2_Q Z a dd kk mc u0 u1 ee h0 n0) ?_
  refine ownStep (fun _ k => castTop (own_al_add_2_ef m a ee) k) ?_
  show ownGo p.tables e below (s₁.setTop (mkF m 0 #[.val (.ref a), .val (.ref ee)] [])) _
  refine ownStep (fun _ k => XS.aloadN X0.here hx rfl (hb hby own_al_add_2_d0) rfl rfl k) ?_
  refine ownStep (fun _ k => XS.dup X0.here hx rfl (hb hby own_al_add_2_d1) rfl rfl k) ?_
  show ownGo p.tables e below (s₁.setTop (mkF m 2 #[.val (.ref a), .val (.ref ee)] [(.ref a), (.ref a)])) _
  obtain ⟨T1, X1, e1, st1⟩ := getF X0 hx hZ hown (host := "") (Or.inl (hw _ (List.mem_of_getElem? (i := 62) rfl))) (Via.of (hw _ (List.mem_of_getElem? (i := 63) rfl))) e0 Fm (g := (mkF m 2 #[.val (.ref a), .val (.ref ee)] [(.ref a), (.ref a)])) rfl rfl (hb hby own_al_add_2_d2)
  refine ownStep st1 ?_
  refine ownStep (fun _ k => XS.iconst X1.here hx rfl (hb hby own_al_add_2_d5) k) ?_
  refine ownStep (fun _ k => XS.iadd X1.here hx rfl (hb hby own_al_add_2_d6) rfl k) ?_
  show ownGo p.tables e below (T1.setTop (mkF m 7 #[.val (.ref a), .val (.ref ee)] [(.int (mc + (1 : Int32))), (.ref a)])) _
  obtain ⟨T2, h2, X2, e2, W2, st2⟩ := putF X1 hx hZ hown (host := "") (Or.inl (hw _ (List.mem_of_getElem? (i := 62) rfl))) (Via.of (hw _ (List.mem_of_getElem? (i := 63) rfl))) e1 Fm E (Or.inl (hw _ (List.mem_of_getElem? (i := 27) rfl))) (hw _ (List.mem_of_getElem? (i := 6) rfl)) (ty := .int) (by decide) rfl rfl (g := (mkF m 7 #[.val (.ref a), .val (.ref ee)] [(.int (mc + (1 : Int32))), (.ref a)])) rfl rfl (hb hby own_al_add_2_d7)
  have N3 := Fr.snoc X2 N0 g
  have KP4 : Keep h0 h2 [a, dd] := KP0.wr W2 (Or.inl (List.mem_of_getElem? (i := 0) rfl))
  have F5 : Fld Z h2 a "java/util/AbstractList" "modCount" "I" (.int (mc + (1 : Int32))) := Fm.same W2
  refine ownStep st2 ?_
  refine ownStep (fun _ k => XS.aloadN X2.here hx rfl (hb hby own_al_add_2_d10) rfl rfl k) ?_
  refine ownStep (fun _ k => XS.aloadN X2.here hx rfl (hb hby own_al_add_2_d11) rfl rfl k) ?_
  refine ownStep (fun _ k => XS.aloadN X2.here hx rfl (hb hby own_al_add_2_d12) rfl rfl k) ?_
  show ownGo p.tables e below (T2.setTop (mkF m 13 #[.val (.ref a), .val (.ref ee)] [(.ref a), (.ref ee), (.ref a)])) _
  have Q6 : Fld Z h2 a "java/util/ArrayList" "elementData" "[Ljava/lang/Object;" (.ref dd) := (Fe.other W2 (Or.inr (slot_ne (Or.inl (hw _ (List.mem_of_getElem? (i := 30) rfl))) (Or.inl (hw _ (List.mem_of_getElem? (i := 27) rfl))) (by decide) (t := (.array (.object "java/lang/Object"))) (t' := .int) (by decide) (by decide))))
  obtain ⟨T7, X7, e7, st7⟩ := getF X2 hx hZ hown (host := "") (Or.inl (hw _ (List.mem_of_getElem? (i := 29) rfl))) Via.refl e2 Q6 (g := (mkF m 13 #[.val (.ref a), .val (.ref ee)] [(.ref a), (.ref ee), (.ref a)])) rfl rfl (hb hby own_al_add_2_d13)
  refine ownStep st7 ?_
  refine ownStep (fun _ k => XS.aloadN X7.here hx rfl (hb hby own_al_add_2_d16) rfl rfl k) ?_
  show ownGo p.tables e below (T7.setTop (mkF m 17 #[.val (.ref a), .val (.ref ee)] [(.ref a), (.ref dd), (.ref ee), (.ref a)])) _
  have Q8 : Fld Z h2 a "java/util/ArrayList" "size" "I" (.int (2 : Int32)) := (Fs.other W2 (Or.inr (slot_ne (Or.inl (hw _ (List.mem_of_getElem? (i := 48) rfl))) (Or.inl (hw _ (List.mem_of_getElem? (i := 27) rfl))) (by decide) (t := .int) (t' := .int) (by decide) (by decide))))
  obtain ⟨T9, X9, e9, st9⟩ := getF X7 hx hZ hown (host := "") (Or.inl (hw _ (List.mem_of_getElem? (i := 47) rfl))) Via.refl e7 Q8 (g := (mkF m 17 #[.val (.ref a), .val (.ref ee)] [(.ref a), (.ref dd), (.ref ee), (.ref a)])) rfl rfl (hb hby own_al_add_2_d17)
  refine ownStep st9 ?_
  show ownGo p.tables e below (T9.setTop (mkF m 20 #[.val (.ref a), .val (.ref ee)] [(.int (2 : Int32)), (.ref dd), (.ref ee), (.ref a)])) _
  have Q10 : Exa Z h2 a "java/util/ArrayList" := (E.wr W2)
  have Q11 : Arv Z h2 dd kk (.object "java/lang/Object") (10 : Int32) [u0, u1, .null, .null, .null, .null, .null, .null, .null, .null] .null := (V.other W2 (Ne.symm nad))
  have Q12 : Ins Z h2 ee "java/lang/Object" true := (I.wr W2)
  have Zs14 : n0 ≤ h2.size := Nat.le_trans Z0 KP4.1
  obtain ⟨cq13, q13, q13'⟩ := Q10.cell
  obtain ⟨_, _, ⟨T13, L13, k13, n13⟩, -, X13, ⟨Lc13, hQ13, l13, y13, z13⟩, st13⟩ := X9.privateBack hx (y := (⟨"java/util/ArrayList", "add", "(Ljava/lang/Object;[Ljava/lang/Object;I)V"⟩ : MethodName)) hown (mvT hZ (hw _ (List.mem_of_getElem? (i := 64) rfl))) (mvT hZ (hw _ (List.mem_of_getElem? (i := 65) rfl))) (mvT hZ (hw _ (List.mem_of_getElem? (i := 67) rfl))) (Cond.privateMethod_at (mvP hZ (hw _ (List.mem_of_getElem? (i := 66) rfl)) (args := #[]))) (mvT hZ (hw _ (List.mem_of_getElem? (i := 68) rfl))) (by decide) (backOf (W := 0) (own_al_add3_2 l Z a0 hw [] a dd kk (mc + (1 : Int32)) u0 u1 ee h2 n0 Zs14 Q10 Q6 Q8 F5 Q11 O g gd nad Q12) hZ (hw _ (List.mem_of_getElem? (i := 68) rfl)) (hw _ (List.mem_of_getElem? (i := 7) rfl)) (by decide) (by decide)) (g := (mkF m 20 #[.val (.ref a), .val (.ref ee)] [(.int (2 : Int32)), (.ref dd), (.ref ee), (.ref a)])) rfl (by rw [hml]; rfl) (Steps.refl _) (a := a) (by rw [e9]; exact q13) q13' (argsL := [(.ref ee), (.ref dd), (.int (2 : Int32))]) (rest := []) (lenOf own_al_add_2_pd0 rfl) rfl (by show 2 * 0 + _ ≤ _; exact Nat.le_of_eq rfl) (hb hby own_al_add_2_d20) (fun _ _ => ⟨rfl, e9, (by decide : 0 + 0 ≤ _), (by decide : 0 + 0 ≤ _)⟩)
  dsimp only [Pt.U, Pt.locs, Pt.cells, Pt.slots] at X13 l13 y13 z13 st13 hQ13
  obtain rfl : k13 = 0 := y13
  obtain rfl : n13 = 0 := z13
  obtain ⟨rfl, N13q, R13, P15, P16, P17, P18⟩ := hQ13
  have N13 : Fr n0 L13 := l13 ▸ Fr.app N3 N13q
  refine ownStep (fun _ k => st13.trans k) ?_
  have KP19 : Keep h0 T13.heap [a, dd] := KP4.trans R13 (allS (Or.inl (List.mem_of_getElem? (i := 0) rfl)) (allS (Or.inl (List.mem_of_getElem? (i := 1) rfl)) all0))
  refine ownStep (fun _ k => XS.iconst X13.here hx rfl (hb hby own_al_add_2_d23) k) ?_
  show ownGo p.tables e below (T13.setTop (mkF m 24 #[.val (.ref a), .val (.ref ee)] [(.int (1 : Int32))])) _
  exact ownRet X13 (v := some (.int (1 : Int32))) Bd.notSynchronized (fun h => by rw [Bd.returns] at h; cases h) (fun _ hr => retN X13 hx (t := .boolean) Bd.returns (by simp) (hb hby own_al_add_2_d24) hr) (⟨rfl, N13, KP19, P15, P16, P17, P18⟩) (by decide) (by decide)
theorem own_al_add3_3_d0 : decode jdk_38_method_24_code 0 = .ok (.iload_n 3, 1) := by decide +kernel
theorem own_al_add3_3_d1 : decode jdk_38_method_24_code 1 = .ok (.aload_n 2, 1) := by decide +kernel
theorem own_al_add3_3_d2 : decode jdk_38_method_24_code 2 = .ok (.arraylength, 1) := by decide +kernel
theorem own_al_add3_3_d3 : decode jdk_38_method_24_code 3 = .ok (.if_icmp .ne 8, 3) := by decide +kernel
theorem own_al_add3_3_d11 : decode jdk_38_method_24_code 11 = .ok (.aload_n 2, 1) := by decide +kernel
theorem own_al_add3_3_d12 : decode jdk_38_method_24_code 12 = .ok (.iload_n 3, 1) := by decide +kernel
theorem own_al_add3_3_d13 : decode jdk_38_method_24_code 13 = .ok (.aload_n 1, 1) := by decide +kernel
theorem own_al_add3_3_d14 : decode jdk_38_method_24_code 14 = .ok (.aastore, 1) := by decide +kernel
theorem own_al_add3_3_d15 : decode jdk_38_method_24_code 15 = .ok (.aload_n 0, 1) := by decide +kernel
theorem own_al_add3_3_d16 : decode jdk_38_method_24_code 16 = .ok (.iload_n 3, 1) := by decide +kernel
theorem own_al_add3_3_d17 : decode jdk_38_method_24_code 17 = .ok (.iconst 1, 1) := by decide +kernel
theorem own_al_add3_3_d18 : decode jdk_38_method_24_code 18 = .ok (.iadd, 1) := by decide +kernel
theorem own_al_add3_3_d19 : decode jdk_38_method_24_code 19 = .ok (.putfield 48, 3) := by decide +kernel
theorem own_al_add3_3_d22 : decode jdk_38_method_24_code 22 = .ok (.return_, 1) := by decide +kernel
theorem own_al_add3_3_pn : plainName "java/util/ArrayList" = true := by first | (simp [plainName, overriddenIn]; done) | decide +kernel
theorem own_al_add3_3_ef (m : MethodId) (x0 : Addr) (x1 : Addr) (x2 : Addr) (x3 : Int32) : entryFrame m #[(.ref x0), (.ref x1), (.ref x2), (.int x3)] 4 = mkF m 0 #[.val (.ref x0), .val (.ref x1), .val (.ref x2), .val (.int x3)] [] := by first | (simp [entryFrame, mkF, argsToLocals, Value.category]; done) | rfl
def own_al_add3_3_Q (Z : State) (a : Addr) (dd : Addr) (kk : ClassId) (mc : Int32) (u0 : Value) (u1 : Value) (u2 : Value) (ee : Addr) (h0 : Heap) (n0 : Nat) (vv_ : Option Value) (hh_ : Heap) (LL_ : List Loc) : Prop := vv_ = none ∧ Fr n0 LL_ ∧ Keep h0 hh_ [a, dd] ∧ (Fld Z hh_ a "java/util/ArrayList" "elementData" "[Ljava/lang/Object;" (.ref dd)) ∧ (Fld Z hh_ a "java/util/ArrayList" "size" "I" (.int (4 : Int32))) ∧ (Fld Z hh_ a "java/util/AbstractList" "modCount" "I" (.int mc)) ∧ (Arv Z hh_ dd kk (.object "java/lang/Object") (10 : Int32) [u0, u1, u2, (.ref ee), .null, .null, .null, .null, .null, .null] .null)
set_option maxRecDepth 65536 in
set_option maxHeartbeats 40000000 in
theorem own_al_add3_3 (l : Launch) (Z : State) (a0 : Array Value) (hw : ∀ d ∈ tables_1, d.before a0 Z = true) (ws : List Jvm.Cond) (a : Addr) (dd : Addr) (kk : ClassId) (mc : Int32) (u0 : Value) (u1 : Value) (u2 : Value) (ee : Addr) (h0 : Heap) (n0 : Nat) (Z0 : n0 ≤ h0.size) (E : Exa Z h0 a "java/util/ArrayList") (Fe : Fld Z h0 a "java/util/ArrayList" "elementData" "[Ljava/lang/Object;" (.ref dd)) (Fs : Fld Z h0 a "java/util/ArrayList" "size" "I" (.int (3 : Int32))) (Fm : Fld Z h0 a "java/util/AbstractList" "modCount" "I" (.int mc)) (V : Arv Z h0 dd kk (.object "java/lang/Object") (10 : Int32) [u0, u1, u2, .null, .null, .null, .null, .null, .null, .null] .null) (O : Ovr Z kk "java/lang/Object") (g : n0 ≤ a) (gd : n0 ≤ dd) (nad : a ≠ dd) (I : Ins Z h0 ee "java/lang/Object" true) :
    MetFree l (⟨"java/util/ArrayList", "add", "(Ljava/lang/Object;[Ljava/lang/Object;I)V"⟩ : MethodName) (head1 (Jvm.Cond.code (⟨"java/util/ArrayList", "add", "(Ljava/lang/Object;[Ljava/lang/Object;I)V"⟩ : MethodName) jdk_38_method_24_code 4 none :: ws) ({ frames := 0, cells := 0, slots := 0, locals := 0 } : Room)) (fun aa_ UU_ => aa_ = #[(.ref a), (.ref ee), (.ref dd), (.int (3 : Int32))] ∧ Z.Warmed39 UU_.vm ∧ UU_.heap = h0) (fun _ _ _ _ _ => True) (fun _ UU_ oo_ UV_ => ∃ vv_ LL_, oo_ = .returned vv_ ∧ own_al_add3_3_Q Z a dd kk mc u0 u1 u2 ee h0 n0 vv_ UV_.heap LL_ ∧ FrameEnd UU_ oo_ UV_ LL_ ({ frames := 0, cells := 0, slots := 0, locals := 0 } : Room).cells ({ frames := 0, cells := 0, slots := 0, locals := 0 } : Room).slots) := by
  refine MetFree.of_bodySF (plainFor_of_name own_al_add3_3_pn) hisR ?_
  intro p e s m args below meth c s₁ Bd hml0 hP hK
  obtain ⟨rfl, hZ, hh⟩ := hP
  have hx := Bd.exec
  have hby := Bd.bytes
  have hml : c.maxLocals = 4 := hml0
  have hown : s.vm.findClass "java/util/ArrayList" = some m.cls := findClass_of_methodNamed Bd.named
  have hnm := (name_of_methodNamed Bd.named Bd.method).1
  have X0 : Stand p l e ({ frames := 0, cells := 0, slots := 0, locals := 0 } : Room) s m #[(.ref a), (.ref ee), (.ref dd), (.int (3 : Int32))] below meth c s₁ [] 0 0 := Stand.of_body Bd
  have e0 : s₁.heap = h0 := by rw [← hh, Bd.state]; rfl
  have N0 := Fr.nil n0
  have KP0 : Keep h0 h0 [a, dd] := Keep.refl _ _
  refine ownFin (Q := own_al_add3_3_Q Z a dd kk mc u0 u1 u2 ee h0 n0) ?_
  refine ownStep (fun _ k => castTop (own_al_add3_3_ef m a ee dd (3 : Int32)) k) ?_
  show ownGo p.tables e below (s₁.setTop (mkF m 0 #[.val (.ref a), .val (.ref ee), .val (.ref dd), .val (.int (3 : Int32))] [])) _
  refine ownStep (fun _ k => XS.iloadN X0.here hx rfl (hb hby own_al_add3_3_d0) rfl  k) ?_
  refine ownStep (fun _ k => XS.aloadN X0.here hx rfl (hb hby own_al_add3_3_d1) rfl rfl k) ?_
  show ownGo p.tables e below (s₁.setTop (mkF m 2 #[.val (.ref a), .val (.ref ee), .val (.ref dd), .val (.int (3 : Int32))] [(.ref dd), (.int (3 : Int32))])) _
  have Vo1 := V
  obtain ⟨cl1, Ar1, q1, S1, N1, H1, G1⟩ := Vo1
  refine ownStep (X0.arraylength hx (by rw [e0]; exact Ar1.1) (State.isArrayOf_alike hZ.alike Ar1.2.1) (g := (mkF m 2 #[.val (.ref a), .val (.ref ee), .val (.ref dd), .val (.int (3 : Int32))] [(.ref dd), (.int (3 : Int32))])) rfl rfl (hb hby own_al_add3_3_d2)) ?_
  rw [len_of S1 N1]
  refine ownStep (fun _ k => XS.icmpYes X0.here hx rfl (pc0 := 3) (pc' := 11) rfl (hb hby own_al_add3_3_d3) rfl (feq (by decide : ¬ (3 : Int32) = (10 : Int32))).2 (by decide) (by decide) k) ?_
  refine ownStep (fun _ k => XS.aloadN X0.here hx rfl (hb hby own_al_add3_3_d11) rfl rfl k) ?_
  refine ownStep (fun _ k => XS.iloadN X0.here hx rfl (hb hby own_al_add3_3_d12) rfl  k) ?_
  refine ownStep (fun _ k => XS.aloadN X0.here hx rfl (hb hby own_al_add3_3_d13) rfl rfl k) ?_
  show ownGo p.tables e below (s₁.setTop (mkF m 14 #[.val (.ref a), .val (.ref ee), .val (.ref dd), .val (.int (3 : Int32))] [(.ref ee), (.int (3 : Int32)), (.ref dd)])) _
  have Vo2 := V
  obtain ⟨cl2, Ar2, q2, S2, N2, H2, G2⟩ := Vo2
  have hin2 : ¬ ((3 : Int32) < 0 ∨ cl2.slots.size ≤ ((3 : Int32)).toNatClampNeg) := inb_of S2 ⟨by decide, by decide⟩
  obtain ⟨T3, h3, X3, e3, W3, st3⟩ := stR X0 hx hZ e0 Ar2 (j := (3 : Int32)) hin2 rfl (Sto.ofV Ar2 q2 O I) (g := (mkF m 14 #[.val (.ref a), .val (.ref ee), .val (.ref dd), .val (.int (3 : Int32))] [(.ref ee), (.int (3 : Int32)), (.ref dd)])) rfl rfl (hb hby own_al_add3_3_d14)
  have N4 := Fr.snoc X3 N0 gd
  have KP5 : Keep h0 h3 [a, dd] := KP0.wr W3 (Or.inl (List.mem_of_getElem? (i := 1) rfl))
  have V6 : Arv Z h3 dd kk (.object "java/lang/Object") (10 : Int32) [u0, u1, u2, (.ref ee), .null, .null, .null, .null, .null, .null] .null := Arv.set Ar2 q2 S2 N2 H2 G2 rfl W3 3 rfl (Nat.le_of_ble_eq_true rfl)
  refine ownStep st3 ?_
  refine ownStep (fun _ k => XS.aloadN X3.here hx rfl (hb hby own_al_add3_3_d15) rfl rfl k) ?_
  refine ownStep (fun _ k => XS.iloadN X3.here hx rfl (hb hby own_al_add3_3_d16) rfl  k) ?_
  refine ownStep (fun _ k => XS.iconst X3.here hx rfl (hb hby own_al_add3_3_d17) k) ?_
  refine ownStep (fun _ k => XS.iadd X3.here hx rfl (hb hby own_al_add3_3_d18) rfl k) ?_
  show ownGo p.tables e below (T3.setTop (mkF m 19 #[.val (.ref a), .val (.ref ee), .val (.ref dd), .val (.int (3 : Int32))] [(.int (4 : Int32)), (.ref a)])) _
  have Q7 : Fld Z h3 a "java/util/ArrayList" "size" "I" (.int (3 : Int32)) := (Fs.other W3 (Or.inl nad))
  have Q8 : Exa Z h3 a "java/util/ArrayList" := (E.wr W3)
  obtain ⟨T9, h9, X9, e9, W9, st9⟩ := putF X3 hx hZ hown (host := "") (Or.inl (hw _ (List.mem_of_getElem? (i := 47) rfl))) Via.refl e3 Q7 Q8 (Or.inl (hw _ (List.mem_of_getElem? (i := 48) rfl))) (hw _ (List.mem_of_getElem? (i := 6) rfl)) (ty := .int) (by decide) rfl rfl (g := (mkF m 19 #[.val (.ref a), .val (.ref ee), .val (.ref dd), .val (.int (3 : Int32))] [(.int (4 : Int32)), (.ref a)])) rfl rfl (hb hby own_al_add3_3_d19)
  have N10 := Fr.snoc X9 N4 g
  have KP11 : Keep h0 h9 [a, dd] := KP5.wr W9 (Or.inl (List.mem_of_getElem? (i := 0) rfl))
  have F12 : Fld Z h9 a "java/util/ArrayList" "size" "I" (.int (4 : Int32)) := Q7.same W9
  refine ownStep st9 ?_
  show ownGo p.tables e below (T9.setTop (mkF m 22 #[.val (.ref a), .val (.ref ee), .val (.ref dd), .val (.int (3 : Int32))] [])) _
  have Q13 : Fld Z h9 a "java/util/ArrayList" "elementData" "[Ljava/lang/Object;" (.ref dd) := ((Fe.other W3 (Or.inl nad)).other W9 (Or.inr (slot_ne (Or.inl (hw _ (List.mem_of_getElem? (i := 30) rfl))) (Or.inl (hw _ (List.mem_of_getElem? (i := 48) rfl))) (by decide) (t := (.array (.object "java/lang/Object"))) (t' := .int) (by decide) (by decide))))
  have Q14 : Fld Z h9 a "java/util/AbstractList" "modCount" "I" (.int mc) := ((Fm.other W3 (Or.inl nad)).other W9 (Or.inr (slot_ne (Or.inl (hw _ (List.mem_of_getElem? (i := 27) rfl))) (Or.inl (hw _ (List.mem_of_getElem? (i := 48) rfl))) (by decide) (t := .int) (t' := .int) (by decide) (by decide))))
  have Q15 : Arv Z h9 dd kk (.object "java/lang/Object") (10 : Int32) [u0, u1, u2, (.ref ee), .null, .null, .null, .null, .null, .null] .null := (V6.other W9 (Ne.symm nad))
  exact ownRet X9 (v := none) Bd.notSynchronized (fun _ => rfl) (fun _ hr => X9.returnOut hx Bd.returns (hb hby own_al_add3_3_d22) hr) (by rw [e9]; exact ⟨rfl, N10, KP11, Q13, F12, Q14, Q15⟩) (by decide) (by decide)
theorem own_al_add_3_d0 : decode jdk_38_method_25_code 0 = .ok (.aload_n 0, 1) := by decide +kernel
theorem own_al_add_3_d1 : decode jdk_38_method_25_code 1 = .ok (.dup, 1) := by decide +kernel
theorem own_al_add_3_d2 : decode jdk_38_method_25_code 2 = .ok (.getfield 63, 3) := by decide +kernel
theorem own_al_add_3_d5 : decode jdk_38_method_25_code 5 = .ok (.iconst 1, 1) := by decide +kernel
theorem own_al_add_3_d6 : decode jdk_38_method_25_code 6 = .ok (.iadd, 1) := by decide +kernel
theorem own_al_add_3_d7 : decode jdk_38_method_25_code 7 = .ok (.putfield 63, 3) := by decide +kernel
theorem own_al_add_3_d10 : decode jdk_38_method_25_code 10 = .ok (.aload_n 0, 1) := by decide +kernel
theorem own_al_add_3_d11 : decode jdk_38_method_25_code 11 = .ok (.aload_n 1, 1) := by decide +kernel
theorem own_al_add_3_d12 : decode jdk_38_method_25_code 12 = .ok (.aload_n 0, 1) := by decide +kernel
theorem own_al_add_3_d13 : decode jdk_38_method_25_code 13 = .ok (.getfield 9, 3) := by decide +kernel
theorem own_al_add_3_d16 : decode jdk_38_method_25_code 16 = .ok (.aload_n 0, 1) := by decide +kernel
theorem own_al_add_3_d17 : decode jdk_38_method_25_code 17 = .ok (.getfield 48, 3) := by decide +kernel
theorem own_al_add_3_d20 : decode jdk_38_method_25_code 20 = .ok (.invokevirtual 131, 3) := by decide +kernel
theorem own_al_add_3_d23 : decode jdk_38_method_25_code 23 = .ok (.iconst 1, 1) := by decide +kernel
theorem own_al_add_3_d24 : decode jdk_38_method_25_code 24 = .ok (.ireturn, 1) := by decide +kernel
theorem own_al_add_3_pn : plainName "java/util/ArrayList" = true := by first | (simp [plainName, overriddenIn]; done) | decide +kernel
theorem own_al_add_3_pd0 : parseMethodDescriptor "(Ljava/lang/Object;[Ljava/lang/Object;I)V" = some ⟨[(.object "java/lang/Object"), (.array (.object "java/lang/Object")), .int], none⟩ := by decide +kernel
theorem own_al_add_3_ef (m : MethodId) (x0 : Addr) (x1 : Addr) : entryFrame m #[(.ref x0), (.ref x1)] 2 = mkF m 0 #[.val (.ref x0), .val (.ref x1)] [] := by first | (simp [entryFrame, mkF, argsToLocals, Value.category]; done) | rfl
def own_al_add_3_Q (Z : State) (a : Addr) (dd : Addr) (kk : ClassId) (mc : Int32) (u0 : Value) (u1 : Value) (u2 : Value) (ee : Addr) (h0 : Heap) (n0 : Nat) (vv_ : Option Value) (hh_ : Heap) (LL_ : List Loc) : Prop := vv_ = some (.int (1 : Int32)) ∧ Fr n0 LL_ ∧ Keep h0 hh_ [a, dd] ∧ (Fld Z hh_ a "java/util/ArrayList" "elementData" "[Ljava/lang/Object;" (.ref dd)) ∧ (Fld Z hh_ a "java/util/ArrayList" "size" "I" (.int (4 : Int32))) ∧ (Fld Z hh_ a "java/util/AbstractList" "modCount" "I" (.int (mc + (1 : Int32)))) ∧ (Arv Z hh_ dd kk (.object "java/lang/Object") (10 : Int32) [u0, u1, u2, (.ref ee), .null, .null, .null, .null, .null, .null] .null)
set_option maxRecDepth 65536 in
set_option maxHeartbeats 40000000 in
theorem own_al_add_3 (l : Launch) (Z : State) (a0 : Array Value) (hw : ∀ d ∈ tables_1, d.before a0 Z = true) (ws : List Jvm.Cond) (a : Addr) (dd : Addr) (kk : ClassId) (mc : Int32) (u0 : Value) (u1 : Value) (u2 : Value) (ee : Addr) (h0 : Heap) (n0 : Nat) (Z0 : n0 ≤ h0.size) (E : Exa Z h0 a "java/util/ArrayList") (Fe : Fld Z h0 a "java/util/ArrayList" "elementData" "[Ljava/lang/Object;" (.ref dd)) (Fs : Fld Z h0 a "java/util/ArrayList" "size" "I" (.int (3 : Int32))) (Fm : Fld Z h0 a "java/util/AbstractList" "modCount" "I" (.int mc)) (V : Arv Z h0 dd kk (.object "java/lang/Object") (10 : Int32) [u0, u1, u2, .null, .null, .null, .null, .null, .null, .null] .null) (O : Ovr Z kk "java/lang/Object") (g : n0 ≤ a) (gd : n0 ≤ dd) (nad : a ≠ dd) (I : Ins Z h0 ee "java/lang/Object" true) :
    MetFree l (⟨"java/util/ArrayList", "add", "(Ljava/lang/Object;)Z"⟩ : MethodName) (head1 (Jvm.Cond.code (⟨"java/util/ArrayList", "add", "(Ljava/lang/Object;)Z"⟩ : MethodName) jdk_38_method_25_code 2 (some .boolean) :: ws) ({ frames := 1, cells := 1, slots := 10, locals := 15 } : Room)) (fun aa_ UU_ => aa_ = #[(.ref a), (.ref ee)] ∧ Z.Warmed39 UU_.vm ∧ UU_.heap = h0) (fun _ _ _ _ _ => True) (fun _ UU_ oo_ UV_ => ∃ vv_ LL_, oo_ = .returned vv_ ∧ own_al_add_3_Q Z a dd kk mc u0 u1 u2 ee h0 n0 vv_ UV_.heap LL_ ∧ FrameEnd UU_ oo_ UV_ LL_ ({ frames := 1, cells := 1, slots := 10, locals := 15 } : Room).cells ({ frames := 1, cells := 1, slots := 10, locals := 15 } : Room).slots) := by
  refine MetFree.of_bodySF (plainFor_of_name own_al_add_3_pn) hisR ?_
  intro p e s m args below meth c s₁ Bd hml0 hP hK
  obtain ⟨rfl, hZ, hh⟩ := hP
  have hx := Bd.exec
  have hby := Bd.bytes
  have hml : c.maxLocals = 2 := hml0
  have hown : s.vm.findClass "java/util/ArrayList" = some m.cls := findClass_of_methodNamed Bd.named
  have hnm := (name_of_methodNamed Bd.named Bd.method).1
  have X0 : Stand p l e ({ frames := 1, cells := 1, slots := 10, locals := 15 } : Room) s m #[(.ref a), (.ref ee)] below meth c s₁ [] 0 0 := Stand.of_body Bd
  have e0 : s₁.heap = h0 := by rw [← hh, Bd.state]; rfl
  have N0 := Fr.nil n0
  have KP0 : Keep h0 h0 [a, dd] := Keep.refl _ _
  refine ownFin (Q := own_al_add_3_Q Z a dd kk mc u0 u1 u2 ee h0 n0) ?_
  refine ownStep (fun _ k => castTop (own_al_add_3_ef m a ee) k) ?_
  show ownGo p.tables e below (s₁.setTop (mkF m 0 #[.val (.ref a), .val (.ref ee)] [])) _
  refine ownStep (fun _ k => XS.aloadN X0.here hx rfl (hb hby own_al_add_3_d0) rfl rfl k) ?_
  refine ownStep (fun _ k => XS.dup X0.here hx rfl (hb hby own_al_add_3_d1) rfl rfl k) ?_
  show ownGo p.tables e below (s₁.setTop (mkF m 2 #[.val (.ref a), .val (.ref ee)] [(.ref a), (.ref a)])) _
  obtain ⟨T1, X1, e1, st1⟩ := getF X0 hx hZ hown (host := "") (Or.inl (hw _ (List.mem_of_getElem? (i := 62) rfl))) (Via.of (hw _ (List.mem_of_getElem? (i := 63) rfl))) e0 Fm (g := (mkF m 2 #[.val (.ref a), .val (.ref ee)] [(.ref a), (.ref a)])) rfl rfl (hb hby own_al_add_3_d2)
  refine ownStep st1 ?_
  refine ownStep (fun _ k => XS.iconst X1.here hx rfl (hb hby own_al_add_3_d5) k) ?_
  refine ownStep (fun _ k => XS.iadd X1.here hx rfl (hb hby own_al_add_3_d6) rfl k) ?_
  show ownGo p.tables e below (T1.setTop (mkF m 7 #[.val (.ref a), .val (.ref ee)] [(.int (mc + (1 : Int32))), (.ref a)])) _
  obtain ⟨T2, h2, X2, e2, W2, st2⟩ := putF X1 hx hZ hown (host := "") (Or.inl (hw _ (List.mem_of_getElem? (i := 62) rfl))) (Via.of (hw _ (List.mem_of_getElem? (i := 63) rfl))) e1 Fm E (Or.inl (hw _ (List.mem_of_getElem? (i := 27) rfl))) (hw _ (List.mem_of_getElem? (i := 6) rfl)) (ty := .int) (by decide) rfl rfl (g := (mkF m 7 #[.val (.ref a), .val (.ref ee)] [(.int (mc + (1 : Int32))), (.ref a)])) rfl rfl (hb hby own_al_add_3_d7)
  have N3 := Fr.snoc X2 N0 g
  have KP4 : Keep h0 h2 [a, dd] := KP0.wr W2 (Or.inl (List.mem_of_getElem? (i := 0) rfl))
  have F5 : Fld Z h2 a "java/util/AbstractList" "modCount" "I" (.int (mc + (1 : Int32))) := Fm.same W2
  refine ownStep st2 ?_
  refine ownStep (fun _ k => XS.aloadN X2.here hx rfl (hb hby own_al_add_3_d10) rfl rfl k) ?_
  refine ownStep (fun _ k => XS.aloadN X2.here hx rfl (hb hby own_al_add_3_d11) rfl rfl k) ?_
  refine ownStep (fun _ k => XS.aloadN X2.here hx rfl (hb hby own_al_add_3_d12) rfl rfl k) ?_
  show ownGo p.tables e below (T2.setTop (mkF m 13 #[.val (.ref a), .val (.ref ee)] [(.ref a), (.ref ee), (.ref a)])) _
  have Q6 : Fld Z h2 a "java/util/ArrayList" "elementData" "[Ljava/lang/Object;" (.ref dd) := (Fe.other W2 (Or.inr (slot_ne (Or.inl (hw _ (List.mem_of_getElem? (i := 30) rfl))) (Or.inl (hw _ (List.mem_of_getElem? (i := 27) rfl))) (by decide) (t := (.array (.object "java/lang/Object"))) (t' := .int) (by decide) (by decide))))
  obtain ⟨T7, X7, e7, st7⟩ := getF X2 hx hZ hown (host := "") (Or.inl (hw _ (List.mem_of_getElem? (i := 29) rfl))) Via.refl e2 Q6 (g := (mkF m 13 #[.val (.ref a), .val (.ref ee)] [(.ref a), (.ref ee), (.ref a)])) rfl rfl (hb hby own_al_add_3_d13)
  refine ownStep st7 ?_
  refine ownStep (fun _ k => XS.aloadN X7.here hx rfl (hb hby own_al_add_3_d16) rfl rfl k) ?_
  show ownGo p.tables e below (T7.setTop (mkF m 17 #[.val (.ref a), .val (.ref ee)] [(.ref a), (.ref dd), (.ref ee), (.ref a)])) _
  have Q8 : Fld Z h2 a "java/util/ArrayList" "size" "I" (.int (3 : Int32)) := (Fs.other W2 (Or.inr (slot_ne (Or.inl (hw _ (List.mem_of_getElem? (i := 48) rfl))) (Or.inl (hw _ (List.mem_of_getElem? (i := 27) rfl))) (by decide) (t := .int) (t' := .int) (by decide) (by decide))))
  obtain ⟨T9, X9, e9, st9⟩ := getF X7 hx hZ hown (host := "") (Or.inl (hw _ (List.mem_of_getElem? (i := 47) rfl))) Via.refl e7 Q8 (g := (mkF m 17 #[.val (.ref a), .val (.ref ee)] [(.ref a), (.ref dd), (.ref ee), (.ref a)])) rfl rfl (hb hby own_al_add_3_d17)
  refine ownStep st9 ?_
  show ownGo p.tables e below (T9.setTop (mkF m 20 #[.val (.ref a), .val (.ref ee)] [(.int (3 : Int32)), (.ref dd), (.ref ee), (.ref a)])) _
  have Q10 : Exa Z h2 a "java/util/ArrayList" := (E.wr W2)
  have Q11 : Arv Z h2 dd kk (.object "java/lang/Object") (10 : Int32) [u0, u1, u2, .null, .null, .null, .null, .null, .null, .null] .null := (V.other W2 (Ne.symm nad))
  have Q12 : Ins Z h2 ee "java/lang/Object" true := (I.wr W2)
  have Zs14 : n0 ≤ h2.size := Nat.le_trans Z0 KP4.1
  obtain ⟨cq13, q13, q13'⟩ := Q10.cell
  obtain ⟨_, _, ⟨T13, L13, k13, n13⟩, -, X13, ⟨Lc13, hQ13, l13, y13, z13⟩, st13⟩ := X9.privateBack hx (y := (⟨"java/util/ArrayList", "add", "(Ljava/lang/Object;[Ljava/lang/Object;I)V"⟩ : MethodName)) hown (mvT hZ (hw _ (List.mem_of_getElem? (i := 64) rfl))) (mvT hZ (hw _ (List.mem_of_getElem? (i := 65) rfl))) (mvT hZ (hw _ (List.mem_of_getElem? (i := 67) rfl))) (Cond.privateMethod_at (mvP hZ (hw _ (List.mem_of_getElem? (i := 66) rfl)) (args := #[]))) (mvT hZ (hw _ (List.mem_of_getElem? (i := 68) rfl))) (by decide) (backOf (W := 0) (own_al_add3_3 l Z a0 hw [] a dd kk (mc + (1 : Int32)) u0 u1 u2 ee h2 n0 Zs14 Q10 Q6 Q8 F5 Q11 O g gd nad Q12) hZ (hw _ (List.mem_of_getElem? (i := 68) rfl)) (hw _ (List.mem_of_getElem? (i := 7) rfl)) (by decide) (by decide)) (g := (mkF m 20 #[.val (.ref a), .val (.ref ee)] [(.int (3 : Int32)), (.ref dd), (.ref ee), (.ref a)])) rfl (by rw [hml]; rfl) (Steps.refl _) (a := a) (by rw [e9]; exact q13) q13' (argsL := [(.ref ee), (.ref dd), (.int (3 : Int32))]) (rest := []) (lenOf own_al_add_3_pd0 rfl) rfl (by show 2 * 0 + _ ≤ _; exact Nat.le_of_eq rfl) (hb hby own_al_add_3_d20) (fun _ _ => ⟨rfl, e9, (by decide : 0 + 0 ≤ _), (by decide : 0 + 0 ≤ _)⟩)
  dsimp only [Pt.U, Pt.locs, Pt.cells, Pt.slots] at X13 l13 y13 z13 st13 hQ13
  obtain rfl : k13 = 0 := y13
  obtain rfl : n13 = 0 := z13
  obtain ⟨rfl, N13q, R13, P15, P16, P17, P18⟩ := hQ13
  have N13 : Fr n0 L13 := l13 ▸ Fr.app N3 N13q
  refine ownStep (fun _ k => st13.trans k) ?_
  have KP19 : Keep h0 T13.heap [a, dd] := KP4.trans R13 (allS (Or.inl (List.mem_of_getElem? (i := 0) rfl)) (allS (Or.inl (List.mem_of_getElem? (i := 1) rfl)) all0))
  refine ownStep (fun _ k => XS.iconst X13.here hx rfl (hb hby own_al_add_3_d23) k) ?_
  show ownGo p.tables e below (T13.setTop (mkF m 24 #[.val (.ref a), .val (.ref ee)] [(.int (1 : Int32))])) _
  exact ownRet X13 (v := some (.int (1 : Int32))) Bd.notSynchronized (fun h => by rw [Bd.returns] at h; cases h) (fun _ hr => retN X13 hx (t := .boolean) Bd.returns (by simp) (hb hby own_al_add_3_d24) hr) (⟨rfl, N13, KP19, P15, P16, P17, P18⟩) (by decide) (by decide)
theorem own_al_add3_4_d0 : decode jdk_38_method_24_code 0 = .ok (.iload_n 3, 1) := by decide +kernel
theorem own_al_add3_4_d1 : decode jdk_38_method_24_code 1 = .ok (.aload_n 2, 1) := by decide +kernel
theorem own_al_add3_4_d2 : decode jdk_38_method_24_code 2 = .ok (.arraylength, 1) := by decide +kernel
theorem own_al_add3_4_d3 : decode jdk_38_method_24_code 3 = .ok (.if_icmp .ne 8, 3) := by decide +kernel
theorem own_al_add3_4_d11 : decode jdk_38_method_24_code 11 = .ok (.aload_n 2, 1) := by decide +kernel
theorem own_al_add3_4_d12 : decode jdk_38_method_24_code 12 = .ok (.iload_n 3, 1) := by decide +kernel
theorem own_al_add3_4_d13 : decode jdk_38_method_24_code 13 = .ok (.aload_n 1, 1) := by decide +kernel
theorem own_al_add3_4_d14 : decode jdk_38_method_24_code 14 = .ok (.aastore, 1) := by decide +kernel
theorem own_al_add3_4_d15 : decode jdk_38_method_24_code 15 = .ok (.aload_n 0, 1) := by decide +kernel
theorem own_al_add3_4_d16 : decode jdk_38_method_24_code 16 = .ok (.iload_n 3, 1) := by decide +kernel
theorem own_al_add3_4_d17 : decode jdk_38_method_24_code 17 = .ok (.iconst 1, 1) := by decide +kernel
theorem own_al_add3_4_d18 : decode jdk_38_method_24_code 18 = .ok (.iadd, 1) := by decide +kernel
theorem own_al_add3_4_d19 : decode jdk_38_method_24_code 19 = .ok (.putfield 48, 3) := by decide +kernel
theorem own_al_add3_4_d22 : decode jdk_38_method_24_code 22 = .ok (.return_, 1) := by decide +kernel
theorem own_al_add3_4_pn : plainName "java/util/ArrayList" = true := by first | (simp [plainName, overriddenIn]; done) | decide +kernel
theorem own_al_add3_4_ef (m : MethodId) (x0 : Addr) (x1 : Addr) (x2 : Addr) (x3 : Int32) : entryFrame m #[(.ref x0), (.ref x1), (.ref x2), (.int x3)] 4 = mkF m 0 #[.val (.ref x0), .val (.ref x1), .val (.ref x2), .val (.int x3)] [] := by first | (simp [entryFrame, mkF, argsToLocals, Value.category]; done) | rfl
def own_al_add3_4_Q (Z : State) (a : Addr) (dd : Addr) (kk : ClassId) (mc : Int32) (u0 : Value) (u1 : Value) (u2 : Value) (u3 : Value) (ee : Addr) (h0 : Heap) (n0 : Nat) (vv_ : Option Value) (hh_ : Heap) (LL_ : List Loc) : Prop := vv_ = none ∧ Fr n0 LL_ ∧ Keep h0 hh_ [a, dd] ∧ (Fld Z hh_ a "java/util/ArrayList" "elementData" "[Ljava/lang/Object;" (.ref dd)) ∧ (Fld Z hh_ a "java/util/ArrayList" "size" "I" (.int (5 : Int32))) ∧ (Fld Z hh_ a "java/util/AbstractList" "modCount" "I" (.int mc)) ∧ (Arv Z hh_ dd kk (.object "java/lang/Object") (10 : Int32) [u0, u1, u2, u3, (.ref ee), .null, .null, .null, .null, .null] .null)
set_option maxRecDepth 65536 in
set_option maxHeartbeats 40000000 in
theorem own_al_add3_4 (l : Launch) (Z : State) (a0 : Array Value) (hw : ∀ d ∈ tables_1, d.before a0 Z = true) (ws : List Jvm.Cond) (a : Addr) (dd : Addr) (kk : ClassId) (mc : Int32) (u0 : Value) (u1 : Value) (u2 : Value) (u3 : Value) (ee : Addr) (h0 : Heap) (n0 : Nat) (Z0 : n0 ≤ h0.size) (E : Exa Z h0 a "java/util/ArrayList") (Fe : Fld Z h0 a "java/util/ArrayList" "elementData" "[Ljava/lang/Object;" (.ref dd)) (Fs : Fld Z h0 a "java/util/ArrayList" "size" "I" (.int (4 : Int32))) (Fm : Fld Z h0 a "java/util/AbstractList" "modCount" "I" (.int mc)) (V : Arv Z h0 dd kk (.object "java/lang/Object") (10 : Int32) [u0, u1, u2, u3, .null, .null, .null, .null, .null, .null] .null) (O : Ovr Z kk "java/lang/Object") (g : n0 ≤ a) (gd : n0 ≤ dd) (nad : a ≠ dd) (I : Ins Z h0 ee "java/lang/Object" true) :
    MetFree l (⟨"java/util/ArrayList", "add", "(Ljava/lang/Object;[Ljava/lang/Object;I)V"⟩ : MethodName) (head1 (Jvm.Cond.code (⟨"java/util/ArrayList", "add", "(Ljava/lang/Object;[Ljava/lang/Object;I)V"⟩ : MethodName) jdk_38_method_24_code 4 none :: ws) ({ frames := 0, cells := 0, slots := 0, locals := 0 } : Room)) (fun aa_ UU_ => aa_ = #[(.ref a), (.ref ee), (.ref dd), (.int (4 : Int32))] ∧ Z.Warmed39 UU_.vm ∧ UU_.heap = h0) (fun _ _ _ _ _ => True) (fun _ UU_ oo_ UV_ => ∃ vv_ LL_, oo_ = .returned vv_ ∧ own_al_add3_4_Q Z a dd kk mc u0 u1 u2 u3 ee h0 n0 vv_ UV_.heap LL_ ∧ FrameEnd UU_ oo_ UV_ LL_ ({ frames := 0, cells := 0, slots := 0, locals := 0 } : Room).cells ({ frames := 0, cells := 0, slots := 0, locals := 0 } : Room).slots) := by
  refine MetFree.of_bodySF (plainFor_of_name own_al_add3_4_pn) hisR ?_
  intro p e s m args below meth c s₁ Bd hml0 hP hK
  obtain ⟨rfl, hZ, hh⟩ := hP
  have hx := Bd.exec
  have hby := Bd.bytes
  have hml : c.maxLocals = 4 := hml0
  have hown : s.vm.findClass "java/util/ArrayList" = some m.cls := findClass_of_methodNamed Bd.named
  have hnm := (name_of_methodNamed Bd.named Bd.method).1
  have X0 : Stand p l e ({ frames := 0, cells := 0, slots := 0, locals := 0 } : Room) s m #[(.ref a), (.ref ee), (.ref dd), (.int (4 : Int32))] below meth c s₁ [] 0 0 := Stand.of_body Bd
  have e0 : s₁.heap = h0 := by rw [← hh, Bd.state]; rfl
  have N0 := Fr.nil n0
  have KP0 : Keep h0 h0 [a, dd] := Keep.refl _ _
  refine ownFin (Q := own_al_add3_4_Q Z a dd kk mc u0 u1 u2 u3 ee h0 n0) ?_
  refine ownStep (fun _ k => castTop (own_al_add3_4_ef m a ee dd (4 : Int32)) k) ?_
  show ownGo p.tables e below (s₁.setTop (mkF m 0 #[.val (.ref a), .val (.ref ee), .val (.ref dd), .val (.int (4 : Int32))] [])) _
  refine ownStep (fun _ k => XS.iloadN X0.here hx rfl (hb hby own_al_add3_4_d0) rfl  k) ?_
  refine ownStep (fun _ k => XS.aloadN X0.here hx rfl (hb hby own_al_add3_4_d1) rfl rfl k) ?_
  show ownGo p.tables e below (s₁.setTop (mkF m 2 #[.val (.ref a), .val (.ref ee), .val (.ref dd), .val (.int (4 : Int32))] [(.ref dd), (.int (4 : Int32))])) _
  have Vo1 := V
  obtain ⟨cl1, Ar1, q1, S1, N1, H1, G1⟩ := Vo1
  refine ownStep (X0.arraylength hx (by rw [e0]; exact Ar1.1) (State.isArrayOf_alike hZ.alike Ar1.2.1) (g := (mkF m 2 #[.val (.ref a), .val (.ref ee), .val (.ref dd), .val (.int (4 : Int32))] [(.ref dd), (.int (4 : Int32))])) rfl rfl (hb hby own_al_add3_4_d2)) ?_
  rw [len_of S1 N1]
  refine ownStep (fun _ k => XS.icmpYes X0.here hx rfl (pc0 := 3) (pc' := 11) rfl (hb hby own_al_add3_4_d3) rfl (feq (by decide : ¬ (4 : Int32) = (10 : Int32))).2 (by decide) (by decide) k) ?_
  refine ownStep (fun _ k => XS.aloadN X0.here hx rfl (hb hby own_al_add3_4_d11) rfl rfl k) ?_
  refine ownStep (fun _ k => XS.iloadN X0.here hx rfl (hb hby own_al_add3_4_d12) rfl  k) ?_
  refine ownStep (fun _ k => XS.aloadN X0.here hx rfl (hb hby own_al_add3_4_d13) rfl rfl k) ?_
  show ownGo p.tables e below (s₁.setTop (mkF m 14 #[.val (.ref a), .val (.ref ee), .val (.ref dd), .val (.int (4 : Int32))] [(.ref ee), (.int (4 : Int32)), (.ref dd)])) _
  have Vo2 := V
  obtain ⟨cl2, Ar2, q2, S2, N2, H2, G2⟩ := Vo2
  have hin2 : ¬ ((4 : Int32) < 0 ∨ cl2.slots.size ≤ ((4 : Int32)).toNatClampNeg) := inb_of S2 ⟨by decide, by decide⟩
  obtain ⟨T3, h3, X3, e3, W3, st3⟩ := stR X0 hx hZ e0 Ar2 (j := (4 : Int32)) hin2 rfl (Sto.ofV Ar2 q2 O I) (g := (mkF m 14 #[.val (.ref a), .val (.ref ee), .val (.ref dd), .val (.int (4 : Int32))] [(.ref ee), (.int (4 : Int32)), (.ref dd)])) rfl rfl (hb hby own_al_add3_4_d14)
  have N4 := Fr.snoc X3 N0 gd
  have KP5 : Keep h0 h3 [a, dd] := KP0.wr W3 (Or.inl (List.mem_of_getElem? (i := 1) rfl))
  have V6 : Arv Z h3 dd kk (.object "java/lang/Object") (10 : Int32) [u0, u1, u2, u3, (.ref ee), .null, .null, .null, .null, .null] .null := Arv.set Ar2 q2 S2 N2 H2 G2 rfl W3 4 rfl (Nat.le_of_ble_eq_true rfl)
  refine ownStep st3 ?_
  refine ownStep (fun _ k => XS.aloadN X3.here hx rfl (hb hby own_al_add3_4_d15) rfl rfl k) ?_
  refine ownStep (fun _ k => XS.iloadN X3.here hx rfl (hb hby own_al_add3_4_d16) rfl  k) ?_
  refine ownStep (fun _ k => XS.iconst X3.here hx rfl (hb hby own_al_add3_4_d17) k) ?_
  refine ownStep (fun _ k => XS.iadd X3.here hx rfl (hb hby own_al_add3_4_d18) rfl k) ?_
  show ownGo p.tables e below (T3.setTop (mkF m 19 #[.val (.ref a), .val (.ref ee), .val (.ref dd), .val (.int (4 : Int32))] [(.int (5 : Int32)), (.ref a)])) _
  have Q7 : Fld Z h3 a "java/util/ArrayList" "size" "I" (.int (4 : Int32)) := (Fs.other W3 (Or.inl nad))
  have Q8 : Exa Z h3 a "java/util/ArrayList" := (E.wr W3)
  obtain ⟨T9, h9, X9, e9, W9, st9⟩ := putF X3 hx hZ hown (host := "") (Or.inl (hw _ (List.mem_of_getElem? (i := 47) rfl))) Via.refl e3 Q7 Q8 (Or.inl (hw _ (List.mem_of_getElem? (i := 48) rfl))) (hw _ (List.mem_of_getElem? (i := 6) rfl)) (ty := .int) (by decide) rfl rfl (g := (mkF m 19 #[.val (.ref a), .val (.ref ee), .val (.ref dd), .val (.int (4 : Int32))] [(.int (5 : Int32)), (.ref a)])) rfl rfl (hb hby own_al_add3_4_d19)
  have N10 := Fr.snoc X9 N4 g
  have KP11 : Keep h0 h9 [a, dd] := KP5.wr W9 (Or.inl (List.mem_of_getElem? (i := 0) rfl))
  have F12 : Fld Z h9 a "java/util/ArrayList" "size" "I" (.int (5 : Int32)) := Q7.same W9
  refine ownStep st9 ?_
  show ownGo p.tables e below (T9.setTop (mkF m 22 #[.val (.ref a), .val (.ref ee), .val (.ref dd), .val (.int (4 : Int32))] [])) _
  have Q13 : Fld Z h9 a "java/util/ArrayList" "elementData" "[Ljava/lang/Object;" (.ref dd) := ((Fe.other W3 (Or.inl nad)).other W9 (Or.inr (slot_ne (Or.inl (hw _ (List.mem_of_getElem? (i := 30) rfl))) (Or.inl (hw _ (List.mem_of_getElem? (i := 48) rfl))) (by decide) (t := (.array (.object "java/lang/Object"))) (t' := .int) (by decide) (by decide))))
  have Q14 : Fld Z h9 a "java/util/AbstractList" "modCount" "I" (.int mc) := ((Fm.other W3 (Or.inl nad)).other W9 (Or.inr (slot_ne (Or.inl (hw _ (List.mem_of_getElem? (i := 27) rfl))) (Or.inl (hw _ (List.mem_of_getElem? (i := 48) rfl))) (by decide) (t := .int) (t' := .int) (by decide) (by decide))))
  have Q15 : Arv Z h9 dd kk (.object "java/lang/Object") (10 : Int32) [u0, u1, u2, u3, (.ref ee), .null, .null, .null, .null, .null] .null := (V6.other W9 (Ne.symm nad))
  exact ownRet X9 (v := none) Bd.notSynchronized (fun _ => rfl) (fun _ hr => X9.returnOut hx Bd.returns (hb hby own_al_add3_4_d22) hr) (by rw [e9]; exact ⟨rfl, N10, KP11, Q13, F12, Q14, Q15⟩) (by decide) (by decide)
theorem own_al_add_4_d0 : decode jdk_38_method_25_code 0 = .ok (.aload_n 0, 1) := by decide +kernel
theorem own_al_add_4_d1 : decode jdk_38_method_25_code 1 = .ok (.dup, 1) := by decide +kernel
theorem own_al_add_4_d2 : decode jdk_38_method_25_code 2 = .ok (.getfield 63, 3) := by decide +kernel
theorem own_al_add_4_d5 : decode jdk_38_method_25_code 5 = .ok (.iconst 1, 1) := by decide +kernel
theorem own_al_add_4_d6 : decode jdk_38_method_25_code 6 = .ok (.iadd, 1) := by decide +kernel
theorem own_al_add_4_d7 : decode jdk_38_method_25_code 7 = .ok (.putfield 63, 3) := by decide +kernel
theorem own_al_add_4_d10 : decode jdk_38_method_25_code 10 = .ok (.aload_n 0, 1) := by decide +kernel
theorem own_al_add_4_d11 : decode jdk_38_method_25_code 11 = .ok (.aload_n 1, 1) := by decide +kernel
theorem own_al_add_4_d12 : decode jdk_38_method_25_code 12 = .ok (.aload_n 0, 1) := by decide +kernel
theorem own_al_add_4_d13 : decode jdk_38_method_25_code 13 = .ok (.getfield 9, 3) := by decide +kernel
theorem own_al_add_4_d16 : decode jdk_38_method_25_code 16 = .ok (.aload_n 0, 1) := by decide +kernel
theorem own_al_add_4_d17 : decode jdk_38_method_25_code 17 = .ok (.getfield 48, 3) := by decide +kernel
theorem own_al_add_4_d20 : decode jdk_38_method_25_code 20 = .ok (.invokevirtual 131, 3) := by decide +kernel
theorem own_al_add_4_d23 : decode jdk_38_method_25_code 23 = .ok (.iconst 1, 1) := by decide +kernel
theorem own_al_add_4_d24 : decode jdk_38_method_25_code 24 = .ok (.ireturn, 1) := by decide +kernel
theorem own_al_add_4_pn : plainName "java/util/ArrayList" = true := by first | (simp [plainName, overriddenIn]; done) | decide +kernel
theorem own_al_add_4_pd0 : parseMethodDescriptor "(Ljava/lang/Object;[Ljava/lang/Object;I)V" = some ⟨[(.object "java/lang/Object"), (.array (.object "java/lang/Object")), .int], none⟩ := by decide +kernel
theorem own_al_add_4_ef (m : MethodId) (x0 : Addr) (x1 : Addr) : entryFrame m #[(.ref x0), (.ref x1)] 2 = mkF m 0 #[.val (.ref x0), .val (.ref x1)] [] := by first | (simp [entryFrame, mkF, argsToLocals, Value.category]; done) | rfl
def own_al_add_4_Q (Z : State) (a : Addr) (dd : Addr) (kk : ClassId) (mc : Int32) (u0 : Value) (u1 : Value) (u2 : Value) (u3 : Value) (ee : Addr) (h0 : Heap) (n0 : Nat) (vv_ : Option Value) (hh_ : Heap) (LL_ : List Loc) : Prop := vv_ = some (.int (1 : Int32)) ∧ Fr n0 LL_ ∧ Keep h0 hh_ [a, dd] ∧ (Fld Z hh_ a "java/util/ArrayList" "elementData" "[Ljava/lang/Object;" (.ref dd)) ∧ (Fld Z hh_ a "java/util/ArrayList" "size" "I" (.int (5 : Int32))) ∧ (Fld Z hh_ a "java/util/AbstractList" "modCount" "I" (.int (mc + (1 : Int32)))) ∧ (Arv Z hh_ dd kk (.object "java/lang/Object") (10 : Int32) [u0, u1, u2, u3, (.ref ee), .null, .null, .null, .null, .null] .null)
set_option maxRecDepth 65536 in
set_option maxHeartbeats 40000000 in
theorem own_al_add_4 (l : Launch) (Z : State) (a0 : Array Value) (hw : ∀ d ∈ tables_1, d.before a0 Z = true) (ws : List Jvm.Cond) (a : Addr) (dd : Addr) (kk : ClassId) (mc : Int32) (u0 : Value) (u1 : Value) (u2 : Value) (u3 : Value) (ee : Addr) (h0 : Heap) (n0 : Nat) (Z0 : n0 ≤ h0.size) (E : Exa Z h0 a "java/util/ArrayList") (Fe : Fld Z h0 a "java/util/ArrayList" "elementData" "[Ljava/lang/Object;" (.ref dd)) (Fs : Fld Z h0 a "java/util/ArrayList" "size" "I" (.int (4 : Int32))) (Fm : Fld Z h0 a "java/util/AbstractList" "modCount" "I" (.int mc)) (V : Arv Z h0 dd kk (.object "java/lang/Object") (10 : Int32) [u0, u1, u2, u3, .null, .null, .null, .null, .null, .null] .null) (O : Ovr Z kk "java/lang/Object") (g : n0 ≤ a) (gd : n0 ≤ dd) (nad : a ≠ dd) (I : Ins Z h0 ee "java/lang/Object" true) :
    MetFree l (⟨"java/util/ArrayList", "add", "(Ljava/lang/Object;)Z"⟩ : MethodName) (head1 (Jvm.Cond.code (⟨"java/util/ArrayList", "add", "(Ljava/lang/Object;)Z"⟩ : MethodName) jdk_38_method_25_code 2 (some .boolean) :: ws) ({ frames := 1, cells := 1, slots := 10, locals := 15 } : Room)) (fun aa_ UU_ => aa_ = #[(.ref a), (.ref ee)] ∧ Z.Warmed39 UU_.vm ∧ UU_.heap = h0) (fun _ _ _ _ _ => True) (fun _ UU_ oo_ UV_ => ∃ vv_ LL_, oo_ = .returned vv_ ∧ own_al_add_4_Q Z a dd kk mc u0 u1 u2 u3 ee h0 n0 vv_ UV_.heap LL_ ∧ FrameEnd UU_ oo_ UV_ LL_ ({ frames := 1, cells := 1, slots := 10, locals := 15 } : Room).cells ({ frames := 1, cells := 1, slots := 10, locals := 15 } : Room).slots) := by
  refine MetFree.of_bodySF (plainFor_of_name own_al_add_4_pn) hisR ?_
  intro p e s m args below meth c s₁ Bd hml0 hP hK
  obtain ⟨rfl, hZ, hh⟩ := hP
  have hx := Bd.exec
  have hby := Bd.bytes
  have hml : c.maxLocals = 2 := hml0
  have hown : s.vm.findClass "java/util/ArrayList" = some m.cls := findClass_of_methodNamed Bd.named
  have hnm := (name_of_methodNamed Bd.named Bd.method).1
  have X0 : Stand p l e ({ frames := 1, cells := 1, slots := 10, locals := 15 } : Room) s m #[(.ref a), (.ref ee)] below meth c s₁ [] 0 0 := Stand.of_body Bd
  have e0 : s₁.heap = h0 := by rw [← hh, Bd.state]; rfl
  have N0 := Fr.nil n0
  have KP0 : Keep h0 h0 [a, dd] := Keep.refl _ _
  refine ownFin (Q := own_al_add_4_Q Z a dd kk mc u0 u1 u2 u3 ee h0 n0) ?_
  refine ownStep (fun _ k => castTop (own_al_add_4_ef m a ee) k) ?_
  show ownGo p.tables e below (s₁.setTop (mkF m 0 #[.val (.ref a), .val (.ref ee)] [])) _
  refine ownStep (fun _ k => XS.aloadN X0.here hx rfl (hb hby own_al_add_4_d0) rfl rfl k) ?_
  refine ownStep (fun _ k => XS.dup X0.here hx rfl (hb hby own_al_add_4_d1) rfl rfl k) ?_
  show ownGo p.tables e below (s₁.setTop (mkF m 2 #[.val (.ref a), .val (.ref ee)] [(.ref a), (.ref a)])) _
  obtain ⟨T1, X1, e1, st1⟩ := getF X0 hx hZ hown (host := "") (Or.inl (hw _ (List.mem_of_getElem? (i := 62) rfl))) (Via.of (hw _ (List.mem_of_getElem? (i := 63) rfl))) e0 Fm (g := (mkF m 2 #[.val (.ref a), .val (.ref ee)] [(.ref a), (.ref a)])) rfl rfl (hb hby own_al_add_4_d2)
  refine ownStep st1 ?_
  refine ownStep (fun _ k => XS.iconst X1.here hx rfl (hb hby own_al_add_4_d5) k) ?_
  refine ownStep (fun _ k => XS.iadd X1.here hx rfl (hb hby own_al_add_4_d6) rfl k) ?_
  show ownGo p.tables e below (T1.setTop (mkF m 7 #[.val (.ref a), .val (.ref ee)] [(.int (mc + (1 : Int32))), (.ref a)])) _
  obtain ⟨T2, h2, X2, e2, W2, st2⟩ := putF X1 hx hZ hown (host := "") (Or.inl (hw _ (List.mem_of_getElem? (i := 62) rfl))) (Via.of (hw _ (List.mem_of_getElem? (i := 63) rfl))) e1 Fm E (Or.inl (hw _ (List.mem_of_getElem? (i := 27) rfl))) (hw _ (List.mem_of_getElem? (i := 6) rfl)) (ty := .int) (by decide) rfl rfl (g := (mkF m 7 #[.val (.ref a), .val (.ref ee)] [(.int (mc + (1 : Int32))), (.ref a)])) rfl rfl (hb hby own_al_add_4_d7)
  have N3 := Fr.snoc X2 N0 g
  have KP4 : Keep h0 h2 [a, dd] := KP0.wr W2 (Or.inl (List.mem_of_getElem? (i := 0) rfl))
  have F5 : Fld Z h2 a "java/util/AbstractList" "modCount" "I" (.int (mc + (1 : Int32))) := Fm.same W2
  refine ownStep st2 ?_
  refine ownStep (fun _ k => XS.aloadN X2.here hx rfl (hb hby own_al_add_4_d10) rfl rfl k) ?_
  refine ownStep (fun _ k => XS.aloadN X2.here hx rfl (hb hby own_al_add_4_d11) rfl rfl k) ?_
  refine ownStep (fun _ k => XS.aloadN X2.here hx rfl (hb hby own_al_add_4_d12) rfl rfl k) ?_
  show ownGo p.tables e below (T2.setTop (mkF m 13 #[.val (.ref a), .val (.ref ee)] [(.ref a), (.ref ee), (.ref a)])) _
  have Q6 : Fld Z h2 a "java/util/ArrayList" "elementData" "[Ljava/lang/Object;" (.ref dd) := (Fe.other W2 (Or.inr (slot_ne (Or.inl (hw _ (List.mem_of_getElem? (i := 30) rfl))) (Or.inl (hw _ (List.mem_of_getElem? (i := 27) rfl))) (by decide) (t := (.array (.object "java/lang/Object"))) (t' := .int) (by decide) (by decide))))
  obtain ⟨T7, X7, e7, st7⟩ := getF X2 hx hZ hown (host := "") (Or.inl (hw _ (List.mem_of_getElem? (i := 29) rfl))) Via.refl e2 Q6 (g := (mkF m 13 #[.val (.ref a), .val (.ref ee)] [(.ref a), (.ref ee), (.ref a)])) rfl rfl (hb hby own_al_add_4_d13)
  refine ownStep st7 ?_
  refine ownStep (fun _ k => XS.aloadN X7.here hx rfl (hb hby own_al_add_4_d16) rfl rfl k) ?_
  show ownGo p.tables e below (T7.setTop (mkF m 17 #[.val (.ref a), .val (.ref ee)] [(.ref a), (.ref dd), (.ref ee), (.ref a)])) _
  have Q8 : Fld Z h2 a "java/util/ArrayList" "size" "I" (.int (4 : Int32)) := (Fs.other W2 (Or.inr (slot_ne (Or.inl (hw _ (List.mem_of_getElem? (i := 48) rfl))) (Or.inl (hw _ (List.mem_of_getElem? (i := 27) rfl))) (by decide) (t := .int) (t' := .int) (by decide) (by decide))))
  obtain ⟨T9, X9, e9, st9⟩ := getF X7 hx hZ hown (host := "") (Or.inl (hw _ (List.mem_of_getElem? (i := 47) rfl))) Via.refl e7 Q8 (g := (mkF m 17 #[.val (.ref a), .val (.ref ee)] [(.ref a), (.ref dd), (.ref ee), (.ref a)])) rfl rfl (hb hby own_al_add_4_d17)
  refine ownStep st9 ?_
  show ownGo p.tables e below (T9.setTop (mkF m 20 #[.val (.ref a), .val (.ref ee)] [(.int (4 : Int32)), (.ref dd), (.ref ee), (.ref a)])) _
  have Q10 : Exa Z h2 a "java/util/ArrayList" := (E.wr W2)
  have Q11 : Arv Z h2 dd kk (.object "java/lang/Object") (10 : Int32) [u0, u1, u2, u3, .null, .null, .null, .null, .null, .null] .null := (V.other W2 (Ne.symm nad))
  have Q12 : Ins Z h2 ee "java/lang/Object" true := (I.wr W2)
  have Zs14 : n0 ≤ h2.size := Nat.le_trans Z0 KP4.1
  obtain ⟨cq13, q13, q13'⟩ := Q10.cell
  obtain ⟨_, _, ⟨T13, L13, k13, n13⟩, -, X13, ⟨Lc13, hQ13, l13, y13, z13⟩, st13⟩ := X9.privateBack hx (y := (⟨"java/util/ArrayList", "add", "(Ljava/lang/Object;[Ljava/lang/Object;I)V"⟩ : MethodName)) hown (mvT hZ (hw _ (List.mem_of_getElem? (i := 64) rfl))) (mvT hZ (hw _ (List.mem_of_getElem? (i := 65) rfl))) (mvT hZ (hw _ (List.mem_of_getElem? (i := 67) rfl))) (Cond.privateMethod_at (mvP hZ (hw _ (List.mem_of_getElem? (i := 66) rfl)) (args := #[]))) (mvT hZ (hw _ (List.mem_of_getElem? (i := 68) rfl))) (by decide) (backOf (W := 0) (own_al_add3_4 l Z a0 hw [] a dd kk (mc + (1 : Int32)) u0 u1 u2 u3 ee h2 n0 Zs14 Q10 Q6 Q8 F5 Q11 O g gd nad Q12) hZ (hw _ (List.mem_of_getElem? (i := 68) rfl)) (hw _ (List.mem_of_getElem? (i := 7) rfl)) (by decide) (by decide)) (g := (mkF m 20 #[.val (.ref a), .val (.ref ee)] [(.int (4 : Int32)), (.ref dd), (.ref ee), (.ref a)])) rfl (by rw [hml]; rfl) (Steps.refl _) (a := a) (by rw [e9]; exact q13) q13' (argsL := [(.ref ee), (.ref dd), (.int (4 : Int32))]) (rest := []) (lenOf own_al_add_4_pd0 rfl) rfl (by show 2 * 0 + _ ≤ _; exact Nat.le_of_eq rfl) (hb hby own_al_add_4_d20) (fun _ _ => ⟨rfl, e9, (by decide : 0 + 0 ≤ _), (by decide : 0 + 0 ≤ _)⟩)
  dsimp only [Pt.U, Pt.locs, Pt.cells, Pt.slots] at X13 l13 y13 z13 st13 hQ13
  obtain rfl : k13 = 0 := y13
  obtain rfl : n13 = 0 := z13
  obtain ⟨rfl, N13q, R13, P15, P16, P17, P18⟩ := hQ13
  have N13 : Fr n0 L13 := l13 ▸ Fr.app N3 N13q
  refine ownStep (fun _ k => st13.trans k) ?_
  have KP19 : Keep h0 T13.heap [a, dd] := KP4.trans R13 (allS (Or.inl (List.mem_of_getElem? (i := 0) rfl)) (allS (Or.inl (List.mem_of_getElem? (i := 1) rfl)) all0))
  refine ownStep (fun _ k => XS.iconst X13.here hx rfl (hb hby own_al_add_4_d23) k) ?_
  show ownGo p.tables e below (T13.setTop (mkF m 24 #[.val (.ref a), .val (.ref ee)] [(.int (1 : Int32))])) _
  exact ownRet X13 (v := some (.int (1 : Int32))) Bd.notSynchronized (fun h => by rw [Bd.returns] at h; cases h) (fun _ hr => retN X13 hx (t := .boolean) Bd.returns (by simp) (hb hby own_al_add_4_d24) hr) (⟨rfl, N13, KP19, P15, P16, P17, P18⟩) (by decide) (by decide)
theorem own_al_add3_5_d0 : decode jdk_38_method_24_code 0 = .ok (.iload_n 3, 1) := by decide +kernel
theorem own_al_add3_5_d1 : decode jdk_38_method_24_code 1 = .ok (.aload_n 2, 1) := by decide +kernel
theorem own_al_add3_5_d2 : decode jdk_38_method_24_code 2 = .ok (.arraylength, 1) := by decide +kernel
theorem own_al_add3_5_d3 : decode jdk_38_method_24_code 3 = .ok (.if_icmp .ne 8, 3) := by decide +kernel
theorem own_al_add3_5_d11 : decode jdk_38_method_24_code 11 = .ok (.aload_n 2, 1) := by decide +kernel
theorem own_al_add3_5_d12 : decode jdk_38_method_24_code 12 = .ok (.iload_n 3, 1) := by decide +kernel
theorem own_al_add3_5_d13 : decode jdk_38_method_24_code 13 = .ok (.aload_n 1, 1) := by decide +kernel
theorem own_al_add3_5_d14 : decode jdk_38_method_24_code 14 = .ok (.aastore, 1) := by decide +kernel
theorem own_al_add3_5_d15 : decode jdk_38_method_24_code 15 = .ok (.aload_n 0, 1) := by decide +kernel
theorem own_al_add3_5_d16 : decode jdk_38_method_24_code 16 = .ok (.iload_n 3, 1) := by decide +kernel
theorem own_al_add3_5_d17 : decode jdk_38_method_24_code 17 = .ok (.iconst 1, 1) := by decide +kernel
theorem own_al_add3_5_d18 : decode jdk_38_method_24_code 18 = .ok (.iadd, 1) := by decide +kernel
theorem own_al_add3_5_d19 : decode jdk_38_method_24_code 19 = .ok (.putfield 48, 3) := by decide +kernel
theorem own_al_add3_5_d22 : decode jdk_38_method_24_code 22 = .ok (.return_, 1) := by decide +kernel
theorem own_al_add3_5_pn : plainName "java/util/ArrayList" = true := by first | (simp [plainName, overriddenIn]; done) | decide +kernel
theorem own_al_add3_5_ef (m : MethodId) (x0 : Addr) (x1 : Addr) (x2 : Addr) (x3 : Int32) : entryFrame m #[(.ref x0), (.ref x1), (.ref x2), (.int x3)] 4 = mkF m 0 #[.val (.ref x0), .val (.ref x1), .val (.ref x2), .val (.int x3)] [] := by first | (simp [entryFrame, mkF, argsToLocals, Value.category]; done) | rfl
def own_al_add3_5_Q (Z : State) (a : Addr) (dd : Addr) (kk : ClassId) (mc : Int32) (u0 : Value) (u1 : Value) (u2 : Value) (u3 : Value) (u4 : Value) (ee : Addr) (h0 : Heap) (n0 : Nat) (vv_ : Option Value) (hh_ : Heap) (LL_ : List Loc) : Prop := vv_ = none ∧ Fr n0 LL_ ∧ Keep h0 hh_ [a, dd] ∧ (Fld Z hh_ a "java/util/ArrayList" "elementData" "[Ljava/lang/Object;" (.ref dd)) ∧ (Fld Z hh_ a "java/util/ArrayList" "size" "I" (.int (6 : Int32))) ∧ (Fld Z hh_ a "java/util/AbstractList" "modCount" "I" (.int mc)) ∧ (Arv Z hh_ dd kk (.object "java/lang/Object") (10 : Int32) [u0, u1, u2, u3, u4, (.ref ee), .null, .null, .null, .null] .null)
set_option maxRecDepth 65536 in
set_option maxHeartbeats 40000000 in
theorem own_al_add3_5 (l : Launch) (Z : State) (a0 : Array Value) (hw : ∀ d ∈ tables_1, d.before a0 Z = true) (ws : List Jvm.Cond) (a : Addr) (dd : Addr) (kk : ClassId) (mc : Int32) (u0 : Value) (u1 : Value) (u2 : Value) (u3 : Value) (u4 : Value) (ee : Addr) (h0 : Heap) (n0 : Nat) (Z0 : n0 ≤ h0.size) (E : Exa Z h0 a "java/util/ArrayList") (Fe : Fld Z h0 a "java/util/ArrayList" "elementData" "[Ljava/lang/Object;" (.ref dd)) (Fs : Fld Z h0 a "java/util/ArrayList" "size" "I" (.int (5 : Int32))) (Fm : Fld Z h0 a "java/util/AbstractList" "modCount" "I" (.int mc)) (V : Arv Z h0 dd kk (.object "java/lang/Object") (10 : Int32) [u0, u1, u2, u3, u4, .null, .null, .null, .null, .null] .null) (O : Ovr Z kk "java/lang/Object") (g : n0 ≤ a) (gd : n0 ≤ dd) (nad : a ≠ dd) (I : Ins Z h0 ee "java/lang/Object" true) :
    MetFree l (⟨"java/util/ArrayList", "add", "(Ljava/lang/Object;[Ljava/lang/Object;I)V"⟩ : MethodName) (head1 (Jvm.Cond.code (⟨"java/util/ArrayList", "add", "(Ljava/lang/Object;[Ljava/lang/Object;I)V"⟩ : MethodName) jdk_38_method_24_code 4 none :: ws) ({ frames := 0, cells := 0, slots := 0, locals := 0 } : Room)) (fun aa_ UU_ => aa_ = #[(.ref a), (.ref ee), (.ref dd), (.int (5 : Int32))] ∧ Z.Warmed39 UU_.vm ∧ UU_.heap = h0) (fun _ _ _ _ _ => True) (fun _ UU_ oo_ UV_ => ∃ vv_ LL_, oo_ = .returned vv_ ∧ own_al_add3_5_Q Z a dd kk mc u0 u1 u2 u3 u4 ee h0 n0 vv_ UV_.heap LL_ ∧ FrameEnd UU_ oo_ UV_ LL_ ({ frames := 0, cells := 0, slots := 0, locals := 0 } : Room).cells ({ frames := 0, cells := 0, slots := 0, locals := 0 } : Room).slots) := by
  refine MetFree.of_bodySF (plainFor_of_name own_al_add3_5_pn) hisR ?_
  intro p e s m args below meth c s₁ Bd hml0 hP hK
  obtain ⟨rfl, hZ, hh⟩ := hP
  have hx := Bd.exec
  have hby := Bd.bytes
  have hml : c.maxLocals = 4 := hml0
  have hown : s.vm.findClass "java/util/ArrayList" = some m.cls := findClass_of_methodNamed Bd.named
  have hnm := (name_of_methodNamed Bd.named Bd.method).1
  have X0 : Stand p l e ({ frames := 0, cells := 0, slots := 0, locals := 0 } : Room) s m #[(.ref a), (.ref ee), (.ref dd), (.int (5 : Int32))] below meth c s₁ [] 0 0 := Stand.of_body Bd
  have e0 : s₁.heap = h0 := by rw [← hh, Bd.state]; rfl
  have N0 := Fr.nil n0
  have KP0 : Keep h0 h0 [a, dd] := Keep.refl _ _
  refine ownFin (Q := own_al_add3_5_Q Z a dd kk mc u0 u1 u2 u3 u4 ee h0 n0) ?_
  refine ownStep (fun _ k => castTop (own_al_add3_5_ef m a ee dd (5 : Int32)) k) ?_
  show ownGo p.tables e below (s₁.setTop (mkF m 0 #[.val (.ref a), .val (.ref ee), .val (.ref dd), .val (.int (5 : Int32))] [])) _
  refine ownStep (fun _ k => XS.iloadN X0.here hx rfl (hb hby own_al_add3_5_d0) rfl  k) ?_
  refine ownStep (fun _ k => XS.aloadN X0.here hx rfl (hb hby own_al_add3_5_d1) rfl rfl k) ?_
  show ownGo p.tables e below (s₁.setTop (mkF m 2 #[.val (.ref a), .val (.ref ee), .val (.ref dd), .val (.int (5 : Int32))] [(.ref dd), (.int (5 : Int32))])) _
  have Vo1 := V
  obtain ⟨cl1, Ar1, q1, S1, N1, H1, G1⟩ := Vo1
  refine ownStep (X0.arraylength hx (by rw [e0]; exact Ar1.1) (State.isArrayOf_alike hZ.alike Ar1.2.1) (g := (mkF m 2 #[.val (.ref a), .val (.ref ee), .val (.ref dd), .val (.int (5 : Int32))] [(.ref dd), (.int (5 : Int32))])) rfl rfl (hb hby own_al_add3_5_d2)) ?_
  rw [len_of S1 N1]
  refine ownStep (fun _ k => XS.icmpYes X0.here hx rfl (pc0 := 3) (pc' := 11) rfl (hb hby own_al_add3_5_d3) rfl (feq (by decide : ¬ (5 : Int32) = (10 : Int32))).2 (by decide) (by decide) k) ?_
  refine ownStep (fun _ k => XS.aloadN X0.here hx rfl (hb hby own_al_add3_5_d11) rfl rfl k) ?_
  refine ownStep (fun _ k => XS.iloadN X0.here hx rfl (hb hby own_al_add3_5_d12) rfl  k) ?_
  refine ownStep (fun _ k => XS.aloadN X0.here hx rfl (hb hby own_al_add3_5_d13) rfl rfl k) ?_
  show ownGo p.tables e below (s₁.setTop (mkF m 14 #[.val (.ref a), .val (.ref ee), .val (.ref dd), .val (.int (5 : Int32))] [(.ref ee), (.int (5 : Int32)), (.ref dd)])) _
  have Vo2 := V
  obtain ⟨cl2, Ar2, q2, S2, N2, H2, G2⟩ := Vo2
  have hin2 : ¬ ((5 : Int32) < 0 ∨ cl2.slots.size ≤ ((5 : Int32)).toNatClampNeg) := inb_of S2 ⟨by decide, by decide⟩
  obtain ⟨T3, h3, X3, e3, W3, st3⟩ := stR X0 hx hZ e0 Ar2 (j := (5 : Int32)) hin2 rfl (Sto.ofV Ar2 q2 O I) (g := (mkF m 14 #[.val (.ref a), .val (.ref ee), .val (.ref dd), .val (.int (5 : Int32))] [(.ref ee), (.int (5 : Int32)), (.ref dd)])) rfl rfl (hb hby own_al_add3_5_d14)
  have N4 := Fr.snoc X3 N0 gd
  have KP5 : Keep h0 h3 [a, dd] := KP0.wr W3 (Or.inl (List.mem_of_getElem? (i := 1) rfl))
  have V6 : Arv Z h3 dd kk (.object "java/lang/Object") (10 : Int32) [u0, u1, u2, u3, u4, (.ref ee), .null, .null, .null, .null] .null := Arv.set Ar2 q2 S2 N2 H2 G2 rfl W3 5 rfl (Nat.le_of_ble_eq_true rfl)
  refine ownStep st3 ?_
  refine ownStep (fun _ k => XS.aloadN X3.here hx rfl (hb hby own_al_add3_5_d15) rfl rfl k) ?_
  refine ownStep (fun _ k => XS.iloadN X3.here hx rfl (hb hby own_al_add3_5_d16) rfl  k) ?_
  refine ownStep (fun _ k => XS.iconst X3.here hx rfl (hb hby own_al_add3_5_d17) k) ?_
  refine ownStep (fun _ k => XS.iadd X3.here hx rfl (hb hby own_al_add3_5_d18) rfl k) ?_
  show ownGo p.tables e below (T3.setTop (mkF m 19 #[.val (.ref a), .val (.ref ee), .val (.ref dd), .val (.int (5 : Int32))] [(.int (6 : Int32)), (.ref a)])) _
  have Q7 : Fld Z h3 a "java/util/ArrayList" "size" "I" (.int (5 : Int32)) := (Fs.other W3 (Or.inl nad))
  have Q8 : Exa Z h3 a "java/util/ArrayList" := (E.wr W3)
  obtain ⟨T9, h9, X9, e9, W9, st9⟩ := putF X3 hx hZ hown (host := "") (Or.inl (hw _ (List.mem_of_getElem? (i := 47) rfl))) Via.refl e3 Q7 Q8 (Or.inl (hw _ (List.mem_of_getElem? (i := 48) rfl))) (hw _ (List.mem_of_getElem? (i := 6) rfl)) (ty := .int) (by decide) rfl rfl (g := (mkF m 19 #[.val (.ref a), .val (.ref ee), .val (.ref dd), .val (.int (5 : Int32))] [(.int (6 : Int32)), (.ref a)])) rfl rfl (hb hby own_al_add3_5_d19)
  have N10 := Fr.snoc X9 N4 g
  have KP11 : Keep h0 h9 [a, dd] := KP5.wr W9 (Or.inl (List.mem_of_getElem? (i := 0) rfl))
  have F12 : Fld Z h9 a "java/util/ArrayList" "size" "I" (.int (6 : Int32)) := Q7.same W9
  refine ownStep st9 ?_
  show ownGo p.tables e below (T9.setTop (mkF m 22 #[.val (.ref a), .val (.ref ee), .val (.ref dd), .val (.int (5 : Int32))] [])) _
  have Q13 : Fld Z h9 a "java/util/ArrayList" "elementData" "[Ljava/lang/Object;" (.ref dd) := ((Fe.other W3 (Or.inl nad)).other W9 (Or.inr (slot_ne (Or.inl (hw _ (List.mem_of_getElem? (i := 30) rfl))) (Or.inl (hw _ (List.mem_of_getElem? (i := 48) rfl))) (by decide) (t := (.array (.object "java/lang/Object"))) (t' := .int) (by decide) (by decide))))
  have Q14 : Fld Z h9 a "java/util/AbstractList" "modCount" "I" (.int mc) := ((Fm.other W3 (Or.inl nad)).other W9 (Or.inr (slot_ne (Or.inl (hw _ (List.mem_of_getElem? (i := 27) rfl))) (Or.inl (hw _ (List.mem_of_getElem? (i := 48) rfl))) (by decide) (t := .int) (t' := .int) (by decide) (by decide))))
  have Q15 : Arv Z h9 dd kk (.object "java/lang/Object") (10 : Int32) [u0, u1, u2, u3, u4, (.ref ee), .null, .null, .null, .null] .null := (V6.other W9 (Ne.symm nad))
  exact ownRet X9 (v := none) Bd.notSynchronized (fun _ => rfl) (fun _ hr => X9.returnOut hx Bd.returns (hb hby own_al_add3_5_d22) hr) (by rw [e9]; exact ⟨rfl, N10, KP11, Q13, F12, Q14, Q15⟩) (by decide) (by decide)
theorem own_al_add_5_d0 : decode jdk_38_method_25_code 0 = .ok (.aload_n 0, 1) := by decide +kernel
theorem own_al_add_5_d1 : decode jdk_38_method_25_code 1 = .ok (.dup, 1) := by decide +kernel
theorem own_al_add_5_d2 : decode jdk_38_method_25_code 2 = .ok (.getfield 63, 3) := by decide +kernel
theorem own_al_add_5_d5 : decode jdk_38_method_25_code 5 = .ok (.iconst 1, 1) := by decide +kernel
theorem own_al_add_5_d6 : decode jdk_38_method_25_code 6 = .ok (.iadd, 1) := by decide +kernel
theorem own_al_add_5_d7 : decode jdk_38_method_25_code 7 = .ok (.putfield 63, 3) := by decide +kernel
theorem own_al_add_5_d10 : decode jdk_38_method_25_code 10 = .ok (.aload_n 0, 1) := by decide +kernel
theorem own_al_add_5_d11 : decode jdk_38_method_25_code 11 = .ok (.aload_n 1, 1) := by decide +kernel
theorem own_al_add_5_d12 : decode jdk_38_method_25_code 12 = .ok (.aload_n 0, 1) := by decide +kernel
theorem own_al_add_5_d13 : decode jdk_38_method_25_code 13 = .ok (.getfield 9, 3) := by decide +kernel
theorem own_al_add_5_d16 : decode jdk_38_method_25_code 16 = .ok (.aload_n 0, 1) := by decide +kernel
theorem own_al_add_5_d17 : decode jdk_38_method_25_code 17 = .ok (.getfield 48, 3) := by decide +kernel
theorem own_al_add_5_d20 : decode jdk_38_method_25_code 20 = .ok (.invokevirtual 131, 3) := by decide +kernel
theorem own_al_add_5_d23 : decode jdk_38_method_25_code 23 = .ok (.iconst 1, 1) := by decide +kernel
theorem own_al_add_5_d24 : decode jdk_38_method_25_code 24 = .ok (.ireturn, 1) := by decide +kernel
theorem own_al_add_5_pn : plainName "java/util/ArrayList" = true := by first | (simp [plainName, overriddenIn]; done) | decide +kernel
theorem own_al_add_5_pd0 : parseMethodDescriptor "(Ljava/lang/Object;[Ljava/lang/Object;I)V" = some ⟨[(.object "java/lang/Object"), (.array (.object "java/lang/Object")), .int], none⟩ := by decide +kernel
theorem own_al_add_5_ef (m : MethodId) (x0 : Addr) (x1 : Addr) : entryFrame m #[(.ref x0), (.ref x1)] 2 = mkF m 0 #[.val (.ref x0), .val (.ref x1)] [] := by first | (simp [entryFrame, mkF, argsToLocals, Value.category]; done) | rfl
def own_al_add_5_Q (Z : State) (a : Addr) (dd : Addr) (kk : ClassId) (mc : Int32) (u0 : Value) (u1 : Value) (u2 : Value) (u3 : Value) (u4 : Value) (ee : Addr) (h0 : Heap) (n0 : Nat) (vv_ : Option Value) (hh_ : Heap) (LL_ : List Loc) : Prop := vv_ = some (.int (1 : Int32)) ∧ Fr n0 LL_ ∧ Keep h0 hh_ [a, dd] ∧ (Fld Z hh_ a "java/util/ArrayList" "elementData" "[Ljava/lang/Object;" (.ref dd)) ∧ (Fld Z hh_ a "java/util/ArrayList" "size" "I" (.int (6 : Int32))) ∧ (Fld Z hh_ a "java/util/AbstractList" "modCount" "I" (.int (mc + (1 : Int32)))) ∧ (Arv Z hh_ dd kk (.object "java/lang/Object") (10 : Int32) [u0, u1, u2, u3, u4, (.ref ee), .null, .null, .null, .null] .null)
set_option maxRecDepth 65536 in
set_option maxHeartbeats 40000000 in
theorem own_al_add_5 (l : Launch) (Z : State) (a0 : Array Value) (hw : ∀ d ∈ tables_1, d.before a0 Z = true) (ws : List Jvm.Cond) (a : Addr) (dd : Addr) (kk : ClassId) (mc : Int32) (u0 : Value) (u1 : Value) (u2 : Value) (u3 : Value) (u4 : Value) (ee : Addr) (h0 : Heap) (n0 : Nat) (Z0 : n0 ≤ h0.size) (E : Exa Z h0 a "java/util/ArrayList") (Fe : Fld Z h0 a "java/util/ArrayList" "elementData" "[Ljava/lang/Object;" (.ref dd)) (Fs : Fld Z h0 a "java/util/ArrayList" "size" "I" (.int (5 : Int32))) (Fm : Fld Z h0 a "java/util/AbstractList" "modCount" "I" (.int mc)) (V : Arv Z h0 dd kk (.object "java/lang/Object") (10 : Int32) [u0, u1, u2, u3, u4, .null, .null, .null, .null, .null] .null) (O : Ovr Z kk "java/lang/Object") (g : n0 ≤ a) (gd : n0 ≤ dd) (nad : a ≠ dd) (I : Ins Z h0 ee "java/lang/Object" true) :
    MetFree l (⟨"java/util/ArrayList", "add", "(Ljava/lang/Object;)Z"⟩ : MethodName) (head1 (Jvm.Cond.code (⟨"java/util/ArrayList", "add", "(Ljava/lang/Object;)Z"⟩ : MethodName) jdk_38_method_25_code 2 (some .boolean) :: ws) ({ frames := 1, cells := 1, slots := 10, locals := 15 } : Room)) (fun aa_ UU_ => aa_ = #[(.ref a), (.ref ee)] ∧ Z.Warmed39 UU_.vm ∧ UU_.heap = h0) (fun _ _ _ _ _ => True) (fun _ UU_ oo_ UV_ => ∃ vv_ LL_, oo_ = .returned vv_ ∧ own_al_add_5_Q Z a dd kk mc u0 u1 u2 u3 u4 ee h0 n0 vv_ UV_.heap LL_ ∧ FrameEnd UU_ oo_ UV_ LL_ ({ frames := 1, cells := 1, slots := 10, locals := 15 } : Room).cells ({ frames := 1, cells := 1, slots := 10, locals := 15 } : Room).slots) := by
  refine MetFree.of_bodySF (plainFor_of_name own_al_add_5_pn) hisR ?_
  intro p e s m args below meth c s₁ Bd hml0 hP hK
  obtain ⟨rfl, hZ, hh⟩ := hP
  have hx := Bd.exec
  have hby := Bd.bytes
  have hml : c.maxLocals = 2 := hml0
  have hown : s.vm.findClass "java/util/ArrayList" = some m.cls := findClass_of_methodNamed Bd.named
  have hnm := (name_of_methodNamed Bd.named Bd.method).1
  have X0 : Stand p l e ({ frames := 1, cells := 1, slots := 10, locals := 15 } : Room) s m #[(.ref a), (.ref ee)] below meth c s₁ [] 0 0 := Stand.of_body Bd
  have e0 : s₁.heap = h0 := by rw [← hh, Bd.state]; rfl
  have N0 := Fr.nil n0
  have KP0 : Keep h0 h0 [a, dd] := Keep.refl _ _
  refine ownFin (Q := own_al_add_5_Q Z a dd kk mc u0 u1 u2 u3 u4 ee h0 n0) ?_
  refine ownStep (fun _ k => castTop (own_al_add_5_ef m a ee) k) ?_
  show ownGo p.tables e below (s₁.setTop (mkF m 0 #[.val (.ref a), .val (.ref ee)] [])) _
  refine ownStep (fun _ k => XS.aloadN X0.here hx rfl (hb hby own_al_add_5_d0) rfl rfl k) ?_
  refine ownStep (fun _ k => XS.dup X0.here hx rfl (hb hby own_al_add_5_d1) rfl rfl k) ?_
  show ownGo p.tables e below (s₁.setTop (mkF m 2 #[.val (.ref a), .val (.ref ee)] [(.ref a), (.ref a)])) _
  obtain ⟨T1, X1, e1, st1⟩ := getF X0 hx hZ hown (host := "") (Or.inl (hw _ (List.mem_of_getElem? (i := 62) rfl))) (Via.of (hw _ (List.mem_of_getElem? (i := 63) rfl))) e0 Fm (g := (mkF m 2 #[.val (.ref a), .val (.ref ee)] [(.ref a), (.ref a)])) rfl rfl (hb hby own_al_add_5_d2)
  refine ownStep st1 ?_
  refine ownStep (fun _ k => XS.iconst X1.here hx rfl (hb hby own_al_add_5_d5) k) ?_
  refine ownStep (fun _ k => XS.iadd X1.here hx rfl (hb hby own_al_add_5_d6) rfl k) ?_
  show ownGo p.tables e below (T1.setTop (mkF m 7 #[.val (.ref a), .val (.ref ee)] [(.int (mc + (1 : Int32))), (.ref a)])) _
  obtain ⟨T2, h2, X2, e2, W2, st2⟩ := putF X1 hx hZ hown (host := "") (Or.inl (hw _ (List.mem_of_getElem? (i := 62) rfl))) (Via.of (hw _ (List.mem_of_getElem? (i := 63) rfl))) e1 Fm E (Or.inl (hw _ (List.mem_of_getElem? (i := 27) rfl))) (hw _ (List.mem_of_getElem? (i := 6) rfl)) (ty := .int) (by decide) rfl rfl (g := (mkF m 7 #[.val (.ref a), .val (.ref ee)] [(.int (mc + (1 : Int32))), (.ref a)])) rfl rfl (hb hby own_al_add_5_d7)
  have N3 := Fr.snoc X2 N0 g
  have KP4 : Keep h0 h2 [a, dd] := KP0.wr W2 (Or.inl (List.mem_of_getElem? (i := 0) rfl))
  have F5 : Fld Z h2 a "java/util/AbstractList" "modCount" "I" (.int (mc + (1 : Int32))) := Fm.same W2
  refine ownStep st2 ?_
  refine ownStep (fun _ k => XS.aloadN X2.here hx rfl (hb hby own_al_add_5_d10) rfl rfl k) ?_
  refine ownStep (fun _ k => XS.aloadN X2.here hx rfl (hb hby own_al_add_5_d11) rfl rfl k) ?_
  refine ownStep (fun _ k => XS.aloadN X2.here hx rfl (hb hby own_al_add_5_d12) rfl rfl k) ?_
  show ownGo p.tables e below (T2.setTop (mkF m 13 #[.val (.ref a), .val (.ref ee)] [(.ref a), (.ref ee), (.ref a)])) _
  have Q6 : Fld Z h2 a "java/util/ArrayList" "elementData" "[Ljava/lang/Object;" (.ref dd) := (Fe.other W2 (Or.inr (slot_ne (Or.inl (hw _ (List.mem_of_getElem? (i := 30) rfl))) (Or.inl (hw _ (List.mem_of_getElem? (i := 27) rfl))) (by decide) (t := (.array (.object "java/lang/Object"))) (t' := .int) (by decide) (by decide))))
  obtain ⟨T7, X7, e7, st7⟩ := getF X2 hx hZ hown (host := "") (Or.inl (hw _ (List.mem_of_getElem? (i := 29) rfl))) Via.refl e2 Q6 (g := (mkF m 13 #[.val (.ref a), .val (.ref ee)] [(.ref a), (.ref ee), (.ref a)])) rfl rfl (hb hby own_al_add_5_d13)
  refine ownStep st7 ?_
  refine ownStep (fun _ k => XS.aloadN X7.here hx rfl (hb hby own_al_add_5_d16) rfl rfl k) ?_
  show ownGo p.tables e below (T7.setTop (mkF m 17 #[.val (.ref a), .val (.ref ee)] [(.ref a), (.ref dd), (.ref ee), (.ref a)])) _
  have Q8 : Fld Z h2 a "java/util/ArrayList" "size" "I" (.int (5 : Int32)) := (Fs.other W2 (Or.inr (slot_ne (Or.inl (hw _ (List.mem_of_getElem? (i := 48) rfl))) (Or.inl (hw _ (List.mem_of_getElem? (i := 27) rfl))) (by decide) (t := .int) (t' := .int) (by decide) (by decide))))
  obtain ⟨T9, X9, e9, st9⟩ := getF X7 hx hZ hown (host := "") (Or.inl (hw _ (List.mem_of_getElem? (i := 47) rfl))) Via.refl e7 Q8 (g := (mkF m 17 #[.val (.ref a), .val (.ref ee)] [(.ref a), (.ref dd), (.ref ee), (.ref a)])) rfl rfl (hb hby own_al_add_5_d17)
  refine ownStep st9 ?_
  show ownGo p.tables e below (T9.setTop (mkF m 20 #[.val (.ref a), .val (.ref ee)] [(.int (5 : Int32)), (.ref dd), (.ref ee), (.ref a)])) _
  have Q10 : Exa Z h2 a "java/util/ArrayList" := (E.wr W2)
  have Q11 : Arv Z h2 dd kk (.object "java/lang/Object") (10 : Int32) [u0, u1, u2, u3, u4, .null, .null, .null, .null, .null] .null := (V.other W2 (Ne.symm nad))
  have Q12 : Ins Z h2 ee "java/lang/Object" true := (I.wr W2)
  have Zs14 : n0 ≤ h2.size := Nat.le_trans Z0 KP4.1
  obtain ⟨cq13, q13, q13'⟩ := Q10.cell
  obtain ⟨_, _, ⟨T13, L13, k13, n13⟩, -, X13, ⟨Lc13, hQ13, l13, y13, z13⟩, st13⟩ := X9.privateBack hx (y := (⟨"java/util/ArrayList", "add", "(Ljava/lang/Object;[Ljava/lang/Object;I)V"⟩ : MethodName)) hown (mvT hZ (hw _ (List.mem_of_getElem? (i := 64) rfl))) (mvT hZ (hw _ (List.mem_of_getElem? (i := 65) rfl))) (mvT hZ (hw _ (List.mem_of_getElem? (i := 67) rfl))) (Cond.privateMethod_at (mvP hZ (hw _ (List.mem_of_getElem? (i := 66) rfl)) (args := #[]))) (mvT hZ (hw _ (List.mem_of_getElem? (i := 68) rfl))) (by decide) (backOf (W := 0) (own_al_add3_5 l Z a0 hw [] a dd kk (mc + (1 : Int32)) u0 u1 u2 u3 u4 ee h2 n0 Zs14 Q10 Q6 Q8 F5 Q11 O g gd nad Q12) hZ (hw _ (List.mem_of_getElem? (i := 68) rfl)) (hw _ (List.mem_of_getElem? (i := 7) rfl)) (by decide) (by decide)) (g := (mkF m 20 #[.val (.ref a), .val (.ref ee)] [(.int (5 : Int32)), (.ref dd), (.ref ee), (.ref a)])) rfl (by rw [hml]; rfl) (Steps.refl _) (a := a) (by rw [e9]; exact q13) q13' (argsL := [(.ref ee), (.ref dd), (.int (5 : Int32))]) (rest := []) (lenOf own_al_add_5_pd0 rfl) rfl (by show 2 * 0 + _ ≤ _; exact Nat.le_of_eq rfl) (hb hby own_al_add_5_d20) (fun _ _ => ⟨rfl, e9, (by decide : 0 + 0 ≤ _), (by decide : 0 + 0 ≤ _)⟩)
  dsimp only [Pt.U, Pt.locs, Pt.cells, Pt.slots] at X13 l13 y13 z13 st13 hQ13
  obtain rfl : k13 = 0 := y13
  obtain rfl : n13 = 0 := z13
  obtain ⟨rfl, N13q, R13, P15, P16, P17, P18⟩ := hQ13
  have N13 : Fr n0 L13 := l13 ▸ Fr.app N3 N13q
  refine ownStep (fun _ k => st13.trans k) ?_
  have KP19 : Keep h0 T13.heap [a, dd] := KP4.trans R13 (allS (Or.inl (List.mem_of_getElem? (i := 0) rfl)) (allS (Or.inl (List.mem_of_getElem? (i := 1) rfl)) all0))
  refine ownStep (fun _ k => XS.iconst X13.here hx rfl (hb hby own_al_add_5_d23) k) ?_
  show ownGo p.tables e below (T13.setTop (mkF m 24 #[.val (.ref a), .val (.ref ee)] [(.int (1 : Int32))])) _
  exact ownRet X13 (v := some (.int (1 : Int32))) Bd.notSynchronized (fun h => by rw [Bd.returns] at h; cases h) (fun _ hr => retN X13 hx (t := .boolean) Bd.returns (by simp) (hb hby own_al_add_5_d24) hr) (⟨rfl, N13, KP19, P15, P16, P17, P18⟩) (by decide) (by decide)
theorem own_al_add3_6_d0 : decode jdk_38_method_24_code 0 = .ok (.iload_n 3, 1) := by decide +kernel
theorem own_al_add3_6_d1 : decode jdk_38_method_24_code 1 = .ok (.aload_n 2, 1) := by decide +kernel
theorem own_al_add3_6_d2 : decode jdk_38_method_24_code 2 = .ok (.arraylength, 1) := by decide +kernel
theorem own_al_add3_6_d3 : decode jdk_38_method_24_code 3 = .ok (.if_icmp .ne 8, 3) := by decide +kernel
theorem own_al_add3_6_d11 : decode jdk_38_method_24_code 11 = .ok (.aload_n 2, 1) := by decide +kernel
theorem own_al_add3_6_d12 : decode jdk_38_method_24_code 12 = .ok (.iload_n 3, 1) := by decide +kernel
theorem own_al_add3_6_d13 : decode jdk_38_method_24_code 13 = .ok (.aload_n 1, 1) := by decide +kernel
theorem own_al_add3_6_d14 : decode jdk_38_method_24_code 14 = .ok (.aastore, 1) := by decide +kernel
theorem own_al_add3_6_d15 : decode jdk_38_method_24_code 15 = .ok (.aload_n 0, 1) := by decide +kernel
theorem own_al_add3_6_d16 : decode jdk_38_method_24_code 16 = .ok (.iload_n 3, 1) := by decide +kernel
theorem own_al_add3_6_d17 : decode jdk_38_method_24_code 17 = .ok (.iconst 1, 1) := by decide +kernel
theorem own_al_add3_6_d18 : decode jdk_38_method_24_code 18 = .ok (.iadd, 1) := by decide +kernel
theorem own_al_add3_6_d19 : decode jdk_38_method_24_code 19 = .ok (.putfield 48, 3) := by decide +kernel
theorem own_al_add3_6_d22 : decode jdk_38_method_24_code 22 = .ok (.return_, 1) := by decide +kernel
theorem own_al_add3_6_pn : plainName "java/util/ArrayList" = true := by first | (simp [plainName, overriddenIn]; done) | decide +kernel
theorem own_al_add3_6_ef (m : MethodId) (x0 : Addr) (x1 : Addr) (x2 : Addr) (x3 : Int32) : entryFrame m #[(.ref x0), (.ref x1), (.ref x2), (.int x3)] 4 = mkF m 0 #[.val (.ref x0), .val (.ref x1), .val (.ref x2), .val (.int x3)] [] := by first | (simp [entryFrame, mkF, argsToLocals, Value.category]; done) | rfl
def own_al_add3_6_Q (Z : State) (a : Addr) (dd : Addr) (kk : ClassId) (mc : Int32) (u0 : Value) (u1 : Value) (u2 : Value) (u3 : Value) (u4 : Value) (u5 : Value) (ee : Addr) (h0 : Heap) (n0 : Nat) (vv_ : Option Value) (hh_ : Heap) (LL_ : List Loc) : Prop := vv_ = none ∧ Fr n0 LL_ ∧ Keep h0 hh_ [a, dd] ∧ (Fld Z hh_ a "java/util/ArrayList" "elementData" "[Ljava/lang/Object;" (.ref dd)) ∧ (Fld Z hh_ a "java/util/ArrayList" "size" "I" (.int (7 : Int32))) ∧ (Fld Z hh_ a "java/util/AbstractList" "modCount" "I" (.int mc)) ∧ (Arv Z hh_ dd kk (.object "java/lang/Object") (10 : Int32) [u0, u1, u2, u3, u4, u5, (.ref ee), .null, .null, .null] .null)
set_option maxRecDepth 65536 in
set_option maxHeartbeats 40000000 in
theorem own_al_add3_6 (l : Launch) (Z : State) (a0 : Array Value) (hw : ∀ d ∈ tables_1, d.before a0 Z = true) (ws : List Jvm.Cond) (a : Addr) (dd : Addr) (kk : ClassId) (mc : Int32) (u0 : Value) (u1 : Value) (u2 : Value) (u3 : Value) (u4 : Value) (u5 : Value) (ee : Addr) (h0 : Heap) (n0 : Nat) (Z0 : n0 ≤ h0.size) (E : Exa Z h0 a "java/util/ArrayList") (Fe : Fld Z h0 a "java/util/ArrayList" "elementData" "[Ljava/lang/Object;" (.ref dd)) (Fs : Fld Z h0 a "java/util/ArrayList" "size" "I" (.int (6 : Int32))) (Fm : Fld Z h0 a "java/util/AbstractList" "modCount" "I" (.int mc)) (V : Arv Z h0 dd kk (.object "java/lang/Object") (10 : Int32) [u0, u1, u2, u3, u4, u5, .null, .null, .null, .null] .null) (O : Ovr Z kk "java/lang/Object") (g : n0 ≤ a) (gd : n0 ≤ dd) (nad : a ≠ dd) (I : Ins Z h0 ee "java/lang/Object" true) :
    MetFree l (⟨"java/util/ArrayList", "add", "(Ljava/lang/Object;[Ljava/lang/Object;I)V"⟩ : MethodName) (head1 (Jvm.Cond.code (⟨"java/util/ArrayList", "add", "(Ljava/lang/Object;[Ljava/lang/Object;I)V"⟩ : MethodName) jdk_38_method_24_code 4 none :: ws) ({ frames := 0, cells := 0, slots := 0, locals := 0 } : Room)) (fun aa_ UU_ => aa_ = #[(.ref a), (.ref ee), (.ref dd), (.int (6 : Int32))] ∧ Z.Warmed39 UU_.vm ∧ UU_.heap = h0) (fun _ _ _ _ _ => True) (fun _ UU_ oo_ UV_ => ∃ vv_ LL_, oo_ = .returned vv_ ∧ own_al_add3_6_Q Z a dd kk mc u0 u1 u2 u3 u4 u5 ee h0 n0 vv_ UV_.heap LL_ ∧ FrameEnd UU_ oo_ UV_ LL_ ({ frames := 0, cells := 0, slots := 0, locals := 0 } : Room).cells ({ frames := 0, cells := 0, slots := 0, locals := 0 } : Room).slots) := by
  refine MetFree.of_bodySF (plainFor_of_name own_al_add3_6_pn) hisR ?_
  intro p e s m args below meth c s₁ Bd hml0 hP hK
  obtain ⟨rfl, hZ, hh⟩ := hP
  have hx := Bd.exec
  have hby := Bd.bytes
  have hml : c.maxLocals = 4 := hml0
  have hown : s.vm.findClass "java/util/ArrayList" = some m.cls := findClass_of_methodNamed Bd.named
  have hnm := (name_of_methodNamed Bd.named Bd.method).1
  have X0 : Stand p l e ({ frames := 0, cells := 0, slots := 0, locals := 0 } : Room) s m #[(.ref a), (.ref ee), (.ref dd), (.int (6 : Int32))] below meth c s₁ [] 0 0 := Stand.of_body Bd
  have e0 : s₁.heap = h0 := by rw [← hh, Bd.state]; rfl
  have N0 := Fr.nil n0
  have KP0 : Keep h0 h0 [a, dd] := Keep.refl _ _
  refine ownFin (Q := own_al_add3_6_Q Z a dd kk mc u0 u1 u2 u3 u4 u5 ee h0 n0) ?_
  refine ownStep (fun _ k => castTop (own_al_add3_6_ef m a ee dd (6 : Int32)) k) ?_
  show ownGo p.tables e below (s₁.setTop (mkF m 0 #[.val (.ref a), .val (.ref ee), .val (.ref dd), .val (.int (6 : Int32))] [])) _
  refine ownStep (fun _ k => XS.iloadN X0.here hx rfl (hb hby own_al_add3_6_d0) rfl  k) ?_
  refine ownStep (fun _ k => XS.aloadN X0.here hx rfl (hb hby own_al_add3_6_d1) rfl rfl k) ?_
  show ownGo p.tables e below (s₁.setTop (mkF m 2 #[.val (.ref a), .val (.ref ee), .val (.ref dd), .val (.int (6 : Int32))] [(.ref dd), (.int (6 : Int32))])) _
  have Vo1 := V
  obtain ⟨cl1, Ar1, q1, S1, N1, H1, G1⟩ := Vo1
  refine ownStep (X0.arraylength hx (by rw [e0]; exact Ar1.1) (State.isArrayOf_alike hZ.alike Ar1.2.1) (g := (mkF m 2 #[.val (.ref a), .val (.ref ee), .val (.ref dd), .val (.int (6 : Int32))] [(.ref dd), (.int (6 : Int32))])) rfl rfl (hb hby own_al_add3_6_d2)) ?_
  rw [len_of S1 N1]
  refine ownStep (fun _ k => XS.icmpYes X0.here hx rfl (pc0 := 3) (pc' := 11) rfl (hb hby own_al_add3_6_d3) rfl (feq (by decide : ¬ (6 : Int32) = (10 : Int32))).2 (by decide) (by decide) k) ?_
  refine ownStep (fun _ k => XS.aloadN X0.here hx rfl (hb hby own_al_add3_6_d11) rfl rfl k) ?_
  refine ownStep (fun _ k => XS.iloadN X0.here hx rfl (hb hby own_al_add3_6_d12) rfl  k) ?_
  refine ownStep (fun _ k => XS.aloadN X0.here hx rfl (hb hby own_al_add3_6_d13) rfl rfl k) ?_
  show ownGo p.tables e below (s₁.setTop (mkF m 14 #[.val (.ref a), .val (.ref ee), .val (.ref dd), .val (.int (6 : Int32))] [(.ref ee), (.int (6 : Int32)), (.ref dd)])) _
  have Vo2 := V
  obtain ⟨cl2, Ar2, q2, S2, N2, H2, G2⟩ := Vo2
  have hin2 : ¬ ((6 : Int32) < 0 ∨ cl2.slots.size ≤ ((6 : Int32)).toNatClampNeg) := inb_of S2 ⟨by decide, by decide⟩
  obtain ⟨T3, h3, X3, e3, W3, st3⟩ := stR X0 hx hZ e0 Ar2 (j := (6 : Int32)) hin2 rfl (Sto.ofV Ar2 q2 O I) (g := (mkF m 14 #[.val (.ref a), .val (.ref ee), .val (.ref dd), .val (.int (6 : Int32))] [(.ref ee), (.int (6 : Int32)), (.ref dd)])) rfl rfl (hb hby own_al_add3_6_d14)
  have N4 := Fr.snoc X3 N0 gd
  have KP5 : Keep h0 h3 [a, dd] := KP0.wr W3 (Or.inl (List.mem_of_getElem? (i := 1) rfl))
  have V6 : Arv Z h3 dd kk (.object "java/lang/Object") (10 : Int32) [u0, u1, u2, u3, u4, u5, (.ref ee), .null, .null, .null] .null := Arv.set Ar2 q2 S2 N2 H2 G2 rfl W3 6 rfl (Nat.le_of_ble_eq_true rfl)
  refine ownStep st3 ?_
  refine ownStep (fun _ k => XS.aloadN X3.here hx rfl (hb hby own_al_add3_6_d15) rfl rfl k) ?_
  refine ownStep (fun _ k => XS.iloadN X3.here hx rfl (hb hby own_al_add3_6_d16) rfl  k) ?_
  refine ownStep (fun _ k => XS.iconst X3.here hx rfl (hb hby own_al_add3_6_d17) k) ?_
  refine ownStep (fun _ k => XS.iadd X3.here hx rfl (hb hby own_al_add3_6_d18) rfl k) ?_
  show ownGo p.tables e below (T3.setTop (mkF m 19 #[.val (.ref a), .val (.ref ee), .val (.ref dd), .val (.int (6 : Int32))] [(.int (7 : Int32)), (.ref a)])) _
  have Q7 : Fld Z h3 a "java/util/ArrayList" "size" "I" (.int (6 : Int32)) := (Fs.other W3 (Or.inl nad))
  have Q8 : Exa Z h3 a "java/util/ArrayList" := (E.wr W3)
  obtain ⟨T9, h9, X9, e9, W9, st9⟩ := putF X3 hx hZ hown (host := "") (Or.inl (hw _ (List.mem_of_getElem? (i := 47) rfl))) Via.refl e3 Q7 Q8 (Or.inl (hw _ (List.mem_of_getElem? (i := 48) rfl))) (hw _ (List.mem_of_getElem? (i := 6) rfl)) (ty := .int) (by decide) rfl rfl (g := (mkF m 19 #[.val (.ref a), .val (.ref ee), .val (.ref dd), .val (.int (6 : Int32))] [(.int (7 : Int32)), (.ref a)])) rfl rfl (hb hby own_al_add3_6_d19)
  have N10 := Fr.snoc X9 N4 g
  have KP11 : Keep h0 h9 [a, dd] := KP5.wr W9 (Or.inl (List.mem_of_getElem? (i := 0) rfl))
  have F12 : Fld Z h9 a "java/util/ArrayList" "size" "I" (.int (7 : Int32)) := Q7.same W9
  refine ownStep st9 ?_
  show ownGo p.tables e below (T9.setTop (mkF m 22 #[.val (.ref a), .val (.ref ee), .val (.ref dd), .val (.int (6 : Int32))] [])) _
  have Q13 : Fld Z h9 a "java/util/ArrayList" "elementData" "[Ljava/lang/Object;" (.ref dd) := ((Fe.other W3 (Or.inl nad)).other W9 (Or.inr (slot_ne (Or.inl (hw _ (List.mem_of_getElem? (i := 30) rfl))) (Or.inl (hw _ (List.mem_of_getElem? (i := 48) rfl))) (by decide) (t := (.array (.object "java/lang/Object"))) (t' := .int) (by decide) (by decide))))
  have Q14 : Fld Z h9 a "java/util/AbstractList" "modCount" "I" (.int mc) := ((Fm.other W3 (Or.inl nad)).other W9 (Or.inr (slot_ne (Or.inl (hw _ (List.mem_of_getElem? (i := 27) rfl))) (Or.inl (hw _ (List.mem_of_getElem? (i := 48) rfl))) (by decide) (t := .int) (t' := .int) (by decide) (by decide))))
  have Q15 : Arv Z h9 dd kk (.object "java/lang/Object") (10 : Int32) [u0, u1, u2, u3, u4, u5, (.ref ee), .null, .null, .null] .null := (V6.other W9 (Ne.symm nad))
  exact ownRet X9 (v := none) Bd.notSynchronized (fun _ => rfl) (fun _ hr => X9.returnOut hx Bd.returns (hb hby own_al_add3_6_d22) hr) (by rw [e9]; exact ⟨rfl, N10, KP11, Q13, F12, Q14, Q15⟩) (by decide) (by decide)
theorem own_al_add_6_d0 : decode jdk_38_method_25_code 0 = .ok (.aload_n 0, 1) := by decide +kernel
theorem own_al_add_6_d1 : decode jdk_38_method_25_code 1 = .ok (.dup, 1) := by decide +kernel
theorem own_al_add_6_d2 : decode jdk_38_method_25_code 2 = .ok (.getfield 63, 3) := by decide +kernel
theorem own_al_add_6_d5 : decode jdk_38_method_25_code 5 = .ok (.iconst 1, 1) := by decide +kernel
theorem own_al_add_6_d6 : decode jdk_38_method_25_code 6 = .ok (.iadd, 1) := by decide +kernel
theorem own_al_add_6_d7 : decode jdk_38_method_25_code 7 = .ok (.putfield 63, 3) := by decide +kernel
theorem own_al_add_6_d10 : decode jdk_38_method_25_code 10 = .ok (.aload_n 0, 1) := by decide +kernel
theorem own_al_add_6_d11 : decode jdk_38_method_25_code 11 = .ok (.aload_n 1, 1) := by decide +kernel
theorem own_al_add_6_d12 : decode jdk_38_method_25_code 12 = .ok (.aload_n 0, 1) := by decide +kernel
theorem own_al_add_6_d13 : decode jdk_38_method_25_code 13 = .ok (.getfield 9, 3) := by decide +kernel
theorem own_al_add_6_d16 : decode jdk_38_method_25_code 16 = .ok (.aload_n 0, 1) := by decide +kernel
theorem own_al_add_6_d17 : decode jdk_38_method_25_code 17 = .ok (.getfield 48, 3) := by decide +kernel
theorem own_al_add_6_d20 : decode jdk_38_method_25_code 20 = .ok (.invokevirtual 131, 3) := by decide +kernel
theorem own_al_add_6_d23 : decode jdk_38_method_25_code 23 = .ok (.iconst 1, 1) := by decide +kernel
theorem own_al_add_6_d24 : decode jdk_38_method_25_code 24 = .ok (.ireturn, 1) := by decide +kernel
theorem own_al_add_6_pn : plainName "java/util/ArrayList" = true := by first | (simp [plainName, overriddenIn]; done) | decide +kernel
theorem own_al_add_6_pd0 : parseMethodDescriptor "(Ljava/lang/Object;[Ljava/lang/Object;I)V" = some ⟨[(.object "java/lang/Object"), (.array (.object "java/lang/Object")), .int], none⟩ := by decide +kernel
theorem own_al_add_6_ef (m : MethodId) (x0 : Addr) (x1 : Addr) : entryFrame m #[(.ref x0), (.ref x1)] 2 = mkF m 0 #[.val (.ref x0), .val (.ref x1)] [] := by first | (simp [entryFrame, mkF, argsToLocals, Value.category]; done) | rfl
def own_al_add_6_Q (Z : State) (a : Addr) (dd : Addr) (kk : ClassId) (mc : Int32) (u0 : Value) (u1 : Value) (u2 : Value) (u3 : Value) (u4 : Value) (u5 : Value) (ee : Addr) (h0 : Heap) (n0 : Nat) (vv_ : Option Value) (hh_ : Heap) (LL_ : List Loc) : Prop := vv_ = some (.int (1 : Int32)) ∧ Fr n0 LL_ ∧ Keep h0 hh_ [a, dd] ∧ (Fld Z hh_ a "java/util/ArrayList" "elementData" "[Ljava/lang/Object;" (.ref dd)) ∧ (Fld Z hh_ a "java/util/ArrayList" "size" "I" (.int (7 : Int32))) ∧ (Fld Z hh_ a "java/util/AbstractList" "modCount" "I" (.int (mc + (1 : Int32)))) ∧ (Arv Z hh_ dd kk (.object "java/lang/Object") (10 : Int32) [u0, u1, u2, u3, u4, u5, (.ref ee), .null, .null, .null] .null)
set_option maxRecDepth 65536 in
set_option maxHeartbeats 40000000 in
theorem own_al_add_6 (l : Launch) (Z : State) (a0 : Array Value) (hw : ∀ d ∈ tables_1, d.before a0 Z = true) (ws : List Jvm.Cond) (a : Addr) (dd : Addr) (kk : ClassId) (mc : Int32) (u0 : Value) (u1 : Value) (u2 : Value) (u3 : Value) (u4 : Value) (u5 : Value) (ee : Addr) (h0 : Heap) (n0 : Nat) (Z0 : n0 ≤ h0.size) (E : Exa Z h0 a "java/util/ArrayList") (Fe : Fld Z h0 a "java/util/ArrayList" "elementData" "[Ljava/lang/Object;" (.ref dd)) (Fs : Fld Z h0 a "java/util/ArrayList" "size" "I" (.int (6 : Int32))) (Fm : Fld Z h0 a "java/util/AbstractList" "modCount" "I" (.int mc)) (V : Arv Z h0 dd kk (.object "java/lang/Object") (10 : Int32) [u0, u1, u2, u3, u4, u5, .null, .null, .null, .null] .null) (O : Ovr Z kk "java/lang/Object") (g : n0 ≤ a) (gd : n0 ≤ dd) (nad : a ≠ dd) (I : Ins Z h0 ee "java/lang/Object" true) :
    MetFree l (⟨"java/util/ArrayList", "add", "(Ljava/lang/Object;)Z"⟩ : MethodName) (head1 (Jvm.Cond.code (⟨"java/util/ArrayList", "add", "(Ljava/lang/Object;)Z"⟩ : MethodName) jdk_38_method_25_code 2 (some .boolean) :: ws) ({ frames := 1, cells := 1, slots := 10, locals := 15 } : Room)) (fun aa_ UU_ => aa_ = #[(.ref a), (.ref ee)] ∧ Z.Warmed39 UU_.vm ∧ UU_.heap = h0) (fun _ _ _ _ _ => True) (fun _ UU_ oo_ UV_ => ∃ vv_ LL_, oo_ = .returned vv_ ∧ own_al_add_6_Q Z a dd kk mc u0 u1 u2 u3 u4 u5 ee h0 n0 vv_ UV_.heap LL_ ∧ FrameEnd UU_ oo_ UV_ LL_ ({ frames := 1, cells := 1, slots := 10, locals := 15 } : Room).cells ({ frames := 1, cells := 1, slots := 10, locals := 15 } : Room).slots) := by
  refine MetFree.of_bodySF (plainFor_of_name own_al_add_6_pn) hisR ?_
  intro p e s m args below meth c s₁ Bd hml0 hP hK
  obtain ⟨rfl, hZ, hh⟩ := hP
  have hx := Bd.exec
  have hby := Bd.bytes
  have hml : c.maxLocals = 2 := hml0
  have hown : s.vm.findClass "java/util/ArrayList" = some m.cls := findClass_of_methodNamed Bd.named
  have hnm := (name_of_methodNamed Bd.named Bd.method).1
  have X0 : Stand p l e ({ frames := 1, cells := 1, slots := 10, locals := 15 } : Room) s m #[(.ref a), (.ref ee)] below meth c s₁ [] 0 0 := Stand.of_body Bd
  have e0 : s₁.heap = h0 := by rw [← hh, Bd.state]; rfl
  have N0 := Fr.nil n0
  have KP0 : Keep h0 h0 [a, dd] := Keep.refl _ _
  refine ownFin (Q := own_al_add_6_Q Z a dd kk mc u0 u1 u2 u3 u4 u5 ee h0 n0) ?_
  refine ownStep (fun _ k => castTop (own_al_add_6_ef m a ee) k) ?_
  show ownGo p.tables e below (s₁.setTop (mkF m 0 #[.val (.ref a), .val (.ref ee)] [])) _
  refine ownStep (fun _ k => XS.aloadN X0.here hx rfl (hb hby own_al_add_6_d0) rfl rfl k) ?_
  refine ownStep (fun _ k => XS.dup X0.here hx rfl (hb hby own_al_add_6_d1) rfl rfl k) ?_
  show ownGo p.tables e below (s₁.setTop (mkF m 2 #[.val (.ref a), .val (.ref ee)] [(.ref a), (.ref a)])) _
  obtain ⟨T1, X1, e1, st1⟩ := getF X0 hx hZ hown (host := "") (Or.inl (hw _ (List.mem_of_getElem? (i := 62) rfl))) (Via.of (hw _ (List.mem_of_getElem? (i := 63) rfl))) e0 Fm (g := (mkF m 2 #[.val (.ref a), .val (.ref ee)] [(.ref a), (.ref a)])) rfl rfl (hb hby own_al_add_6_d2)
  refine ownStep st1 ?_
  refine ownStep (fun _ k => XS.iconst X1.here hx rfl (hb hby own_al_add_6_d5) k) ?_
  refine ownStep (fun _ k => XS.iadd X1.here hx rfl (hb hby own_al_add_6_d6) rfl k) ?_
  show ownGo p.tables e below (T1.setTop (mkF m 7 #[.val (.ref a), .val (.ref ee)] [(.int (mc + (1 : Int32))), (.ref a)])) _
  obtain ⟨T2, h2, X2, e2, W2, st2⟩ := putF X1 hx hZ hown (host := "") (Or.inl (hw _ (List.mem_of_getElem? (i := 62) rfl))) (Via.of (hw _ (List.mem_of_getElem? (i := 63) rfl))) e1 Fm E (Or.inl (hw _ (List.mem_of_getElem? (i := 27) rfl))) (hw _ (List.mem_of_getElem? (i := 6) rfl)) (ty := .int) (by decide) rfl rfl (g := (mkF m 7 #[.val (.ref a), .val (.ref ee)] [(.int (mc + (1 : Int32))), (.ref a)])) rfl rfl (hb hby own_al_add_6_d7)
  have N3 := Fr.snoc X2 N0 g
  have KP4 : Keep h0 h2 [a, dd] := KP0.wr W2 (Or.inl (List.mem_of_getElem? (i := 0) rfl))
  have F5 : Fld Z h2 a "java/util/AbstractList" "modCount" "I" (.int (mc + (1 : Int32))) := Fm.same W2
  refine ownStep st2 ?_
  refine ownStep (fun _ k => XS.aloadN X2.here hx rfl (hb hby own_al_add_6_d10) rfl rfl k) ?_
  refine ownStep (fun _ k => XS.aloadN X2.here hx rfl (hb hby own_al_add_6_d11) rfl rfl k) ?_
  refine ownStep (fun _ k => XS.aloadN X2.here hx rfl (hb hby own_al_add_6_d12) rfl rfl k) ?_
  show ownGo p.tables e below (T2.setTop (mkF m 13 #[.val (.ref a), .val (.ref ee)] [(.ref a), (.ref ee), (.ref a)])) _
  have Q6 : Fld Z h2 a "java/util/ArrayList" "elementData" "[Ljava/lang/Object;" (.ref dd) := (Fe.other W2 (Or.inr (slot_ne (Or.inl (hw _ (List.mem_of_getElem? (i := 30) rfl))) (Or.inl (hw _ (List.mem_of_getElem? (i := 27) rfl))) (by decide) (t := (.array (.object "java/lang/Object"))) (t' := .int) (by decide) (by decide))))
  obtain ⟨T7, X7, e7, st7⟩ := getF X2 hx hZ hown (host := "") (Or.inl (hw _ (List.mem_of_getElem? (i := 29) rfl))) Via.refl e2 Q6 (g := (mkF m 13 #[.val (.ref a), .val (.ref ee)] [(.ref a), (.ref ee), (.ref a)])) rfl rfl (hb hby own_al_add_6_d13)
  refine ownStep st7 ?_
  refine ownStep (fun _ k => XS.aloadN X7.here hx rfl (hb hby own_al_add_6_d16) rfl rfl k) ?_
  show ownGo p.tables e below (T7.setTop (mkF m 17 #[.val (.ref a), .val (.ref ee)] [(.ref a), (.ref dd), (.ref ee), (.ref a)])) _
  have Q8 : Fld Z h2 a "java/util/ArrayList" "size" "I" (.int (6 : Int32)) := (Fs.other W2 (Or.inr (slot_ne (Or.inl (hw _ (List.mem_of_getElem? (i := 48) rfl))) (Or.inl (hw _ (List.mem_of_getElem? (i := 27) rfl))) (by decide) (t := .int) (t' := .int) (by decide) (by decide))))
  obtain ⟨T9, X9, e9, st9⟩ := getF X7 hx hZ hown (host := "") (Or.inl (hw _ (List.mem_of_getElem? (i := 47) rfl))) Via.refl e7 Q8 (g := (mkF m 17 #[.val (.ref a), .val (.ref ee)] [(.ref a), (.ref dd), (.ref ee), (.ref a)])) rfl rfl (hb hby own_al_add_6_d17)
  refine ownStep st9 ?_
  show ownGo p.tables e below (T9.setTop (mkF m 20 #[.val (.ref a), .val (.ref ee)] [(.int (6 : Int32)), (.ref dd), (.ref ee), (.ref a)])) _
  have Q10 : Exa Z h2 a "java/util/ArrayList" := (E.wr W2)
  have Q11 : Arv Z h2 dd kk (.object "java/lang/Object") (10 : Int32) [u0, u1, u2, u3, u4, u5, .null, .null, .null, .null] .null := (V.other W2 (Ne.symm nad))
  have Q12 : Ins Z h2 ee "java/lang/Object" true := (I.wr W2)
  have Zs14 : n0 ≤ h2.size := Nat.le_trans Z0 KP4.1
  obtain ⟨cq13, q13, q13'⟩ := Q10.cell
  obtain ⟨_, _, ⟨T13, L13, k13, n13⟩, -, X13, ⟨Lc13, hQ13, l13, y13, z13⟩, st13⟩ := X9.privateBack hx (y := (⟨"java/util/ArrayList", "add", "(Ljava/lang/Object;[Ljava/lang/Object;I)V"⟩ : MethodName)) hown (mvT hZ (hw _ (List.mem_of_getElem? (i := 64) rfl))) (mvT hZ (hw _ (List.mem_of_getElem? (i := 65) rfl))) (mvT hZ (hw _ (List.mem_of_getElem? (i := 67) rfl))) (Cond.privateMethod_at (mvP hZ (hw _ (List.mem_of_getElem? (i := 66) rfl)) (args := #[]))) (mvT hZ (hw _ (List.mem_of_getElem? (i := 68) rfl))) (by decide) (backOf (W := 0) (own_al_add3_6 l Z a0 hw [] a dd kk (mc + (1 : Int32)) u0 u1 u2 u3 u4 u5 ee h2 n0 Zs14 Q10 Q6 Q8 F5 Q11 O g gd nad Q12) hZ (hw _ (List.mem_of_getElem? (i := 68) rfl)) (hw _ (List.mem_of_getElem? (i := 7) rfl)) (by decide) (by decide)) (g := (mkF m 20 #[.val (.ref a), .val (.ref ee)] [(.int (6 : Int32)), (.ref dd), (.ref ee), (.ref a)])) rfl (by rw [hml]; rfl) (Steps.refl _) (a := a) (by rw [e9]; exact q13) q13' (argsL := [(.ref ee), (.ref dd), (.int (6 : Int32))]) (rest := []) (lenOf own_al_add_6_pd0 rfl) rfl (by show 2 * 0 + _ ≤ _; exact Nat.le_of_eq rfl) (hb hby own_al_add_6_d20) (fun _ _ => ⟨rfl, e9, (by decide : 0 + 0 ≤ _), (by decide : 0 + 0 ≤ _)⟩)
  dsimp only [Pt.U, Pt.locs, Pt.cells, Pt.slots] at X13 l13 y13 z13 st13 hQ13
  obtain rfl : k13 = 0 := y13
  obtain rfl : n13 = 0 := z13
  obtain ⟨rfl, N13q, R13, P15, P16, P17, P18⟩ := hQ13
  have N13 : Fr n0 L13 := l13 ▸ Fr.app N3 N13q
  refine ownStep (fun _ k => st13.trans k) ?_
  have KP19 : Keep h0 T13.heap [a, dd] := KP4.trans R13 (allS (Or.inl (List.mem_of_getElem? (i := 0) rfl)) (allS (Or.inl (List.mem_of_getElem? (i := 1) rfl)) all0))
  refine ownStep (fun _ k => XS.iconst X13.here hx rfl (hb hby own_al_add_6_d23) k) ?_
  show ownGo p.tables e below (T13.setTop (mkF m 24 #[.val (.ref a), .val (.ref ee)] [(.int (1 : Int32))])) _
  exact ownRet X13 (v := some (.int (1 : Int32))) Bd.notSynchronized (fun h => by rw [Bd.returns] at h; cases h) (fun _ hr => retN X13 hx (t := .boolean) Bd.returns (by simp) (hb hby own_al_add_6_d24) hr) (⟨rfl, N13, KP19, P15, P16, P17, P18⟩) (by decide) (by decide)
theorem own_split_d0 : decode prog_17_method_2_code 0 = .ok (.iconst 1, 1) := by decide +kernel
theorem own_split_d1 : decode prog_17_method_2_code 1 = .ok (.sipush 10000, 3) := by decide +kernel
theorem own_split_d4 : decode prog_17_method_2_code 4 = .ok (.iload_n 1, 1) := by decide +kernel
theorem own_split_d5 : decode prog_17_method_2_code 5 = .ok (.idiv, 1) := by decide +kernel
theorem own_split_d6 : decode prog_17_method_2_code 6 = .ok (.invokestatic 9, 3) := by decide +kernel
theorem own_split_d9 : decode prog_17_method_2_code 9 = .ok (.istore_n 2, 1) := by decide +kernel
theorem own_split_d10 : decode prog_17_method_2_code 10 = .ok (.new 15, 3) := by decide +kernel
theorem own_split_d13 : decode prog_17_method_2_code 13 = .ok (.dup, 1) := by decide +kernel
theorem own_split_d14 : decode prog_17_method_2_code 14 = .ok (.invokespecial 17, 3) := by decide +kernel
theorem own_split_d17 : decode prog_17_method_2_code 17 = .ok (.astore_n 3, 1) := by decide +kernel
theorem own_split_d18 : decode prog_17_method_2_code 18 = .ok (.iconst 0, 1) := by decide +kernel
theorem own_split_d19 : decode prog_17_method_2_code 19 = .ok (.istore 4, 2) := by decide +kernel
theorem own_split_d21 : decode prog_17_method_2_code 21 = .ok (.iload 4, 2) := by decide +kernel
theorem own_split_d23 : decode prog_17_method_2_code 23 = .ok (.aload_n 0, 1) := by decide +kernel
theorem own_split_d24 : decode prog_17_method_2_code 24 = .ok (.invokeinterface 18 1, 5) := by decide +kernel
theorem own_split_d29 : decode prog_17_method_2_code 29 = .ok (.if_icmp .ge 40, 3) := by decide +kernel
theorem own_split_d32 : decode prog_17_method_2_code 32 = .ok (.aload_n 3, 1) := by decide +kernel
theorem own_split_d33 : decode prog_17_method_2_code 33 = .ok (.aload_n 0, 1) := by decide +kernel
theorem own_split_d34 : decode prog_17_method_2_code 34 = .ok (.iload 4, 2) := by decide +kernel
theorem own_split_d36 : decode prog_17_method_2_code 36 = .ok (.aload_n 0, 1) := by decide +kernel
theorem own_split_d37 : decode prog_17_method_2_code 37 = .ok (.invokeinterface 18 1, 5) := by decide +kernel
theorem own_split_d42 : decode prog_17_method_2_code 42 = .ok (.iload 4, 2) := by decide +kernel
theorem own_split_d44 : decode prog_17_method_2_code 44 = .ok (.iload_n 2, 1) := by decide +kernel
theorem own_split_d45 : decode prog_17_method_2_code 45 = .ok (.iadd, 1) := by decide +kernel
theorem own_split_d46 : decode prog_17_method_2_code 46 = .ok (.invokestatic 24, 3) := by decide +kernel
theorem own_split_d49 : decode prog_17_method_2_code 49 = .ok (.invokeinterface 27 3, 5) := by decide +kernel
theorem own_split_d54 : decode prog_17_method_2_code 54 = .ok (.invokeinterface 31 2, 5) := by decide +kernel
theorem own_split_d59 : decode prog_17_method_2_code 59 = .ok (.pop, 1) := by decide +kernel
theorem own_split_d60 : decode prog_17_method_2_code 60 = .ok (.iload 4, 2) := by decide +kernel
theorem own_split_d62 : decode prog_17_method_2_code 62 = .ok (.iload_n 2, 1) := by decide +kernel
theorem own_split_d63 : decode prog_17_method_2_code 63 = .ok (.iadd, 1) := by decide +kernel
theorem own_split_d64 : decode prog_17_method_2_code 64 = .ok (.istore 4, 2) := by decide +kernel
theorem own_split_d66 : decode prog_17_method_2_code 66 = .ok (.goto (-45), 3) := by decide +kernel
theorem own_split_d69 : decode prog_17_method_2_code 69 = .ok (.aload_n 3, 1) := by decide +kernel
theorem own_split_d70 : decode prog_17_method_2_code 70 = .ok (.areturn, 1) := by decide +kernel
theorem own_split_pn : plainName "com/example/circuline/circuline/storage/Insert" = true := by first | (simp [plainName, overriddenIn]; done) | decide +kernel
theorem own_split_pd0 : parseMethodDescriptor "(II)I" = some ⟨[.int, .int], some .int⟩ := by decide +kernel
theorem own_split_pd1 : parseMethodDescriptor "()V" = some ⟨[], none⟩ := by decide +kernel
theorem own_split_pd2 : parseMethodDescriptor "()I" = some ⟨[], some .int⟩ := by decide +kernel
theorem own_split_pd3 : parseMethodDescriptor "(II)Ljava/util/List;" = some ⟨[.int, .int], some (.object "java/util/List")⟩ := by decide +kernel
theorem own_split_pd4 : parseMethodDescriptor "(Ljava/lang/Object;)Z" = some ⟨[(.object "java/lang/Object")], some .boolean⟩ := by decide +kernel
theorem own_split_ef (m : MethodId) (x0 : Addr) (x1 : Int32) : entryFrame m #[(.ref x0), (.int x1)] 5 = mkF m 0 #[.val (.ref x0), .val (.int x1), .unset, .unset, .unset] [] := by first | (simp [entryFrame, mkF, argsToLocals, Value.category]; done) | rfl
def own_split_Q (Z : State) (ed : Addr) (kd : ClassId) (a : Addr) (nn : Int32) (mc : Int32) (cc : Int32) (h0 : Heap) (n0 : Nat) (vv_ : Option Value) (hh_ : Heap) (LL_ : List Loc) : Prop := ∃ r_ : Addr, ∃ dr : Addr, ∃ clr : Cell, ∃ mm : Int32, ∃ sz : Int32, vv_ = some (.ref r_) ∧ Fr n0 LL_ ∧ Ext h0 hh_ ∧ (Exa Z hh_ r_ "java/util/ArrayList") ∧ (Fld Z hh_ r_ "java/util/ArrayList" "elementData" "[Ljava/lang/Object;" (.ref dr)) ∧ (Fld Z hh_ r_ "java/util/ArrayList" "size" "I" (.int mm)) ∧ (Arr Z hh_ dr clr (.object "java/lang/Object")) ∧ (clr.slots.size = 10) ∧ (own_subs Z hh_ clr mm a mc nn sz) ∧ (own_szp cc sz) ∧ (own_cnt nn sz mm)
set_option maxRecDepth 65536 in
set_option maxHeartbeats 40000000 in
theorem own_split (l : Launch) (Z : State) (a0 : Array Value) (hw : ∀ d ∈ tables_1, d.before a0 Z = true) (ws : List Jvm.Cond) (ed : Addr) (kd : ClassId) (a : Addr) (nn : Int32) (mc : Int32) (cc : Int32) (h0 : Heap) (n0 : Nat) (Z0 : n0 ≤ h0.size) (hOld : Old Z n0 h0) (S : Sta Z Z.heap "java/util/ArrayList" "DEFAULTCAPACITY_EMPTY_ELEMENTDATA" "[Ljava/lang/Object;" (.ref ed)) (V : Arv Z Z.heap ed kd (.object "java/lang/Object") (0 : Int32) [] .null) (Ea : Exa Z h0 a "java/util/ArrayList") (Fs : Fld Z h0 a "java/util/ArrayList" "size" "I" (.int nn)) (Fm : Fld Z h0 a "java/util/AbstractList" "modCount" "I" (.int mc)) (hn1 : 1 ≤ nn.toInt) (hn7 : ¬ (7 : Int32) < nn) (hcc : 1 ≤ cc.toInt) :
    MetFree l (⟨"com/example/circuline/circuline/storage/Insert", "split", "(Ljava/util/List;I)Ljava/util/List;"⟩ : MethodName) (head1 (Jvm.Cond.code (⟨"com/example/circuline/circuline/storage/Insert", "split", "(Ljava/util/List;I)Ljava/util/List;"⟩ : MethodName) prog_17_method_2_code 5 (some (.object "java/util/List")) :: ws) ({ frames := 5, cells := 15, slots := 108, locals := 69 } : Room)) (fun aa_ UU_ => aa_ = #[(.ref a), (.int cc)] ∧ Z.Warmed39 UU_.vm ∧ UU_.heap = h0) (fun _ _ _ _ _ => True) (fun _ UU_ oo_ UV_ => ∃ vv_ LL_, oo_ = .returned vv_ ∧ own_split_Q Z ed kd a nn mc cc h0 n0 vv_ UV_.heap LL_ ∧ FrameEnd UU_ oo_ UV_ LL_ ({ frames := 5, cells := 15, slots := 108, locals := 69 } : Room).cells ({ frames := 5, cells := 15, slots := 108, locals := 69 } : Room).slots) := by
  refine MetFree.of_bodySF (plainFor_of_name own_split_pn) hisR ?_
  intro p e s m args below meth c s₁ Bd hml0 hP hK
  obtain ⟨rfl, hZ, hh⟩ := hP
  have hx := Bd.exec
  have hby := Bd.bytes
  have hml : c.maxLocals = 5 := hml0
  have hown : s.vm.findClass "com/example/circuline/circuline/storage/Insert" = some m.cls := findClass_of_methodNamed Bd.named
  have hnm := (name_of_methodNamed Bd.named Bd.method).1
  have X0 : Stand p l e ({ frames := 5, cells := 15, slots := 108, locals := 69 } : Room) s m #[(.ref a), (.int cc)] below meth c s₁ [] 0 0 := Stand.of_body Bd
  have e0 : s₁.heap = h0 := by rw [← hh, Bd.state]; rfl
  have N0 := Fr.nil n0
  have KP0 : Keep h0 h0 [] := Keep.refl _ _
  refine ownFin (Q := own_split_Q Z ed kd a nn mc cc h0 n0) ?_
  refine ownStep (fun _ k => castTop (own_split_ef m a cc) k) ?_
  show ownGo p.tables e below (s₁.setTop (mkF m 0 #[.val (.ref a), .val (.int cc), .unset, .unset, .unset] [])) _
  refine ownStep (fun _ k => XS.iconst X0.here hx rfl (hb hby own_split_d0) k) ?_
  refine ownStep (fun _ k => XS.sipush X0.here hx rfl (hb hby own_split_d1) k) ?_
  refine ownStep (fun _ k => XS.iloadN X0.here hx rfl (hb hby own_split_d4) rfl  k) ?_
  refine ownStep (fun _ k => XS.idiv X0.here hx rfl (hb hby own_split_d5) rfl (own_ne0 hcc) k) ?_
  show ownGo p.tables e below (s₁.setTop (mkF m 6 #[.val (.ref a), .val (.int cc), .unset, .unset, .unset] [(.int ((10000 : Int32) / cc)), (.int (1 : Int32))])) _
  have Zs2 : n0 ≤ h0.size := Nat.le_trans Z0 KP0.1
  obtain ⟨_, _, ⟨T1, L1, k1, n1⟩, -, X1, ⟨Lc1, hQ1, l1, y1, z1⟩, st1⟩ := Jvm.LawKit.callS X0 hx (y := (⟨"java/lang/Math", "max", "(II)I"⟩ : MethodName)) hown (mvT hZ (hw _ (List.mem_of_getElem? (i := 35) rfl))) (mvT hZ (hw _ (List.mem_of_getElem? (i := 2) rfl))) (mvT hZ (hw _ (List.mem_of_getElem? (i := 3) rfl))) (mvT hZ (hw _ (List.mem_of_getElem? (i := 4) rfl))) (by decide) (backOf (W := 0) (own_mmax l Z a0 hw [] (1 : Int32) ((10000 : Int32) / cc) h0 n0 Zs2 ) hZ (hw _ (List.mem_of_getElem? (i := 4) rfl)) (hw _ (List.mem_of_getElem? (i := 3) rfl)) (by decide) (by decide)) (g := (mkF m 6 #[.val (.ref a), .val (.int cc), .unset, .unset, .unset] [(.int ((10000 : Int32) / cc)), (.int (1 : Int32))])) rfl (by rw [hml]; rfl) (argsL := [(.int (1 : Int32)), (.int ((10000 : Int32) / cc))]) (rest := []) (lenOf own_split_pd0 rfl) rfl (by show 2 * 0 + _ ≤ _; exact Nat.le_of_eq rfl) (hb hby own_split_d6) (fun _ _ => ⟨rfl, e0, (by decide : 0 + 0 ≤ _), (by decide : 0 + 0 ≤ _)⟩)
  dsimp only [Pt.U, Pt.locs, Pt.cells, Pt.slots] at X1 l1 y1 z1 st1 hQ1
  obtain rfl : k1 = 0 := y1
  obtain rfl : n1 = 0 := z1
  obtain ⟨rfl, N1q, R1⟩ := hQ1
  have N1 : Fr n0 L1 := l1 ▸ Fr.app N0 N1q
  refine ownStep (fun _ k => st1 _ k) ?_
  show ownGo p.tables e below (T1.setTop (mkF m 9 #[.val (.ref a), .val (.int cc), .unset, .unset, .unset] [(.int (own_max (1 : Int32) ((10000 : Int32) / cc)))])) _
  obtain ⟨sz, h_sz, hzp⟩ := own_szv hcc
  rw [h_sz]
  refine ownStep (fun _ k => XS.istoreN X1.here hx rfl (hb hby own_split_d9) rfl (l' := #[.val (.ref a), .val (.int cc), .val (.int sz), .unset, .unset]) rfl k) ?_
  show ownGo p.tables e below (T1.setTop (mkF m 10 #[.val (.ref a), .val (.int cc), .val (.int sz), .unset, .unset] [])) _
  obtain ⟨T3, h3, X3, e3, E3, A3, D3, U3, st3⟩ := newO X1 hx hZ hown (hw _ (List.mem_of_getElem? (i := 36) rfl)) (hw _ (List.mem_of_getElem? (i := 6) rfl)) (hw _ (List.mem_of_getElem? (i := 7) rfl)) R1 (g := (mkF m 10 #[.val (.ref a), .val (.int cc), .val (.int sz), .unset, .unset] [])) rfl (hb hby own_split_d10) (by decide) (by decide)
  obtain ⟨b3, g3⟩ : ∃ z, z = h0.size := ⟨_, rfl⟩
  rw [← g3] at A3 D3 U3 st3
  have gh_b3 : h0.size ≤ b3 := Nat.le_trans KP0.1 (Nat.le_of_eq g3.symm)
  have gn_b3 : n0 ≤ b3 := Nat.le_trans Z0 gh_b3
  have KP4 : Keep h0 h3 [] := KP0.ext E3
  have F5 : Fld Z h3 b3 "java/util/AbstractList" "modCount" "I" (.int (0 : Int32)) := D3 (Or.inl (hw _ (List.mem_of_getElem? (i := 27) rfl))) (ty := .int) (by decide)
  have F6 : Fld Z h3 b3 "java/util/ArrayList" "elementData" "[Ljava/lang/Object;" .null := D3 (Or.inl (hw _ (List.mem_of_getElem? (i := 30) rfl))) (ty := (.array (.object "java/lang/Object"))) (by decide)
  have F7 : Fld Z h3 b3 "java/util/ArrayList" "size" "I" (.int (0 : Int32)) := D3 (Or.inl (hw _ (List.mem_of_getElem? (i := 48) rfl))) (ty := .int) (by decide)
  refine ownStep st3 ?_
  refine ownStep (fun _ k => XS.dup X3.here hx rfl (hb hby own_split_d13) rfl rfl k) ?_
  show ownGo p.tables e below (T3.setTop (mkF m 14 #[.val (.ref a), .val (.int cc), .val (.int sz), .unset, .unset] [(.ref b3), (.ref b3)])) _
  have Q8 : Old Z n0 h3 := (hOld.ext E3)
  have Zs10 : n0 ≤ h3.size := Nat.le_trans Z0 KP4.1
  obtain ⟨_, _, ⟨T9, L9, k9, n9⟩, -, X9, ⟨Lc9, hQ9, l9, y9, z9⟩, st9⟩ := X3.specialBack hx (y := (⟨"java/util/ArrayList", "<init>", "()V"⟩ : MethodName)) rfl hown (mvT hZ (hw _ (List.mem_of_getElem? (i := 37) rfl))) (mvT hZ (hw _ (List.mem_of_getElem? (i := 9) rfl))) (mvT hZ (hw _ (List.mem_of_getElem? (i := 10) rfl))) (by decide) (backOf (W := 1) (own_al_init l Z a0 hw [] b3 ed h3 n0 Zs10 Q8 S A3 F6 F7 F5 gn_b3) hZ (hw _ (List.mem_of_getElem? (i := 10) rfl)) (hw _ (List.mem_of_getElem? (i := 7) rfl)) (by decide) (by decide)) (g := (mkF m 14 #[.val (.ref a), .val (.int cc), .val (.int sz), .unset, .unset] [(.ref b3), (.ref b3)])) rfl (by rw [hml]; rfl) (Steps.refl _) (a := b3) (argsL := []) (rest := [(.ref b3)]) (lenOf own_split_pd1 rfl) rfl (by show 2 * 0 + _ ≤ _; exact Nat.le_of_eq rfl) (hb hby own_split_d14) (fun _ _ => ⟨rfl, e3, (by decide : 1 + 0 ≤ _), (by decide : 3 + 0 ≤ _)⟩)
  dsimp only [Pt.U, Pt.locs, Pt.cells, Pt.slots] at X9 l9 y9 z9 st9 hQ9
  obtain rfl : k9 = 1 := y9
  obtain rfl : n9 = 3 := z9
  obtain ⟨rfl, N9q, R9, P11, P12, P13⟩ := hQ9
  have N9 : Fr n0 L9 := l9 ▸ Fr.app N1 N9q
  refine ownStep (fun _ k => st9.trans k) ?_
  have KP14 : Keep h0 T9.heap [] := KP4.trans R9 (allS (Or.inr gh_b3) all0)
  refine ownStep (fun _ k => XS.astoreN X9.here hx rfl (hb hby own_split_d17) rfl rfl (l' := #[.val (.ref a), .val (.int cc), .val (.int sz), .val (.ref b3), .unset]) rfl k) ?_
  refine ownStep (fun _ k => XS.iconst X9.here hx rfl (hb hby own_split_d18) k) ?_
  show ownGo p.tables e below (T9.setTop (mkF m 19 #[.val (.ref a), .val (.int cc), .val (.int sz), .val (.ref b3), .unset] [(.int (0 : Int32))])) _
  obtain ⟨o0, h_o0, ho0⟩ : ∃ z : Int32, (0 : Int32) = z ∧ z = (0 : Int32) * sz := ⟨_, rfl, by simp⟩
  rw [h_o0]
  refine ownStep (fun _ k => XS.istore X9.here hx rfl (hb hby own_split_d19) rfl (l' := #[.val (.ref a), .val (.int cc), .val (.int sz), .val (.ref b3), .val (.int o0)]) rfl k) ?_
  refine ownStep (fun _ k => XS.iload X9.here hx rfl (hb hby own_split_d21) rfl  k) ?_
  refine ownStep (fun _ k => XS.aloadN X9.here hx rfl (hb hby own_split_d23) rfl rfl k) ?_
  show ownGo p.tables e below (T9.setTop (mkF m 24 #[.val (.ref a), .val (.int cc), .val (.int sz), .val (.ref b3), .val (.int o0)] [(.ref a), (.int o0)])) _
  have ne15 : a ≠ b3 := Nat.ne_of_lt (Nat.lt_of_lt_of_le (Nat.lt_of_lt_of_le Ea.lt (Nat.le_refl _)) (Nat.le_of_eq g3.symm))
  have Q16 : Fld Z T9.heap a "java/util/ArrayList" "size" "I" (.int nn) := ((Fs.ext E3).keep R9 (ninS ne15 nin0))
  have Zs18 : n0 ≤ T9.heap.size := Nat.le_trans Z0 KP14.1
  have Q19 : Exa Z T9.heap a "java/util/ArrayList" := ((Ea.ext E3).keep R9)
  obtain ⟨cq17, kq17, q17a, q17b, q17c⟩ := isOf hZ rfl Q19
  obtain ⟨_, _, ⟨T17, L17, k17, n17⟩, -, X17, ⟨Lc17, hQ17, l17, y17, z17⟩, st17⟩ := X9.interfaceBack hx (xi := (⟨"java/util/List", "size", "()I"⟩ : MethodName)) (y := (⟨"java/util/ArrayList", "size", "()I"⟩ : MethodName)) hown (mvT hZ (hw _ (List.mem_of_getElem? (i := 38) rfl))) (mvT hZ (hw _ (List.mem_of_getElem? (i := 39) rfl))) (mvT hZ (hw _ (List.mem_of_getElem? (i := 40) rfl))) (mvT hZ (hw _ (List.mem_of_getElem? (i := 41) rfl))) (mvT hZ (hw _ (List.mem_of_getElem? (i := 42) rfl))) (mvT hZ (hw _ (List.mem_of_getElem? (i := 43) rfl))) (mvT hZ (hw _ (List.mem_of_getElem? (i := 44) rfl))) (mvT hZ (hw _ (List.mem_of_getElem? (i := 45) rfl))) (by decide) (backOf (W := 1) (own_asz l Z a0 hw [] a nn T9.heap n0 Zs18 Q16) hZ (hw _ (List.mem_of_getElem? (i := 46) rfl)) (hw _ (List.mem_of_getElem? (i := 7) rfl)) (by decide) (by decide)) q17a q17b q17c (g := (mkF m 24 #[.val (.ref a), .val (.int cc), .val (.int sz), .val (.ref b3), .val (.int o0)] [(.ref a), (.int o0)])) rfl (by rw [hml]; rfl) (Steps.refl _) (argsL := []) (rest := [(.int o0)]) (lenOf own_split_pd2 rfl) rfl (by show 2 * 0 + _ ≤ _; exact Nat.le_of_eq rfl) (hb hby own_split_d24) (fun _ _ => ⟨rfl, rfl, (by decide : 1 + 0 ≤ _), (by decide : 3 + 0 ≤ _)⟩)
  dsimp only [Pt.U, Pt.locs, Pt.cells, Pt.slots] at X17 l17 y17 z17 st17 hQ17
  obtain rfl : k17 = 1 := y17
  obtain rfl : n17 = 3 := z17
  obtain ⟨rfl, N17q, R17⟩ := hQ17
  have N17 : Fr n0 L17 := l17 ▸ Fr.app N9 N17q
  refine ownStep (fun _ k => st17.trans k) ?_
  show ownGo p.tables e below (T17.setTop (mkF m 29 #[.val (.ref a), .val (.int cc), .val (.int sz), .val (.ref b3), .val (.int o0)] [(.int nn), (.int o0)])) _
  have hb0 : o0 < nn := own_o0 hn1 ho0
  refine ownStep (fun _ k => XS.icmpNo X17.here hx rfl (hb hby own_split_d29) rfl (tlt (hb0 : o0 < nn)).2.1 k) ?_
  refine ownStep (fun _ k => XS.aloadN X17.here hx rfl (hb hby own_split_d32) rfl rfl k) ?_
  refine ownStep (fun _ k => XS.aloadN X17.here hx rfl (hb hby own_split_d33) rfl rfl k) ?_
  refine ownStep (fun _ k => XS.iload X17.here hx rfl (hb hby own_split_d34) rfl  k) ?_
  refine ownStep (fun _ k => XS.aloadN X17.here hx rfl (hb hby own_split_d36) rfl rfl k) ?_
  show ownGo p.tables e below (T17.setTop (mkF m 37 #[.val (.ref a), .val (.int cc), .val (.int sz), .val (.ref b3), .val (.int o0)] [(.ref a), (.int o0), (.ref a), (.ref b3)])) _
  have Zs21 : n0 ≤ T9.heap.size := Nat.le_trans Z0 KP14.1
  obtain ⟨cq20, kq20, q20a, q20b, q20c⟩ := isOf hZ R17 Q19
  obtain ⟨_, _, ⟨T20, L20, k20, n20⟩, -, X20, ⟨Lc20, hQ20, l20, y20, z20⟩, st20⟩ := X17.interfaceBack hx (xi := (⟨"java/util/List", "size", "()I"⟩ : MethodName)) (y := (⟨"java/util/ArrayList", "size", "()I"⟩ : MethodName)) hown (mvT hZ (hw _ (List.mem_of_getElem? (i := 38) rfl))) (mvT hZ (hw _ (List.mem_of_getElem? (i := 39) rfl))) (mvT hZ (hw _ (List.mem_of_getElem? (i := 40) rfl))) (mvT hZ (hw _ (List.mem_of_getElem? (i := 41) rfl))) (mvT hZ (hw _ (List.mem_of_getElem? (i := 42) rfl))) (mvT hZ (hw _ (List.mem_of_getElem? (i := 43) rfl))) (mvT hZ (hw _ (List.mem_of_getElem? (i := 44) rfl))) (mvT hZ (hw _ (List.mem_of_getElem? (i := 45) rfl))) (by decide) (backOf (W := 3) (own_asz l Z a0 hw [] a nn T9.heap n0 Zs21 Q16) hZ (hw _ (List.mem_of_getElem? (i := 46) rfl)) (hw _ (List.mem_of_getElem? (i := 7) rfl)) (by decide) (by decide)) q20a q20b q20c (g := (mkF m 37 #[.val (.ref a), .val (.int cc), .val (.int sz), .val (.ref b3), .val (.int o0)] [(.ref a), (.int o0), (.ref a), (.ref b3)])) rfl (by rw [hml]; rfl) (Steps.refl _) (argsL := []) (rest := [(.int o0), (.ref a), (.ref b3)]) (lenOf own_split_pd2 rfl) rfl (by show 2 * 0 + _ ≤ _; exact Nat.le_of_eq rfl) (hb hby own_split_d37) (fun _ _ => ⟨rfl, R17, (by decide : 1 + 0 ≤ _), (by decide : 3 + 0 ≤ _)⟩)
  dsimp only [Pt.U, Pt.locs, Pt.cells, Pt.slots] at X20 l20 y20 z20 st20 hQ20
  obtain rfl : k20 = 1 := y20
  obtain rfl : n20 = 3 := z20
  obtain ⟨rfl, N20q, R20⟩ := hQ20
  have N20 : Fr n0 L20 := l20 ▸ Fr.app N17 N20q
  refine ownStep (fun _ k => st20.trans k) ?_
  refine ownStep (fun _ k => XS.iload X20.here hx rfl (hb hby own_split_d42) rfl  k) ?_
  refine ownStep (fun _ k => XS.iloadN X20.here hx rfl (hb hby own_split_d44) rfl  k) ?_
  refine ownStep (fun _ k => XS.iadd X20.here hx rfl (hb hby own_split_d45) rfl k) ?_
  show ownGo p.tables e below (T20.setTop (mkF m 46 #[.val (.ref a), .val (.int cc), .val (.int sz), .val (.ref b3), .val (.int o0)] [(.int (o0 + sz)), (.int nn), (.int o0), (.ref a), (.ref b3)])) _
  have Zs23 : n0 ≤ T9.heap.size := Nat.le_trans Z0 KP14.1
  obtain ⟨_, _, ⟨T22, L22, k22, n22⟩, -, X22, ⟨Lc22, hQ22, l22, y22, z22⟩, st22⟩ := Jvm.LawKit.callS X20 hx (y := (⟨"java/lang/Math", "min", "(II)I"⟩ : MethodName)) hown (mvT hZ (hw _ (List.mem_of_getElem? (i := 83) rfl))) (mvT hZ (hw _ (List.mem_of_getElem? (i := 84) rfl))) (mvT hZ (hw _ (List.mem_of_getElem? (i := 3) rfl))) (mvT hZ (hw _ (List.mem_of_getElem? (i := 85) rfl))) (by decide) (backOf (W := 3) (own_mmin l Z a0 hw [] nn (o0 + sz) T9.heap n0 Zs23 ) hZ (hw _ (List.mem_of_getElem? (i := 85) rfl)) (hw _ (List.mem_of_getElem? (i := 3) rfl)) (by decide) (by decide)) (g := (mkF m 46 #[.val (.ref a), .val (.int cc), .val (.int sz), .val (.ref b3), .val (.int o0)] [(.int (o0 + sz)), (.int nn), (.int o0), (.ref a), (.ref b3)])) rfl (by rw [hml]; rfl) (argsL := [(.int nn), (.int (o0 + sz))]) (rest := [(.int o0), (.ref a), (.ref b3)]) (lenOf own_split_pd0 rfl) rfl (by show 2 * 0 + _ ≤ _; exact Nat.le_of_eq rfl) (hb hby own_split_d46) (fun _ _ => ⟨rfl, R20, (by decide : 1 + 0 ≤ _), (by decide : 3 + 0 ≤ _)⟩)
  dsimp only [Pt.U, Pt.locs, Pt.cells, Pt.slots] at X22 l22 y22 z22 st22 hQ22
  obtain rfl : k22 = 1 := y22
  obtain rfl : n22 = 3 := z22
  obtain ⟨rfl, N22q, R22⟩ := hQ22
  have N22 : Fr n0 L22 := l22 ▸ Fr.app N20 N22q
  refine ownStep (fun _ k => st22 _ k) ?_
  show ownGo p.tables e below (T22.setTop (mkF m 49 #[.val (.ref a), .val (.int cc), .val (.int sz), .val (.ref b3), .val (.int o0)] [(.int (own_min nn (o0 + sz))), (.int o0), (.ref a), (.ref b3)])) _
  have Q24 : Fld Z T9.heap a "java/util/AbstractList" "modCount" "I" (.int mc) := ((Fm.ext E3).keep R9 (ninS ne15 nin0))
  have Zs26 : n0 ≤ T9.heap.size := Nat.le_trans Z0 KP14.1
  obtain ⟨cq25, kq25, q25a, q25b, q25c⟩ := isOf hZ R22 Q19
  obtain ⟨_, _, ⟨T25, L25, k25, n25⟩, -, X25, ⟨Lc25, hQ25, l25, y25, z25⟩, st25⟩ := X22.interfaceBack hx (xi := (⟨"java/util/List", "subList", "(II)Ljava/util/List;"⟩ : MethodName)) (y := (⟨"java/util/ArrayList", "subList", "(II)Ljava/util/List;"⟩ : MethodName)) hown (mvT hZ (hw _ (List.mem_of_getElem? (i := 86) rfl))) (mvT hZ (hw _ (List.mem_of_getElem? (i := 87) rfl))) (mvT hZ (hw _ (List.mem_of_getElem? (i := 88) rfl))) (mvT hZ (hw _ (List.mem_of_getElem? (i := 89) rfl))) (mvT hZ (hw _ (List.mem_of_getElem? (i := 90) rfl))) (mvT hZ (hw _ (List.mem_of_getElem? (i := 91) rfl))) (mvT hZ (hw _ (List.mem_of_getElem? (i := 92) rfl))) (mvT hZ (hw _ (List.mem_of_getElem? (i := 45) rfl))) (by decide) (backOf (W := 1) (own_sbl l Z a0 hw [] a mc o0 (own_min nn (o0 + sz)) nn T9.heap n0 Zs26 Q19 Q16 Q24 (own_onn hzp ho0 (by decide) (by decide)) (own_min_le _ _) (own_loe hzp hn7 ho0 (by decide) (by decide) hb0)) hZ (hw _ (List.mem_of_getElem? (i := 93) rfl)) (hw _ (List.mem_of_getElem? (i := 7) rfl)) (by decide) (by decide)) q25a q25b q25c (g := (mkF m 49 #[.val (.ref a), .val (.int cc), .val (.int sz), .val (.ref b3), .val (.int o0)] [(.int (own_min nn (o0 + sz))), (.int o0), (.ref a), (.ref b3)])) rfl (by rw [hml]; rfl) (Steps.refl _) (argsL := [(.int o0), (.int (own_min nn (o0 + sz)))]) (rest := [(.ref b3)]) (lenOf own_split_pd3 rfl) rfl (by show 2 * 0 + _ ≤ _; exact Nat.le_of_eq rfl) (hb hby own_split_d49) (fun _ _ => ⟨rfl, R22, (by decide : 1 + 1 ≤ _), (by decide : 3 + 5 ≤ _)⟩)
  dsimp only [Pt.U, Pt.locs, Pt.cells, Pt.slots] at X25 l25 y25 z25 st25 hQ25
  obtain rfl : k25 = 2 := y25
  obtain rfl : n25 = 8 := z25
  obtain ⟨sl0, rfl, N25q, R25, P27, P28, P29, P30, P31, P32⟩ := hQ25
  have N25 : Fr n0 L25 := l25 ▸ Fr.app N22 N25q
  have gh_sl0 : h0.size ≤ sl0 := Nat.le_trans KP14.1 P32
  have gn_sl0 : n0 ≤ sl0 := Nat.le_trans Z0 gh_sl0
  refine ownStep (fun _ k => st25.trans k) ?_
  have KP33 : Keep h0 T25.heap [] := KP14.ext R25
  show ownGo p.tables e below (T25.setTop (mkF m 54 #[.val (.ref a), .val (.int cc), .val (.int sz), .val (.ref b3), .val (.int o0)] [(.ref sl0), (.ref b3)])) _
  have Q34 : Old Z n0 T25.heap := ((Q8.keep R9 (allS gn_b3 all0)).ext R25)
  have Q35 : Exa Z T25.heap b3 "java/util/ArrayList" := ((A3.keep R9).ext R25)
  have Q36 : Fld Z T25.heap b3 "java/util/ArrayList" "elementData" "[Ljava/lang/Object;" (.ref ed) := (P11.ext R25)
  have Q37 : Fld Z T25.heap b3 "java/util/ArrayList" "size" "I" (.int (0 : Int32)) := (P12.ext R25)
  have Q38 : Fld Z T25.heap b3 "java/util/AbstractList" "modCount" "I" (.int (0 : Int32)) := (P13.ext R25)
  have Zs40 : n0 ≤ T25.heap.size := Nat.le_trans Z0 KP33.1
  obtain ⟨cq39, kq39, q39a, q39b, q39c⟩ := isOf hZ rfl Q35
  obtain ⟨_, _, ⟨T39, L39, k39, n39⟩, -, X39, ⟨Lc39, hQ39, l39, y39, z39⟩, st39⟩ := X25.interfaceBack hx (xi := (⟨"java/util/List", "add", "(Ljava/lang/Object;)Z"⟩ : MethodName)) (y := (⟨"java/util/ArrayList", "add", "(Ljava/lang/Object;)Z"⟩ : MethodName)) hown (mvT hZ (hw _ (List.mem_of_getElem? (i := 120) rfl))) (mvT hZ (hw _ (List.mem_of_getElem? (i := 121) rfl))) (mvT hZ (hw _ (List.mem_of_getElem? (i := 122) rfl))) (mvT hZ (hw _ (List.mem_of_getElem? (i := 123) rfl))) (mvT hZ (hw _ (List.mem_of_getElem? (i := 59) rfl))) (mvT hZ (hw _ (List.mem_of_getElem? (i := 124) rfl))) (mvT hZ (hw _ (List.mem_of_getElem? (i := 125) rfl))) (mvT hZ (hw _ (List.mem_of_getElem? (i := 45) rfl))) (by decide) (backOf (W := 0) (own_al_add_0 l Z a0 hw [] b3 ed kd (0 : Int32) sl0 T25.heap n0 Zs40 Q34 S V Q35 Q36 Q37 Q38 gn_b3 (Ins.of_exa P27 (hw _ (List.mem_of_getElem? (i := 126) rfl)))) hZ (hw _ (List.mem_of_getElem? (i := 61) rfl)) (hw _ (List.mem_of_getElem? (i := 7) rfl)) (by decide) (by decide)) q39a q39b q39c (g := (mkF m 54 #[.val (.ref a), .val (.int cc), .val (.int sz), .val (.ref b3), .val (.int o0)] [(.ref sl0), (.ref b3)])) rfl (by rw [hml]; rfl) (Steps.refl _) (argsL := [(.ref sl0)]) (rest := []) (lenOf own_split_pd4 rfl) rfl (by show 2 * 0 + _ ≤ _; exact Nat.le_of_eq rfl) (hb hby own_split_d54) (fun _ _ => ⟨rfl, rfl, (by decide : 2 + 1 ≤ _), (by decide : 8 + 10 ≤ _)⟩)
  dsimp only [Pt.U, Pt.locs, Pt.cells, Pt.slots] at X39 l39 y39 z39 st39 hQ39
  obtain rfl : k39 = 3 := y39
  obtain rfl : n39 = 18 := z39
  obtain ⟨dd_39, kk_39, rfl, N39q, R39, P41, P42, P43, P44, P45, P46⟩ := hQ39
  have N39 : Fr n0 L39 := l39 ▸ Fr.app N25 N39q
  have gh_dd_39 : h0.size ≤ dd_39 := Nat.le_trans KP33.1 P46
  have gn_dd_39 : n0 ≤ dd_39 := Nat.le_trans Z0 gh_dd_39
  refine ownStep (fun _ k => st39.trans k) ?_
  have KP47 : Keep h0 T39.heap [] := KP33.trans R39 (allS (Or.inr gh_b3) all0)
  refine ownStep (fun _ k => XS.pop X39.here hx rfl (hb hby own_split_d59) rfl rfl k) ?_
  refine ownStep (fun _ k => XS.iload X39.here hx rfl (hb hby own_split_d60) rfl  k) ?_
  refine ownStep (fun _ k => XS.iloadN X39.here hx rfl (hb hby own_split_d62) rfl  k) ?_
  refine ownStep (fun _ k => XS.iadd X39.here hx rfl (hb hby own_split_d63) rfl k) ?_
  show ownGo p.tables e below (T39.setTop (mkF m 64 #[.val (.ref a), .val (.int cc), .val (.int sz), .val (.ref b3), .val (.int o0)] [(.int (o0 + sz))])) _
  obtain ⟨o1, h_o1, ho1⟩ : ∃ z : Int32, (o0 + sz) = z ∧ z = (1 : Int32) * sz := ⟨_, rfl, own_osum ho0 (by decide)⟩
  rw [h_o1]
  refine ownStep (fun _ k => XS.istore X39.here hx rfl (hb hby own_split_d64) rfl (l' := #[.val (.ref a), .val (.int cc), .val (.int sz), .val (.ref b3), .val (.int o1)]) rfl k) ?_
  refine ownStep (fun _ k => XS.goto X39.here hx rfl (pc0 := 66) (pc' := 21) rfl (hb hby own_split_d66) (by decide) (by decide) k) ?_
  refine ownStep (fun _ k => XS.iload X39.here hx rfl (hb hby own_split_d21) rfl  k) ?_
  refine ownStep (fun _ k => XS.aloadN X39.here hx rfl (hb hby own_split_d23) rfl rfl k) ?_
  show ownGo p.tables e below (T39.setTop (mkF m 24 #[.val (.ref a), .val (.int cc), .val (.int sz), .val (.ref b3), .val (.int o1)] [(.ref a), (.int o1)])) _
  have Q48 : Fld Z T39.heap a "java/util/ArrayList" "size" "I" (.int nn) := ((Q16.ext R25).keep R39 (ninS ne15 nin0))
  have Zs50 : n0 ≤ T39.heap.size := Nat.le_trans Z0 KP47.1
  have Q51 : Exa Z T39.heap a "java/util/ArrayList" := ((Q19.ext R25).keep R39)
  obtain ⟨cq49, kq49, q49a, q49b, q49c⟩ := isOf hZ rfl Q51
  obtain ⟨_, _, ⟨T49, L49, k49, n49⟩, -, X49, ⟨Lc49, hQ49, l49, y49, z49⟩, st49⟩ := X39.interfaceBack hx (xi := (⟨"java/util/List", "size", "()I"⟩ : MethodName)) (y := (⟨"java/util/ArrayList", "size", "()I"⟩ : MethodName)) hown (mvT hZ (hw _ (List.mem_of_getElem? (i := 38) rfl))) (mvT hZ (hw _ (List.mem_of_getElem? (i := 39) rfl))) (mvT hZ (hw _ (List.mem_of_getElem? (i := 40) rfl))) (mvT hZ (hw _ (List.mem_of_getElem? (i := 41) rfl))) (mvT hZ (hw _ (List.mem_of_getElem? (i := 42) rfl))) (mvT hZ (hw _ (List.mem_of_getElem? (i := 43) rfl))) (mvT hZ (hw _ (List.mem_of_getElem? (i := 44) rfl))) (mvT hZ (hw _ (List.mem_of_getElem? (i := 45) rfl))) (by decide) (backOf (W := 1) (own_asz l Z a0 hw [] a nn T39.heap n0 Zs50 Q48) hZ (hw _ (List.mem_of_getElem? (i := 46) rfl)) (hw _ (List.mem_of_getElem? (i := 7) rfl)) (by decide) (by decide)) q49a q49b q49c (g := (mkF m 24 #[.val (.ref a), .val (.int cc), .val (.int sz), .val (.ref b3), .val (.int o1)] [(.ref a), (.int o1)])) rfl (by rw [hml]; rfl) (Steps.refl _) (argsL := []) (rest := [(.int o1)]) (lenOf own_split_pd2 rfl) rfl (by show 2 * 0 + _ ≤ _; exact Nat.le_of_eq rfl) (hb hby own_split_d24) (fun _ _ => ⟨rfl, rfl, (by decide : 3 + 0 ≤ _), (by decide : 18 + 0 ≤ _)⟩)
  dsimp only [Pt.U, Pt.locs, Pt.cells, Pt.slots] at X49 l49 y49 z49 st49 hQ49
  obtain rfl : k49 = 3 := y49
  obtain rfl : n49 = 18 := z49
  obtain ⟨rfl, N49q, R49⟩ := hQ49
  have N49 : Fr n0 L49 := l49 ▸ Fr.app N39 N49q
  refine ownStep (fun _ k => st49.trans k) ?_
  show ownGo p.tables e below (T49.setTop (mkF m 29 #[.val (.ref a), .val (.int cc), .val (.int sz), .val (.ref b3), .val (.int o1)] [(.int nn), (.int o1)])) _
  by_cases hb1 : o1 < nn
  · skip
    refine ownStep (fun _ k => XS.icmpNo X49.here hx rfl (hb hby own_split_d29) rfl (tlt (hb1 : o1 < nn)).2.1 k) ?_
    refine ownStep (fun _ k => XS.aloadN X49.here hx rfl (hb hby own_split_d32) rfl rfl k) ?_
    refine ownStep (fun _ k => XS.aloadN X49.here hx rfl (hb hby own_split_d33) rfl rfl k) ?_
    refine ownStep (fun _ k => XS.iload X49.here hx rfl (hb hby own_split_d34) rfl  k) ?_
    refine ownStep (fun _ k => XS.aloadN X49.here hx rfl (hb hby own_split_d36) rfl rfl k) ?_
    show ownGo p.tables e below (T49.setTop (mkF m 37 #[.val (.ref a), .val (.int cc), .val (.int sz), .val (.ref b3), .val (.int o1)] [(.ref a), (.int o1), (.ref a), (.ref b3)])) _
    have Zs53 : n0 ≤ T39.heap.size := Nat.le_trans Z0 KP47.1
    obtain ⟨cq52, kq52, q52a, q52b, q52c⟩ := isOf hZ R49 Q51
    obtain ⟨_, _, ⟨T52, L52, k52, n52⟩, -, X52, ⟨Lc52, hQ52, l52, y52, z52⟩, st52⟩ := X49.interfaceBack hx (xi := (⟨"java/util/List", "size", "()I"⟩ : MethodName)) (y := (⟨"java/util/ArrayList", "size", "()I"⟩ : MethodName)) hown (mvT hZ (hw _ (List.mem_of_getElem? (i := 38) rfl))) (mvT hZ (hw _ (List.mem_of_getElem? (i := 39) rfl))) (mvT hZ (hw _ (List.mem_of_getElem? (i := 40) rfl))) (mvT hZ (hw _ (List.mem_of_getElem? (i := 41) rfl))) (mvT hZ (hw _ (List.mem_of_getElem? (i := 42) rfl))) (mvT hZ (hw _ (List.mem_of_getElem? (i := 43) rfl))) (mvT hZ (hw _ (List.mem_of_getElem? (i := 44) rfl))) (mvT hZ (hw _ (List.mem_of_getElem? (i := 45) rfl))) (by decide) (backOf (W := 3) (own_asz l Z a0 hw [] a nn T39.heap n0 Zs53 Q48) hZ (hw _ (List.mem_of_getElem? (i := 46) rfl)) (hw _ (List.mem_of_getElem? (i := 7) rfl)) (by decide) (by decide)) q52a q52b q52c (g := (mkF m 37 #[.val (.ref a), .val (.int cc), .val (.int sz), .val (.ref b3), .val (.int o1)] [(.ref a), (.int o1), (.ref a), (.ref b3)])) rfl (by rw [hml]; rfl) (Steps.refl _) (argsL := []) (rest := [(.int o1), (.ref a), (.ref b3)]) (lenOf own_split_pd2 rfl) rfl (by show 2 * 0 + _ ≤ _; exact Nat.le_of_eq rfl) (hb hby own_split_d37) (fun _ _ => ⟨rfl, R49, (by decide : 3 + 0 ≤ _), (by decide : 18 + 0 ≤ _)⟩)
    dsimp only [Pt.U, Pt.locs, Pt.cells, Pt.slots] at X52 l52 y52 z52 st52 hQ52
    obtain rfl : k52 = 3 := y52
    obtain rfl : n52 = 18 := z52
    obtain ⟨rfl, N52q, R52⟩ := hQ52
    have N52 : Fr n0 L52 := l52 ▸ Fr.app N49 N52q
    refine ownStep (fun _ k => st52.trans k) ?_
    refine ownStep (fun _ k => XS.iload X52.here hx rfl (hb hby own_split_d42) rfl  k) ?_
    refine ownStep (fun _ k => XS.iloadN X52.here hx rfl (hb hby own_split_d44) rfl  k) ?_
    refine ownStep (fun _ k => XS.iadd X52.here hx rfl (hb hby own_split_d45) rfl k) ?_
    show ownGo p.tables e below (T52.setTop (mkF m 46 #[.val (.ref a), .val (.int cc), .val (.int sz), .val (.ref b3), .val (.int o1)] [(.int (o1 + sz)), (.int nn), (.int o1), (.ref a), (.ref b3)])) _
    have Zs55 : n0 ≤ T39.heap.size := Nat.le_trans Z0 KP47.1
    obtain ⟨_, _, ⟨T54, L54, k54, n54⟩, -, X54, ⟨Lc54, hQ54, l54, y54, z54⟩, st54⟩ := Jvm.LawKit.callS X52 hx (y := (⟨"java/lang/Math", "min", "(II)I"⟩ : MethodName)) hown (mvT hZ (hw _ (List.mem_of_getElem? (i := 83) rfl))) (mvT hZ (hw _ (List.mem_of_getElem? (i := 84) rfl))) (mvT hZ (hw _ (List.mem_of_getElem? (i := 3) rfl))) (mvT hZ (hw _ (List.mem_of_getElem? (i := 85) rfl))) (by decide) (backOf (W := 3) (own_mmin l Z a0 hw [] nn (o1 + sz) T39.heap n0 Zs55 ) hZ (hw _ (List.mem_of_getElem? (i := 85) rfl)) (hw _ (List.mem_of_getElem? (i := 3) rfl)) (by decide) (by decide)) (g := (mkF m 46 #[.val (.ref a), .val (.int cc), .val (.int sz), .val (.ref b3), .val (.int o1)] [(.int (o1 + sz)), (.int nn), (.int o1), (.ref a), (.ref b3)])) rfl (by rw [hml]; rfl) (argsL := [(.int nn), (.int (o1 + sz))]) (rest := [(.int o1), (.ref a), (.ref b3)]) (lenOf own_split_pd0 rfl) rfl (by show 2 * 0 + _ ≤ _; exact Nat.le_of_eq rfl) (hb hby own_split_d46) (fun _ _ => ⟨rfl, R52, (by decide : 3 + 0 ≤ _), (by decide : 18 + 0 ≤ _)⟩)
    dsimp only [Pt.U, Pt.locs, Pt.cells, Pt.slots] at X54 l54 y54 z54 st54 hQ54
    obtain rfl : k54 = 3 := y54
    obtain rfl : n54 = 18 := z54
    obtain ⟨rfl, N54q, R54⟩ := hQ54
    have N54 : Fr n0 L54 := l54 ▸ Fr.app N52 N54q
    refine ownStep (fun _ k => st54 _ k) ?_
    show ownGo p.tables e below (T54.setTop (mkF m 49 #[.val (.ref a), .val (.int cc), .val (.int sz), .val (.ref b3), .val (.int o1)] [(.int (own_min nn (o1 + sz))), (.int o1), (.ref a), (.ref b3)])) _
    have Q56 : Fld Z T39.heap a "java/util/AbstractList" "modCount" "I" (.int mc) := ((Q24.ext R25).keep R39 (ninS ne15 nin0))
    have Zs58 : n0 ≤ T39.heap.size := Nat.le_trans Z0 KP47.1
    obtain ⟨cq57, kq57, q57a, q57b, q57c⟩ := isOf hZ R54 Q51
    obtain ⟨_, _, ⟨T57, L57, k57, n57⟩, -, X57, ⟨Lc57, hQ57, l57, y57, z57⟩, st57⟩ := X54.interfaceBack hx (xi := (⟨"java/util/List", "subList", "(II)Ljava/util/List;"⟩ : MethodName)) (y := (⟨"java/util/ArrayList", "subList", "(II)Ljava/util/List;"⟩ : MethodName)) hown (mvT hZ (hw _ (List.mem_of_getElem? (i := 86) rfl))) (mvT hZ (hw _ (List.mem_of_getElem? (i := 87) rfl))) (mvT hZ (hw _ (List.mem_of_getElem? (i := 88) rfl))) (mvT hZ (hw _ (List.mem_of_getElem? (i := 89) rfl))) (mvT hZ (hw _ (List.mem_of_getElem? (i := 90) rfl))) (mvT hZ (hw _ (List.mem_of_getElem? (i := 91) rfl))) (mvT hZ (hw _ (List.mem_of_getElem? (i := 92) rfl))) (mvT hZ (hw _ (List.mem_of_getElem? (i := 45) rfl))) (by decide) (backOf (W := 1) (own_sbl l Z a0 hw [] a mc o1 (own_min nn (o1 + sz)) nn T39.heap n0 Zs58 Q51 Q48 Q56 (own_onn hzp ho1 (by decide) (by decide)) (own_min_le _ _) (own_loe hzp hn7 ho1 (by decide) (by decide) hb1)) hZ (hw _ (List.mem_of_getElem? (i := 93) rfl)) (hw _ (List.mem_of_getElem? (i := 7) rfl)) (by decide) (by decide)) q57a q57b q57c (g := (mkF m 49 #[.val (.ref a), .val (.int cc), .val (.int sz), .val (.ref b3), .val (.int o1)] [(.int (own_min nn (o1 + sz))), (.int o1), (.ref a), (.ref b3)])) rfl (by rw [hml]; rfl) (Steps.refl _) (argsL := [(.int o1), (.int (own_min nn (o1 + sz)))]) (rest := [(.ref b3)]) (lenOf own_split_pd3 rfl) rfl (by show 2 * 0 + _ ≤ _; exact Nat.le_of_eq rfl) (hb hby own_split_d49) (fun _ _ => ⟨rfl, R54, (by decide : 3 + 1 ≤ _), (by decide : 18 + 5 ≤ _)⟩)
    dsimp only [Pt.U, Pt.locs, Pt.cells, Pt.slots] at X57 l57 y57 z57 st57 hQ57
    obtain rfl : k57 = 4 := y57
    obtain rfl : n57 = 23 := z57
    obtain ⟨sl1, rfl, N57q, R57, P59, P60, P61, P62, P63, P64⟩ := hQ57
    have N57 : Fr n0 L57 := l57 ▸ Fr.app N54 N57q
    have gh_sl1 : h0.size ≤ sl1 := Nat.le_trans KP47.1 P64
    have gn_sl1 : n0 ≤ sl1 := Nat.le_trans Z0 gh_sl1
    refine ownStep (fun _ k => st57.trans k) ?_
    have KP65 : Keep h0 T57.heap [] := KP47.ext R57
    show ownGo p.tables e below (T57.setTop (mkF m 54 #[.val (.ref a), .val (.int cc), .val (.int sz), .val (.ref b3), .val (.int o1)] [(.ref sl1), (.ref b3)])) _
    have ne66 : b3 ≠ dd_39 := Nat.ne_of_lt (Nat.lt_of_lt_of_le (Nat.lt_of_lt_of_le Q35.lt (Nat.le_refl _)) P46)
    have Q67 : Exa Z T57.heap b3 "java/util/ArrayList" := ((Q35.keep R39).ext R57)
    have Q68 : Fld Z T57.heap b3 "java/util/ArrayList" "elementData" "[Ljava/lang/Object;" (.ref dd_39) := (P41.ext R57)
    have Q69 : Fld Z T57.heap b3 "java/util/ArrayList" "size" "I" (.int (1 : Int32)) := (P42.ext R57)
    have Q70 : Fld Z T57.heap b3 "java/util/AbstractList" "modCount" "I" (.int ((0 : Int32) + (1 : Int32))) := (P43.ext R57)
    have Q71 : Arv Z T57.heap dd_39 kk_39 (.object "java/lang/Object") (10 : Int32) [(.ref sl0), .null, .null, .null, .null, .null, .null, .null, .null, .null] .null := (P44.ext R57)
    have Zs73 : n0 ≤ T57.heap.size := Nat.le_trans Z0 KP65.1
    obtain ⟨cq72, kq72, q72a, q72b, q72c⟩ := isOf hZ rfl Q67
    obtain ⟨_, _, ⟨T72, L72, k72, n72⟩, -, X72, ⟨Lc72, hQ72, l72, y72, z72⟩, st72⟩ := X57.interfaceBack hx (xi := (⟨"java/util/List", "add", "(Ljava/lang/Object;)Z"⟩ : MethodName)) (y := (⟨"java/util/ArrayList", "add", "(Ljava/lang/Object;)Z"⟩ : MethodName)) hown (mvT hZ (hw _ (List.mem_of_getElem? (i := 120) rfl))) (mvT hZ (hw _ (List.mem_of_getElem? (i := 121) rfl))) (mvT hZ (hw _ (List.mem_of_getElem? (i := 122) rfl))) (mvT hZ (hw _ (List.mem_of_getElem? (i := 123) rfl))) (mvT hZ (hw _ (List.mem_of_getElem? (i := 59) rfl))) (mvT hZ (hw _ (List.mem_of_getElem? (i := 124) rfl))) (mvT hZ (hw _ (List.mem_of_getElem? (i := 125) rfl))) (mvT hZ (hw _ (List.mem_of_getElem? (i := 45) rfl))) (by decide) (backOf (W := 0) (own_al_add_1 l Z a0 hw [] b3 dd_39 kk_39 ((0 : Int32) + (1 : Int32)) (.ref sl0) sl1 T57.heap n0 Zs73 Q67 Q68 Q69 Q70 Q71 P45 gn_b3 gn_dd_39 ne66 (Ins.of_exa P59 (hw _ (List.mem_of_getElem? (i := 126) rfl)))) hZ (hw _ (List.mem_of_getElem? (i := 61) rfl)) (hw _ (List.mem_of_getElem? (i := 7) rfl)) (by decide) (by decide)) q72a q72b q72c (g := (mkF m 54 #[.val (.ref a), .val (.int cc), .val (.int sz), .val (.ref b3), .val (.int o1)] [(.ref sl1), (.ref b3)])) rfl (by rw [hml]; rfl) (Steps.refl _) (argsL := [(.ref sl1)]) (rest := []) (lenOf own_split_pd4 rfl) rfl (by show 2 * 0 + _ ≤ _; exact Nat.le_of_eq rfl) (hb hby own_split_d54) (fun _ _ => ⟨rfl, rfl, (by decide : 4 + 1 ≤ _), (by decide : 23 + 10 ≤ _)⟩)
    dsimp only [Pt.U, Pt.locs, Pt.cells, Pt.slots] at X72 l72 y72 z72 st72 hQ72
    obtain rfl : k72 = 5 := y72
    obtain rfl : n72 = 33 := z72
    obtain ⟨rfl, N72q, R72, P74, P75, P76, P77⟩ := hQ72
    have N72 : Fr n0 L72 := l72 ▸ Fr.app N57 N72q
    refine ownStep (fun _ k => st72.trans k) ?_
    have KP78 : Keep h0 T72.heap [] := KP65.trans R72 (allS (Or.inr gh_b3) (allS (Or.inr gh_dd_39) all0))
    refine ownStep (fun _ k => XS.pop X72.here hx rfl (hb hby own_split_d59) rfl rfl k) ?_
    refine ownStep (fun _ k => XS.iload X72.here hx rfl (hb hby own_split_d60) rfl  k) ?_
    refine ownStep (fun _ k => XS.iloadN X72.here hx rfl (hb hby own_split_d62) rfl  k) ?_
    refine ownStep (fun _ k => XS.iadd X72.here hx rfl (hb hby own_split_d63) rfl k) ?_
    show ownGo p.tables e below (T72.setTop (mkF m 64 #[.val (.ref a), .val (.int cc), .val (.int sz), .val (.ref b3), .val (.int o1)] [(.int (o1 + sz))])) _
    obtain ⟨o2, h_o2, ho2⟩ : ∃ z : Int32, (o1 + sz) = z ∧ z = (2 : Int32) * sz := ⟨_, rfl, own_osum ho1 (by decide)⟩
    rw [h_o2]
    refine ownStep (fun _ k => XS.istore X72.here hx rfl (hb hby own_split_d64) rfl (l' := #[.val (.ref a), .val (.int cc), .val (.int sz), .val (.ref b3), .val (.int o2)]) rfl k) ?_
    refine ownStep (fun _ k => XS.goto X72.here hx rfl (pc0 := 66) (pc' := 21) rfl (hb hby own_split_d66) (by decide) (by decide) k) ?_
    refine ownStep (fun _ k => XS.iload X72.here hx rfl (hb hby own_split_d21) rfl  k) ?_
    refine ownStep (fun _ k => XS.aloadN X72.here hx rfl (hb hby own_split_d23) rfl rfl k) ?_
    show ownGo p.tables e below (T72.setTop (mkF m 24 #[.val (.ref a), .val (.int cc), .val (.int sz), .val (.ref b3), .val (.int o2)] [(.ref a), (.int o2)])) _
    have ne79 : a ≠ dd_39 := Nat.ne_of_lt (Nat.lt_of_lt_of_le (Nat.lt_of_lt_of_le Q19.lt (Nat.le_trans (Nat.le_refl _) R25.1)) P46)
    have Q80 : Fld Z T72.heap a "java/util/ArrayList" "size" "I" (.int nn) := ((Q48.ext R57).keep R72 (ninS ne15 (ninS ne79 nin0)))
    have Zs82 : n0 ≤ T72.heap.size := Nat.le_trans Z0 KP78.1
    have Q83 : Exa Z T72.heap a "java/util/ArrayList" := ((Q51.ext R57).keep R72)
    obtain ⟨cq81, kq81, q81a, q81b, q81c⟩ := isOf hZ rfl Q83
    obtain ⟨_, _, ⟨T81, L81, k81, n81⟩, -, X81, ⟨Lc81, hQ81, l81, y81, z81⟩, st81⟩ := X72.interfaceBack hx (xi := (⟨"java/util/List", "size", "()I"⟩ : MethodName)) (y := (⟨"java/util/ArrayList", "size", "()I"⟩ : MethodName)) hown (mvT hZ (hw _ (List.mem_of_getElem? (i := 38) rfl))) (mvT hZ (hw _ (List.mem_of_getElem? (i := 39) rfl))) (mvT hZ (hw _ (List.mem_of_getElem? (i := 40) rfl))) (mvT hZ (hw _ (List.mem_of_getElem? (i := 41) rfl))) (mvT hZ (hw _ (List.mem_of_getElem? (i := 42) rfl))) (mvT hZ (hw _ (List.mem_of_getElem? (i := 43) rfl))) (mvT hZ (hw _ (List.mem_of_getElem? (i := 44) rfl))) (mvT hZ (hw _ (List.mem_of_getElem? (i := 45) rfl))) (by decide) (backOf (W := 1) (own_asz l Z a0 hw [] a nn T72.heap n0 Zs82 Q80) hZ (hw _ (List.mem_of_getElem? (i := 46) rfl)) (hw _ (List.mem_of_getElem? (i := 7) rfl)) (by decide) (by decide)) q81a q81b q81c (g := (mkF m 24 #[.val (.ref a), .val (.int cc), .val (.int sz), .val (.ref b3), .val (.int o2)] [(.ref a), (.int o2)])) rfl (by rw [hml]; rfl) (Steps.refl _) (argsL := []) (rest := [(.int o2)]) (lenOf own_split_pd2 rfl) rfl (by show 2 * 0 + _ ≤ _; exact Nat.le_of_eq rfl) (hb hby own_split_d24) (fun _ _ => ⟨rfl, rfl, (by decide : 5 + 0 ≤ _), (by decide : 33 + 0 ≤ _)⟩)
    dsimp only [Pt.U, Pt.locs, Pt.cells, Pt.slots] at X81 l81 y81 z81 st81 hQ81
    obtain rfl : k81 = 5 := y81
    obtain rfl : n81 = 33 := z81
    obtain ⟨rfl, N81q, R81⟩ := hQ81
    have N81 : Fr n0 L81 := l81 ▸ Fr.app N72 N81q
    refine ownStep (fun _ k => st81.trans k) ?_
    show ownGo p.tables e below (T81.setTop (mkF m 29 #[.val (.ref a), .val (.int cc), .val (.int sz), .val (.ref b3), .val (.int o2)] [(.int nn), (.int o2)])) _
    by_cases hb2 : o2 < nn
    · skip
      refine ownStep (fun _ k => XS.icmpNo X81.here hx rfl (hb hby own_split_d29) rfl (tlt (hb2 : o2 < nn)).2.1 k) ?_
      refine ownStep (fun _ k => XS.aloadN X81.here hx rfl (hb hby own_split_d32) rfl rfl k) ?_
      refine ownStep (fun _ k => XS.aloadN X81.here hx rfl (hb hby own_split_d33) rfl rfl k) ?_
      refine ownStep (fun _ k => XS.iload X81.here hx rfl (hb hby own_split_d34) rfl  k) ?_
      refine ownStep (fun _ k => XS.aloadN X81.here hx rfl (hb hby own_split_d36) rfl rfl k) ?_
      show ownGo p.tables e below (T81.setTop (mkF m 37 #[.val (.ref a), .val (.int cc), .val (.int sz), .val (.ref b3), .val (.int o2)] [(.ref a), (.int o2), (.ref a), (.ref b3)])) _
      have Zs85 : n0 ≤ T72.heap.size := Nat.le_trans Z0 KP78.1
      obtain ⟨cq84, kq84, q84a, q84b, q84c⟩ := isOf hZ R81 Q83
      obtain ⟨_, _, ⟨T84, L84, k84, n84⟩, -, X84, ⟨Lc84, hQ84, l84, y84, z84⟩, st84⟩ := X81.interfaceBack hx (xi := (⟨"java/util/List", "size", "()I"⟩ : MethodName)) (y := (⟨"java/util/ArrayList", "size", "()I"⟩ : MethodName)) hown (mvT hZ (hw _ (List.mem_of_getElem? (i := 38) rfl))) (mvT hZ (hw _ (List.mem_of_getElem? (i := 39) rfl))) (mvT hZ (hw _ (List.mem_of_getElem? (i := 40) rfl))) (mvT hZ (hw _ (List.mem_of_getElem? (i := 41) rfl))) (mvT hZ (hw _ (List.mem_of_getElem? (i := 42) rfl))) (mvT hZ (hw _ (List.mem_of_getElem? (i := 43) rfl))) (mvT hZ (hw _ (List.mem_of_getElem? (i := 44) rfl))) (mvT hZ (hw _ (List.mem_of_getElem? (i := 45) rfl))) (by decide) (backOf (W := 3) (own_asz l Z a0 hw [] a nn T72.heap n0 Zs85 Q80) hZ (hw _ (List.mem_of_getElem? (i := 46) rfl)) (hw _ (List.mem_of_getElem? (i := 7) rfl)) (by decide) (by decide)) q84a q84b q84c (g := (mkF m 37 #[.val (.ref a), .val (.int cc), .val (.int sz), .val (.ref b3), .val (.int o2)] [(.ref a), (.int o2), (.ref a), (.ref b3)])) rfl (by rw [hml]; rfl) (Steps.refl _) (argsL := []) (rest := [(.int o2), (.ref a), (.ref b3)]) (lenOf own_split_pd2 rfl) rfl (by show 2 * 0 + _ ≤ _; exact Nat.le_of_eq rfl) (hb hby own_split_d37) (fun _ _ => ⟨rfl, R81, (by decide : 5 + 0 ≤ _), (by decide : 33 + 0 ≤ _)⟩)
      dsimp only [Pt.U, Pt.locs, Pt.cells, Pt.slots] at X84 l84 y84 z84 st84 hQ84
      obtain rfl : k84 = 5 := y84
      obtain rfl : n84 = 33 := z84
      obtain ⟨rfl, N84q, R84⟩ := hQ84
      have N84 : Fr n0 L84 := l84 ▸ Fr.app N81 N84q
      refine ownStep (fun _ k => st84.trans k) ?_
      refine ownStep (fun _ k => XS.iload X84.here hx rfl (hb hby own_split_d42) rfl  k) ?_
      refine ownStep (fun _ k => XS.iloadN X84.here hx rfl (hb hby own_split_d44) rfl  k) ?_
      refine ownStep (fun _ k => XS.iadd X84.here hx rfl (hb hby own_split_d45) rfl k) ?_
      show ownGo p.tables e below (T84.setTop (mkF m 46 #[.val (.ref a), .val (.int cc), .val (.int sz), .val (.ref b3), .val (.int o2)] [(.int (o2 + sz)), (.int nn), (.int o2), (.ref a), (.ref b3)])) _
      have Zs87 : n0 ≤ T72.heap.size := Nat.le_trans Z0 KP78.1
      obtain ⟨_, _, ⟨T86, L86, k86, n86⟩, -, X86, ⟨Lc86, hQ86, l86, y86, z86⟩, st86⟩ := Jvm.LawKit.callS X84 hx (y := (⟨"java/lang/Math", "min", "(II)I"⟩ : MethodName)) hown (mvT hZ (hw _ (List.mem_of_getElem? (i := 83) rfl))) (mvT hZ (hw _ (List.mem_of_getElem? (i := 84) rfl))) (mvT hZ (hw _ (List.mem_of_getElem? (i := 3) rfl))) (mvT hZ (hw _ (List.mem_of_getElem? (i := 85) rfl))) (by decide) (backOf (W := 3) (own_mmin l Z a0 hw [] nn (o2 + sz) T72.heap n0 Zs87 ) hZ (hw _ (List.mem_of_getElem? (i := 85) rfl)) (hw _ (List.mem_of_getElem? (i := 3) rfl)) (by decide) (by decide)) (g := (mkF m 46 #[.val (.ref a), .val (.int cc), .val (.int sz), .val (.ref b3), .val (.int o2)] [(.int (o2 + sz)), (.int nn), (.int o2), (.ref a), (.ref b3)])) rfl (by rw [hml]; rfl) (argsL := [(.int nn), (.int (o2 + sz))]) (rest := [(.int o2), (.ref a), (.ref b3)]) (lenOf own_split_pd0 rfl) rfl (by show 2 * 0 + _ ≤ _; exact Nat.le_of_eq rfl) (hb hby own_split_d46) (fun _ _ => ⟨rfl, R84, (by decide : 5 + 0 ≤ _), (by decide : 33 + 0 ≤ _)⟩)
      dsimp only [Pt.U, Pt.locs, Pt.cells, Pt.slots] at X86 l86 y86 z86 st86 hQ86
      obtain rfl : k86 = 5 := y86
      obtain rfl : n86 = 33 := z86
      obtain ⟨rfl, N86q, R86⟩ := hQ86
      have N86 : Fr n0 L86 := l86 ▸ Fr.app N84 N86q
      refine ownStep (fun _ k => st86 _ k) ?_
      show ownGo p.tables e below (T86.setTop (mkF m 49 #[.val (.ref a), .val (.int cc), .val (.int sz), .val (.ref b3), .val (.int o2)] [(.int (own_min nn (o2 + sz))), (.int o2), (.ref a), (.ref b3)])) _
      have Q88 : Fld Z T72.heap a "java/util/AbstractList" "modCount" "I" (.int mc) := ((Q56.ext R57).keep R72 (ninS ne15 (ninS ne79 nin0)))
      have Zs90 : n0 ≤ T72.heap.size := Nat.le_trans Z0 KP78.1
      obtain ⟨cq89, kq89, q89a, q89b, q89c⟩ := isOf hZ R86 Q83
      obtain ⟨_, _, ⟨T89, L89, k89, n89⟩, -, X89, ⟨Lc89, hQ89, l89, y89, z89⟩, st89⟩ := X86.interfaceBack hx (xi := (⟨"java/util/List", "subList", "(II)Ljava/util/List;"⟩ : MethodName)) (y := (⟨"java/util/ArrayList", "subList", "(II)Ljava/util/List;"⟩ : MethodName)) hown (mvT hZ (hw _ (List.mem_of_getElem? (i := 86) rfl))) (mvT hZ (hw _ (List.mem_of_getElem? (i := 87) rfl))) (mvT hZ (hw _ (List.mem_of_getElem? (i := 88) rfl))) (mvT hZ (hw _ (List.mem_of_getElem? (i := 89) rfl))) (mvT hZ (hw _ (List.mem_of_getElem? (i := 90) rfl))) (mvT hZ (hw _ (List.mem_of_getElem? (i := 91) rfl))) (mvT hZ (hw _ (List.mem_of_getElem? (i := 92) rfl))) (mvT hZ (hw _ (List.mem_of_getElem? (i := 45) rfl))) (by decide) (backOf (W := 1) (own_sbl l Z a0 hw [] a mc o2 (own_min nn (o2 + sz)) nn T72.heap n0 Zs90 Q83 Q80 Q88 (own_onn hzp ho2 (by decide) (by decide)) (own_min_le _ _) (own_loe hzp hn7 ho2 (by decide) (by decide) hb2)) hZ (hw _ (List.mem_of_getElem? (i := 93) rfl)) (hw _ (List.mem_of_getElem? (i := 7) rfl)) (by decide) (by decide)) q89a q89b q89c (g := (mkF m 49 #[.val (.ref a), .val (.int cc), .val (.int sz), .val (.ref b3), .val (.int o2)] [(.int (own_min nn (o2 + sz))), (.int o2), (.ref a), (.ref b3)])) rfl (by rw [hml]; rfl) (Steps.refl _) (argsL := [(.int o2), (.int (own_min nn (o2 + sz)))]) (rest := [(.ref b3)]) (lenOf own_split_pd3 rfl) rfl (by show 2 * 0 + _ ≤ _; exact Nat.le_of_eq rfl) (hb hby own_split_d49) (fun _ _ => ⟨rfl, R86, (by decide : 5 + 1 ≤ _), (by decide : 33 + 5 ≤ _)⟩)
      dsimp only [Pt.U, Pt.locs, Pt.cells, Pt.slots] at X89 l89 y89 z89 st89 hQ89
      obtain rfl : k89 = 6 := y89
      obtain rfl : n89 = 38 := z89
      obtain ⟨sl2, rfl, N89q, R89, P91, P92, P93, P94, P95, P96⟩ := hQ89
      have N89 : Fr n0 L89 := l89 ▸ Fr.app N86 N89q
      have gh_sl2 : h0.size ≤ sl2 := Nat.le_trans KP78.1 P96
      have gn_sl2 : n0 ≤ sl2 := Nat.le_trans Z0 gh_sl2
      refine ownStep (fun _ k => st89.trans k) ?_
      have KP97 : Keep h0 T89.heap [] := KP78.ext R89
      show ownGo p.tables e below (T89.setTop (mkF m 54 #[.val (.ref a), .val (.int cc), .val (.int sz), .val (.ref b3), .val (.int o2)] [(.ref sl2), (.ref b3)])) _
      have Q98 : Exa Z T89.heap b3 "java/util/ArrayList" := ((Q67.keep R72).ext R89)
      have Q99 : Fld Z T89.heap b3 "java/util/ArrayList" "elementData" "[Ljava/lang/Object;" (.ref dd_39) := (P74.ext R89)
      have Q100 : Fld Z T89.heap b3 "java/util/ArrayList" "size" "I" (.int (2 : Int32)) := (P75.ext R89)
      have Q101 : Fld Z T89.heap b3 "java/util/AbstractList" "modCount" "I" (.int (((0 : Int32) + (1 : Int32)) + (1 : Int32))) := (P76.ext R89)
      have Q102 : Arv Z T89.heap dd_39 kk_39 (.object "java/lang/Object") (10 : Int32) [(.ref sl0), (.ref sl1), .null, .null, .null, .null, .null, .null, .null, .null] .null := (P77.ext R89)
      have Zs104 : n0 ≤ T89.heap.size := Nat.le_trans Z0 KP97.1
      obtain ⟨cq103, kq103, q103a, q103b, q103c⟩ := isOf hZ rfl Q98
      obtain ⟨_, _, ⟨T103, L103, k103, n103⟩, -, X103, ⟨Lc103, hQ103, l103, y103, z103⟩, st103⟩ := X89.interfaceBack hx (xi := (⟨"java/util/List", "add", "(Ljava/lang/Object;)Z"⟩ : MethodName)) (y := (⟨"java/util/ArrayList", "add", "(Ljava/lang/Object;)Z"⟩ : MethodName)) hown (mvT hZ (hw _ (List.mem_of_getElem? (i := 120) rfl))) (mvT hZ (hw _ (List.mem_of_getElem? (i := 121) rfl))) (mvT hZ (hw _ (List.mem_of_getElem? (i := 122) rfl))) (mvT hZ (hw _ (List.mem_of_getElem? (i := 123) rfl))) (mvT hZ (hw _ (List.mem_of_getElem? (i := 59) rfl))) (mvT hZ (hw _ (List.mem_of_getElem? (i := 124) rfl))) (mvT hZ (hw _ (List.mem_of_getElem? (i := 125) rfl))) (mvT hZ (hw _ (List.mem_of_getElem? (i := 45) rfl))) (by decide) (backOf (W := 0) (own_al_add_2 l Z a0 hw [] b3 dd_39 kk_39 (((0 : Int32) + (1 : Int32)) + (1 : Int32)) (.ref sl0) (.ref sl1) sl2 T89.heap n0 Zs104 Q98 Q99 Q100 Q101 Q102 P45 gn_b3 gn_dd_39 ne66 (Ins.of_exa P91 (hw _ (List.mem_of_getElem? (i := 126) rfl)))) hZ (hw _ (List.mem_of_getElem? (i := 61) rfl)) (hw _ (List.mem_of_getElem? (i := 7) rfl)) (by decide) (by decide)) q103a q103b q103c (g := (mkF m 54 #[.val (.ref a), .val (.int cc), .val (.int sz), .val (.ref b3), .val (.int o2)] [(.ref sl2), (.ref b3)])) rfl (by rw [hml]; rfl) (Steps.refl _) (argsL := [(.ref sl2)]) (rest := []) (lenOf own_split_pd4 rfl) rfl (by show 2 * 0 + _ ≤ _; exact Nat.le_of_eq rfl) (hb hby own_split_d54) (fun _ _ => ⟨rfl, rfl, (by decide : 6 + 1 ≤ _), (by decide : 38 + 10 ≤ _)⟩)
      dsimp only [Pt.U, Pt.locs, Pt.cells, Pt.slots] at X103 l103 y103 z103 st103 hQ103
      obtain rfl : k103 = 7 := y103
      obtain rfl : n103 = 48 := z103
      obtain ⟨rfl, N103q, R103, P105, P106, P107, P108⟩ := hQ103
      have N103 : Fr n0 L103 := l103 ▸ Fr.app N89 N103q
      refine ownStep (fun _ k => st103.trans k) ?_
      have KP109 : Keep h0 T103.heap [] := KP97.trans R103 (allS (Or.inr gh_b3) (allS (Or.inr gh_dd_39) all0))
      refine ownStep (fun _ k => XS.pop X103.here hx rfl (hb hby own_split_d59) rfl rfl k) ?_
      refine ownStep (fun _ k => XS.iload X103.here hx rfl (hb hby own_split_d60) rfl  k) ?_
      refine ownStep (fun _ k => XS.iloadN X103.here hx rfl (hb hby own_split_d62) rfl  k) ?_
      refine ownStep (fun _ k => XS.iadd X103.here hx rfl (hb hby own_split_d63) rfl k) ?_
      show ownGo p.tables e below (T103.setTop (mkF m 64 #[.val (.ref a), .val (.int cc), .val (.int sz), .val (.ref b3), .val (.int o2)] [(.int (o2 + sz))])) _
      obtain ⟨o3, h_o3, ho3⟩ : ∃ z : Int32, (o2 + sz) = z ∧ z = (3 : Int32) * sz := ⟨_, rfl, own_osum ho2 (by decide)⟩
      rw [h_o3]
      refine ownStep (fun _ k => XS.istore X103.here hx rfl (hb hby own_split_d64) rfl (l' := #[.val (.ref a), .val (.int cc), .val (.int sz), .val (.ref b3), .val (.int o3)]) rfl k) ?_
      refine ownStep (fun _ k => XS.goto X103.here hx rfl (pc0 := 66) (pc' := 21) rfl (hb hby own_split_d66) (by decide) (by decide) k) ?_
      refine ownStep (fun _ k => XS.iload X103.here hx rfl (hb hby own_split_d21) rfl  k) ?_
      refine ownStep (fun _ k => XS.aloadN X103.here hx rfl (hb hby own_split_d23) rfl rfl k) ?_
      show ownGo p.tables e below (T103.setTop (mkF m 24 #[.val (.ref a), .val (.int cc), .val (.int sz), .val (.ref b3), .val (.int o3)] [(.ref a), (.int o3)])) _
      have Q110 : Fld Z T103.heap a "java/util/ArrayList" "size" "I" (.int nn) := ((Q80.ext R89).keep R103 (ninS ne15 (ninS ne79 nin0)))
      have Zs112 : n0 ≤ T103.heap.size := Nat.le_trans Z0 KP109.1
      have Q113 : Exa Z T103.heap a "java/util/ArrayList" := ((Q83.ext R89).keep R103)
      obtain ⟨cq111, kq111, q111a, q111b, q111c⟩ := isOf hZ rfl Q113
      obtain ⟨_, _, ⟨T111, L111, k111, n111⟩, -, X111, ⟨Lc111, hQ111, l111, y111, z111⟩, st111⟩ := X103.interfaceBack hx (xi := (⟨"java/util/List", "size", "()I"⟩ : MethodName)) (y := (⟨"java/util/ArrayList", "size", "()I"⟩ : MethodName)) hown (mvT hZ (hw _ (List.mem_of_getElem? (i := 38) rfl))) (mvT hZ (hw _ (List.mem_of_getElem? (i := 39) rfl))) (mvT hZ (hw _ (List.mem_of_getElem? (i := 40) rfl))) (mvT hZ (hw _ (List.mem_of_getElem? (i := 41) rfl))) (mvT hZ (hw _ (List.mem_of_getElem? (i := 42) rfl))) (mvT hZ (hw _ (List.mem_of_getElem? (i := 43) rfl))) (mvT hZ (hw _ (List.mem_of_getElem? (i := 44) rfl))) (mvT hZ (hw _ (List.mem_of_getElem? (i := 45) rfl))) (by decide) (backOf (W := 1) (own_asz l Z a0 hw [] a nn T103.heap n0 Zs112 Q110) hZ (hw _ (List.mem_of_getElem? (i := 46) rfl)) (hw _ (List.mem_of_getElem? (i := 7) rfl)) (by decide) (by decide)) q111a q111b q111c (g := (mkF m 24 #[.val (.ref a), .val (.int cc), .val (.int sz), .val (.ref b3), .val (.int o3)] [(.ref a), (.int o3)])) rfl (by rw [hml]; rfl) (Steps.refl _) (argsL := []) (rest := [(.int o3)]) (lenOf own_split_pd2 rfl) rfl (by show 2 * 0 + _ ≤ _; exact Nat.le_of_eq rfl) (hb hby own_split_d24) (fun _ _ => ⟨rfl, rfl, (by decide : 7 + 0 ≤ _), (by decide : 48 + 0 ≤ _)⟩)
      dsimp only [Pt.U, Pt.locs, Pt.cells, Pt.slots] at X111 l111 y111 z111 st111 hQ111
      obtain rfl : k111 = 7 := y111
      obtain rfl : n111 = 48 := z111
      obtain ⟨rfl, N111q, R111⟩ := hQ111
      have N111 : Fr n0 L111 := l111 ▸ Fr.app N103 N111q
      refine ownStep (fun _ k => st111.trans k) ?_
      show ownGo p.tables e below (T111.setTop (mkF m 29 #[.val (.ref a), .val (.int cc), .val (.int sz), .val (.ref b3), .val (.int o3)] [(.int nn), (.int o3)])) _
      by_cases hb3 : o3 < nn
      · skip
        refine ownStep (fun _ k => XS.icmpNo X111.here hx rfl (hb hby own_split_d29) rfl (tlt (hb3 : o3 < nn)).2.1 k) ?_
        refine ownStep (fun _ k => XS.aloadN X111.here hx rfl (hb hby own_split_d32) rfl rfl k) ?_
        refine ownStep (fun _ k => XS.aloadN X111.here hx rfl (hb hby own_split_d33) rfl rfl k) ?_
        refine ownStep (fun _ k => XS.iload X111.here hx rfl (hb hby own_split_d34) rfl  k) ?_
        refine ownStep (fun _ k => XS.aloadN X111.here hx rfl (hb hby own_split_d36) rfl rfl k) ?_
        show ownGo p.tables e below (T111.setTop (mkF m 37 #[.val (.ref a), .val (.int cc), .val (.int sz), .val (.ref b3), .val (.int o3)] [(.ref a), (.int o3), (.ref a), (.ref b3)])) _
        have Zs115 : n0 ≤ T103.heap.size := Nat.le_trans Z0 KP109.1
        obtain ⟨cq114, kq114, q114a, q114b, q114c⟩ := isOf hZ R111 Q113
        obtain ⟨_, _, ⟨T114, L114, k114, n114⟩, -, X114, ⟨Lc114, hQ114, l114, y114, z114⟩, st114⟩ := X111.interfaceBack hx (xi := (⟨"java/util/List", "size", "()I"⟩ : MethodName)) (y := (⟨"java/util/ArrayList", "size", "()I"⟩ : MethodName)) hown (mvT hZ (hw _ (List.mem_of_getElem? (i := 38) rfl))) (mvT hZ (hw _ (List.mem_of_getElem? (i := 39) rfl))) (mvT hZ (hw _ (List.mem_of_getElem? (i := 40) rfl))) (mvT hZ (hw _ (List.mem_of_getElem? (i := 41) rfl))) (mvT hZ (hw _ (List.mem_of_getElem? (i := 42) rfl))) (mvT hZ (hw _ (List.mem_of_getElem? (i := 43) rfl))) (mvT hZ (hw _ (List.mem_of_getElem? (i := 44) rfl))) (mvT hZ (hw _ (List.mem_of_getElem? (i := 45) rfl))) (by decide) (backOf (W := 3) (own_asz l Z a0 hw [] a nn T103.heap n0 Zs115 Q110) hZ (hw _ (List.mem_of_getElem? (i := 46) rfl)) (hw _ (List.mem_of_getElem? (i := 7) rfl)) (by decide) (by decide)) q114a q114b q114c (g := (mkF m 37 #[.val (.ref a), .val (.int cc), .val (.int sz), .val (.ref b3), .val (.int o3)] [(.ref a), (.int o3), (.ref a), (.ref b3)])) rfl (by rw [hml]; rfl) (Steps.refl _) (argsL := []) (rest := [(.int o3), (.ref a), (.ref b3)]) (lenOf own_split_pd2 rfl) rfl (by show 2 * 0 + _ ≤ _; exact Nat.le_of_eq rfl) (hb hby own_split_d37) (fun _ _ => ⟨rfl, R111, (by decide : 7 + 0 ≤ _), (by decide : 48 + 0 ≤ _)⟩)
        dsimp only [Pt.U, Pt.locs, Pt.cells, Pt.slots] at X114 l114 y114 z114 st114 hQ114
        obtain rfl : k114 = 7 := y114
        obtain rfl : n114 = 48 := z114
        obtain ⟨rfl, N114q, R114⟩ := hQ114
        have N114 : Fr n0 L114 := l114 ▸ Fr.app N111 N114q
        refine ownStep (fun _ k => st114.trans k) ?_
        refine ownStep (fun _ k => XS.iload X114.here hx rfl (hb hby own_split_d42) rfl  k) ?_
        refine ownStep (fun _ k => XS.iloadN X114.here hx rfl (hb hby own_split_d44) rfl  k) ?_
        refine ownStep (fun _ k => XS.iadd X114.here hx rfl (hb hby own_split_d45) rfl k) ?_
        show ownGo p.tables e below (T114.setTop (mkF m 46 #[.val (.ref a), .val (.int cc), .val (.int sz), .val (.ref b3), .val (.int o3)] [(.int (o3 + sz)), (.int nn), (.int o3), (.ref a), (.ref b3)])) _
        have Zs117 : n0 ≤ T103.heap.size := Nat.le_trans Z0 KP109.1
        obtain ⟨_, _, ⟨T116, L116, k116, n116⟩, -, X116, ⟨Lc116, hQ116, l116, y116, z116⟩, st116⟩ := Jvm.LawKit.callS X114 hx (y := (⟨"java/lang/Math", "min", "(II)I"⟩ : MethodName)) hown (mvT hZ (hw _ (List.mem_of_getElem? (i := 83) rfl))) (mvT hZ (hw _ (List.mem_of_getElem? (i := 84) rfl))) (mvT hZ (hw _ (List.mem_of_getElem? (i := 3) rfl))) (mvT hZ (hw _ (List.mem_of_getElem? (i := 85) rfl))) (by decide) (backOf (W := 3) (own_mmin l Z a0 hw [] nn (o3 + sz) T103.heap n0 Zs117 ) hZ (hw _ (List.mem_of_getElem? (i := 85) rfl)) (hw _ (List.mem_of_getElem? (i := 3) rfl)) (by decide) (by decide)) (g := (mkF m 46 #[.val (.ref a), .val (.int cc), .val (.int sz), .val (.ref b3), .val (.int o3)] [(.int (o3 + sz)), (.int nn), (.int o3), (.ref a), (.ref b3)])) rfl (by rw [hml]; rfl) (argsL := [(.int nn), (.int (o3 + sz))]) (rest := [(.int o3), (.ref a), (.ref b3)]) (lenOf own_split_pd0 rfl) rfl (by show 2 * 0 + _ ≤ _; exact Nat.le_of_eq rfl) (hb hby own_split_d46) (fun _ _ => ⟨rfl, R114, (by decide : 7 + 0 ≤ _), (by decide : 48 + 0 ≤ _)⟩)
        dsimp only [Pt.U, Pt.locs, Pt.cells, Pt.slots] at X116 l116 y116 z116 st116 hQ116
        obtain rfl : k116 = 7 := y116
        obtain rfl : n116 = 48 := z116
        obtain ⟨rfl, N116q, R116⟩ := hQ116
        have N116 : Fr n0 L116 := l116 ▸ Fr.app N114 N116q
        refine ownStep (fun _ k => st116 _ k) ?_
        show ownGo p.tables e below (T116.setTop (mkF m 49 #[.val (.ref a), .val (.int cc), .val (.int sz), .val (.ref b3), .val (.int o3)] [(.int (own_min nn (o3 + sz))), (.int o3), (.ref a), (.ref b3)])) _
        have Q118 : Fld Z T103.heap a "java/util/AbstractList" "modCount" "I" (.int mc) := ((Q88.ext R89).keep R103 (ninS ne15 (ninS ne79 nin0)))
        have Zs120 : n0 ≤ T103.heap.size := Nat.le_trans Z0 KP109.1
        obtain ⟨cq119, kq119, q119a, q119b, q119c⟩ := isOf hZ R116 Q113
        obtain ⟨_, _, ⟨T119, L119, k119, n119⟩, -, X119, ⟨Lc119, hQ119, l119, y119, z119⟩, st119⟩ := X116.interfaceBack hx (xi := (⟨"java/util/List", "subList", "(II)Ljava/util/List;"⟩ : MethodName)) (y := (⟨"java/util/ArrayList", "subList", "(II)Ljava/util/List;"⟩ : MethodName)) hown (mvT hZ (hw _ (List.mem_of_getElem? (i := 86) rfl))) (mvT hZ (hw _ (List.mem_of_getElem? (i := 87) rfl))) (mvT hZ (hw _ (List.mem_of_getElem? (i := 88) rfl))) (mvT hZ (hw _ (List.mem_of_getElem? (i := 89) rfl))) (mvT hZ (hw _ (List.mem_of_getElem? (i := 90) rfl))) (mvT hZ (hw _ (List.mem_of_getElem? (i := 91) rfl))) (mvT hZ (hw _ (List.mem_of_getElem? (i := 92) rfl))) (mvT hZ (hw _ (List.mem_of_getElem? (i := 45) rfl))) (by decide) (backOf (W := 1) (own_sbl l Z a0 hw [] a mc o3 (own_min nn (o3 + sz)) nn T103.heap n0 Zs120 Q113 Q110 Q118 (own_onn hzp ho3 (by decide) (by decide)) (own_min_le _ _) (own_loe hzp hn7 ho3 (by decide) (by decide) hb3)) hZ (hw _ (List.mem_of_getElem? (i := 93) rfl)) (hw _ (List.mem_of_getElem? (i := 7) rfl)) (by decide) (by decide)) q119a q119b q119c (g := (mkF m 49 #[.val (.ref a), .val (.int cc), .val (.int sz), .val (.ref b3), .val (.int o3)] [(.int (own_min nn (o3 + sz))), (.int o3), (.ref a), (.ref b3)])) rfl (by rw [hml]; rfl) (Steps.refl _) (argsL := [(.int o3), (.int (own_min nn (o3 + sz)))]) (rest := [(.ref b3)]) (lenOf own_split_pd3 rfl) rfl (by show 2 * 0 + _ ≤ _; exact Nat.le_of_eq rfl) (hb hby own_split_d49) (fun _ _ => ⟨rfl, R116, (by decide : 7 + 1 ≤ _), (by decide : 48 + 5 ≤ _)⟩)
        dsimp only [Pt.U, Pt.locs, Pt.cells, Pt.slots] at X119 l119 y119 z119 st119 hQ119
        obtain rfl : k119 = 8 := y119
        obtain rfl : n119 = 53 := z119
        obtain ⟨sl3, rfl, N119q, R119, P121, P122, P123, P124, P125, P126⟩ := hQ119
        have N119 : Fr n0 L119 := l119 ▸ Fr.app N116 N119q
        have gh_sl3 : h0.size ≤ sl3 := Nat.le_trans KP109.1 P126
        have gn_sl3 : n0 ≤ sl3 := Nat.le_trans Z0 gh_sl3
        refine ownStep (fun _ k => st119.trans k) ?_
        have KP127 : Keep h0 T119.heap [] := KP109.ext R119
        show ownGo p.tables e below (T119.setTop (mkF m 54 #[.val (.ref a), .val (.int cc), .val (.int sz), .val (.ref b3), .val (.int o3)] [(.ref sl3), (.ref b3)])) _
        have Q128 : Exa Z T119.heap b3 "java/util/ArrayList" := ((Q98.keep R103).ext R119)
        have Q129 : Fld Z T119.heap b3 "java/util/ArrayList" "elementData" "[Ljava/lang/Object;" (.ref dd_39) := (P105.ext R119)
        have Q130 : Fld Z T119.heap b3 "java/util/ArrayList" "size" "I" (.int (3 : Int32)) := (P106.ext R119)
        have Q131 : Fld Z T119.heap b3 "java/util/AbstractList" "modCount" "I" (.int ((((0 : Int32) + (1 : Int32)) + (1 : Int32)) + (1 : Int32))) := (P107.ext R119)
        have Q132 : Arv Z T119.heap dd_39 kk_39 (.object "java/lang/Object") (10 : Int32) [(.ref sl0), (.ref sl1), (.ref sl2), .null, .null, .null, .null, .null, .null, .null] .null := (P108.ext R119)
        have Zs134 : n0 ≤ T119.heap.size := Nat.le_trans Z0 KP127.1
        obtain ⟨cq133, kq133, q133a, q133b, q133c⟩ := isOf hZ rfl Q128
        obtain ⟨_, _, ⟨T133, L133, k133, n133⟩, -, X133, ⟨Lc133, hQ133, l133, y133, z133⟩, st133⟩ := X119.interfaceBack hx (xi := (⟨"java/util/List", "add", "(Ljava/lang/Object;)Z"⟩ : MethodName)) (y := (⟨"java/util/ArrayList", "add", "(Ljava/lang/Object;)Z"⟩ : MethodName)) hown (mvT hZ (hw _ (List.mem_of_getElem? (i := 120) rfl))) (mvT hZ (hw _ (List.mem_of_getElem? (i := 121) rfl))) (mvT hZ (hw _ (List.mem_of_getElem? (i := 122) rfl))) (mvT hZ (hw _ (List.mem_of_getElem? (i := 123) rfl))) (mvT hZ (hw _ (List.mem_of_getElem? (i := 59) rfl))) (mvT hZ (hw _ (List.mem_of_getElem? (i := 124) rfl))) (mvT hZ (hw _ (List.mem_of_getElem? (i := 125) rfl))) (mvT hZ (hw _ (List.mem_of_getElem? (i := 45) rfl))) (by decide) (backOf (W := 0) (own_al_add_3 l Z a0 hw [] b3 dd_39 kk_39 ((((0 : Int32) + (1 : Int32)) + (1 : Int32)) + (1 : Int32)) (.ref sl0) (.ref sl1) (.ref sl2) sl3 T119.heap n0 Zs134 Q128 Q129 Q130 Q131 Q132 P45 gn_b3 gn_dd_39 ne66 (Ins.of_exa P121 (hw _ (List.mem_of_getElem? (i := 126) rfl)))) hZ (hw _ (List.mem_of_getElem? (i := 61) rfl)) (hw _ (List.mem_of_getElem? (i := 7) rfl)) (by decide) (by decide)) q133a q133b q133c (g := (mkF m 54 #[.val (.ref a), .val (.int cc), .val (.int sz), .val (.ref b3), .val (.int o3)] [(.ref sl3), (.ref b3)])) rfl (by rw [hml]; rfl) (Steps.refl _) (argsL := [(.ref sl3)]) (rest := []) (lenOf own_split_pd4 rfl) rfl (by show 2 * 0 + _ ≤ _; exact Nat.le_of_eq rfl) (hb hby own_split_d54) (fun _ _ => ⟨rfl, rfl, (by decide : 8 + 1 ≤ _), (by decide : 53 + 10 ≤ _)⟩)
        dsimp only [Pt.U, Pt.locs, Pt.cells, Pt.slots] at X133 l133 y133 z133 st133 hQ133
        obtain rfl : k133 = 9 := y133
        obtain rfl : n133 = 63 := z133
        obtain ⟨rfl, N133q, R133, P135, P136, P137, P138⟩ := hQ133
        have N133 : Fr n0 L133 := l133 ▸ Fr.app N119 N133q
        refine ownStep (fun _ k => st133.trans k) ?_
        have KP139 : Keep h0 T133.heap [] := KP127.trans R133 (allS (Or.inr gh_b3) (allS (Or.inr gh_dd_39) all0))
        refine ownStep (fun _ k => XS.pop X133.here hx rfl (hb hby own_split_d59) rfl rfl k) ?_
        refine ownStep (fun _ k => XS.iload X133.here hx rfl (hb hby own_split_d60) rfl  k) ?_
        refine ownStep (fun _ k => XS.iloadN X133.here hx rfl (hb hby own_split_d62) rfl  k) ?_
        refine ownStep (fun _ k => XS.iadd X133.here hx rfl (hb hby own_split_d63) rfl k) ?_
        show ownGo p.tables e below (T133.setTop (mkF m 64 #[.val (.ref a), .val (.int cc), .val (.int sz), .val (.ref b3), .val (.int o3)] [(.int (o3 + sz))])) _
        obtain ⟨o4, h_o4, ho4⟩ : ∃ z : Int32, (o3 + sz) = z ∧ z = (4 : Int32) * sz := ⟨_, rfl, own_osum ho3 (by decide)⟩
        rw [h_o4]
        refine ownStep (fun _ k => XS.istore X133.here hx rfl (hb hby own_split_d64) rfl (l' := #[.val (.ref a), .val (.int cc), .val (.int sz), .val (.ref b3), .val (.int o4)]) rfl k) ?_
        refine ownStep (fun _ k => XS.goto X133.here hx rfl (pc0 := 66) (pc' := 21) rfl (hb hby own_split_d66) (by decide) (by decide) k) ?_
        refine ownStep (fun _ k => XS.iload X133.here hx rfl (hb hby own_split_d21) rfl  k) ?_
        refine ownStep (fun _ k => XS.aloadN X133.here hx rfl (hb hby own_split_d23) rfl rfl k) ?_
        show ownGo p.tables e below (T133.setTop (mkF m 24 #[.val (.ref a), .val (.int cc), .val (.int sz), .val (.ref b3), .val (.int o4)] [(.ref a), (.int o4)])) _
        have Q140 : Fld Z T133.heap a "java/util/ArrayList" "size" "I" (.int nn) := ((Q110.ext R119).keep R133 (ninS ne15 (ninS ne79 nin0)))
        have Zs142 : n0 ≤ T133.heap.size := Nat.le_trans Z0 KP139.1
        have Q143 : Exa Z T133.heap a "java/util/ArrayList" := ((Q113.ext R119).keep R133)
        obtain ⟨cq141, kq141, q141a, q141b, q141c⟩ := isOf hZ rfl Q143
        obtain ⟨_, _, ⟨T141, L141, k141, n141⟩, -, X141, ⟨Lc141, hQ141, l141, y141, z141⟩, st141⟩ := X133.interfaceBack hx (xi := (⟨"java/util/List", "size", "()I"⟩ : MethodName)) (y := (⟨"java/util/ArrayList", "size", "()I"⟩ : MethodName)) hown (mvT hZ (hw _ (List.mem_of_getElem? (i := 38) rfl))) (mvT hZ (hw _ (List.mem_of_getElem? (i := 39) rfl))) (mvT hZ (hw _ (List.mem_of_getElem? (i := 40) rfl))) (mvT hZ (hw _ (List.mem_of_getElem? (i := 41) rfl))) (mvT hZ (hw _ (List.mem_of_getElem? (i := 42) rfl))) (mvT hZ (hw _ (List.mem_of_getElem? (i := 43) rfl))) (mvT hZ (hw _ (List.mem_of_getElem? (i := 44) rfl))) (mvT hZ (hw _ (List.mem_of_getElem? (i := 45) rfl))) (by decide) (backOf (W := 1) (own_asz l Z a0 hw [] a nn T133.heap n0 Zs142 Q140) hZ (hw _ (List.mem_of_getElem? (i := 46) rfl)) (hw _ (List.mem_of_getElem? (i := 7) rfl)) (by decide) (by decide)) q141a q141b q141c (g := (mkF m 24 #[.val (.ref a), .val (.int cc), .val (.int sz), .val (.ref b3), .val (.int o4)] [(.ref a), (.int o4)])) rfl (by rw [hml]; rfl) (Steps.refl _) (argsL := []) (rest := [(.int o4)]) (lenOf own_split_pd2 rfl) rfl (by show 2 * 0 + _ ≤ _; exact Nat.le_of_eq rfl) (hb hby own_split_d24) (fun _ _ => ⟨rfl, rfl, (by decide : 9 + 0 ≤ _), (by decide : 63 + 0 ≤ _)⟩)
        dsimp only [Pt.U, Pt.locs, Pt.cells, Pt.slots] at X141 l141 y141 z141 st141 hQ141
        obtain rfl : k141 = 9 := y141
        obtain rfl : n141 = 63 := z141
        obtain ⟨rfl, N141q, R141⟩ := hQ141
        have N141 : Fr n0 L141 := l141 ▸ Fr.app N133 N141q
        refine ownStep (fun _ k => st141.trans k) ?_
        show ownGo p.tables e below (T141.setTop (mkF m 29 #[.val (.ref a), .val (.int cc), .val (.int sz), .val (.ref b3), .val (.int o4)] [(.int nn), (.int o4)])) _
        by_cases hb4 : o4 < nn
        · skip
          refine ownStep (fun _ k => XS.icmpNo X141.here hx rfl (hb hby own_split_d29) rfl (tlt (hb4 : o4 < nn)).2.1 k) ?_
          refine ownStep (fun _ k => XS.aloadN X141.here hx rfl (hb hby own_split_d32) rfl rfl k) ?_
          refine ownStep (fun _ k => XS.aloadN X141.here hx rfl (hb hby own_split_d33) rfl rfl k) ?_
          refine ownStep (fun _ k => XS.iload X141.here hx rfl (hb hby own_split_d34) rfl  k) ?_
          refine ownStep (fun _ k => XS.aloadN X141.here hx rfl (hb hby own_split_d36) rfl rfl k) ?_
          show ownGo p.tables e below (T141.setTop (mkF m 37 #[.val (.ref a), .val (.int cc), .val (.int sz), .val (.ref b3), .val (.int o4)] [(.ref a), (.int o4), (.ref a), (.ref b3)])) _
          have Zs145 : n0 ≤ T133.heap.size := Nat.le_trans Z0 KP139.1
          obtain ⟨cq144, kq144, q144a, q144b, q144c⟩ := isOf hZ R141 Q143
          obtain ⟨_, _, ⟨T144, L144, k144, n144⟩, -, X144, ⟨Lc144, hQ144, l144, y144, z144⟩, st144⟩ := X141.interfaceBack hx (xi := (⟨"java/util/List", "size", "()I"⟩ : MethodName)) (y := (⟨"java/util/ArrayList", "size", "()I"⟩ : MethodName)) hown (mvT hZ (hw _ (List.mem_of_getElem? (i := 38) rfl))) (mvT hZ (hw _ (List.mem_of_getElem? (i := 39) rfl))) (mvT hZ (hw _ (List.mem_of_getElem? (i := 40) rfl))) (mvT hZ (hw _ (List.mem_of_getElem? (i := 41) rfl))) (mvT hZ (hw _ (List.mem_of_getElem? (i := 42) rfl))) (mvT hZ (hw _ (List.mem_of_getElem? (i := 43) rfl))) (mvT hZ (hw _ (List.mem_of_getElem? (i := 44) rfl))) (mvT hZ (hw _ (List.mem_of_getElem? (i := 45) rfl))) (by decide) (backOf (W := 3) (own_asz l Z a0 hw [] a nn T133.heap n0 Zs145 Q140) hZ (hw _ (List.mem_of_getElem? (i := 46) rfl)) (hw _ (List.mem_of_getElem? (i := 7) rfl)) (by decide) (by decide)) q144a q144b q144c (g := (mkF m 37 #[.val (.ref a), .val (.int cc), .val (.int sz), .val (.ref b3), .val (.int o4)] [(.ref a), (.int o4), (.ref a), (.ref b3)])) rfl (by rw [hml]; rfl) (Steps.refl _) (argsL := []) (rest := [(.int o4), (.ref a), (.ref b3)]) (lenOf own_split_pd2 rfl) rfl (by show 2 * 0 + _ ≤ _; exact Nat.le_of_eq rfl) (hb hby own_split_d37) (fun _ _ => ⟨rfl, R141, (by decide : 9 + 0 ≤ _), (by decide : 63 + 0 ≤ _)⟩)
          dsimp only [Pt.U, Pt.locs, Pt.cells, Pt.slots] at X144 l144 y144 z144 st144 hQ144
          obtain rfl : k144 = 9 := y144
          obtain rfl : n144 = 63 := z144
          obtain ⟨rfl, N144q, R144⟩ := hQ144
          have N144 : Fr n0 L144 := l144 ▸ Fr.app N141 N144q
          refine ownStep (fun _ k => st144.trans k) ?_
          refine ownStep (fun _ k => XS.iload X144.here hx rfl (hb hby own_split_d42) rfl  k) ?_
          refine ownStep (fun _ k => XS.iloadN X144.here hx rfl (hb hby own_split_d44) rfl  k) ?_
          refine ownStep (fun _ k => XS.iadd X144.here hx rfl (hb hby own_split_d45) rfl k) ?_
          show ownGo p.tables e below (T144.setTop (mkF m 46 #[.val (.ref a), .val (.int cc), .val (.int sz), .val (.ref b3), .val (.int o4)] [(.int (o4 + sz)), (.int nn), (.int o4), (.ref a), (.ref b3)])) _
          have Zs147 : n0 ≤ T133.heap.size := Nat.le_trans Z0 KP139.1
          obtain ⟨_, _, ⟨T146, L146, k146, n146⟩, -, X146, ⟨Lc146, hQ146, l146, y146, z146⟩, st146⟩ := Jvm.LawKit.callS X144 hx (y := (⟨"java/lang/Math", "min", "(II)I"⟩ : MethodName)) hown (mvT hZ (hw _ (List.mem_of_getElem? (i := 83) rfl))) (mvT hZ (hw _ (List.mem_of_getElem? (i := 84) rfl))) (mvT hZ (hw _ (List.mem_of_getElem? (i := 3) rfl))) (mvT hZ (hw _ (List.mem_of_getElem? (i := 85) rfl))) (by decide) (backOf (W := 3) (own_mmin l Z a0 hw [] nn (o4 + sz) T133.heap n0 Zs147 ) hZ (hw _ (List.mem_of_getElem? (i := 85) rfl)) (hw _ (List.mem_of_getElem? (i := 3) rfl)) (by decide) (by decide)) (g := (mkF m 46 #[.val (.ref a), .val (.int cc), .val (.int sz), .val (.ref b3), .val (.int o4)] [(.int (o4 + sz)), (.int nn), (.int o4), (.ref a), (.ref b3)])) rfl (by rw [hml]; rfl) (argsL := [(.int nn), (.int (o4 + sz))]) (rest := [(.int o4), (.ref a), (.ref b3)]) (lenOf own_split_pd0 rfl) rfl (by show 2 * 0 + _ ≤ _; exact Nat.le_of_eq rfl) (hb hby own_split_d46) (fun _ _ => ⟨rfl, R144, (by decide : 9 + 0 ≤ _), (by decide : 63 + 0 ≤ _)⟩)
          dsimp only [Pt.U, Pt.locs, Pt.cells, Pt.slots] at X146 l146 y146 z146 st146 hQ146
          obtain rfl : k146 = 9 := y146
          obtain rfl : n146 = 63 := z146
          obtain ⟨rfl, N146q, R146⟩ := hQ146
          have N146 : Fr n0 L146 := l146 ▸ Fr.app N144 N146q
          refine ownStep (fun _ k => st146 _ k) ?_
          show ownGo p.tables e below (T146.setTop (mkF m 49 #[.val (.ref a), .val (.int cc), .val (.int sz), .val (.ref b3), .val (.int o4)] [(.int (own_min nn (o4 + sz))), (.int o4), (.ref a), (.ref b3)])) _
          have Q148 : Fld Z T133.heap a "java/util/AbstractList" "modCount" "I" (.int mc) := ((Q118.ext R119).keep R133 (ninS ne15 (ninS ne79 nin0)))
          have Zs150 : n0 ≤ T133.heap.size := Nat.le_trans Z0 KP139.1
          obtain ⟨cq149, kq149, q149a, q149b, q149c⟩ := isOf hZ R146 Q143
          obtain ⟨_, _, ⟨T149, L149, k149, n149⟩, -, X149, ⟨Lc149, hQ149, l149, y149, z149⟩, st149⟩ := X146.interfaceBack hx (xi := (⟨"java/util/List", "subList", "(II)Ljava/util/List;"⟩ : MethodName)) (y := (⟨"java/util/ArrayList", "subList", "(II)Ljava/util/List;"⟩ : MethodName)) hown (mvT hZ (hw _ (List.mem_of_getElem? (i := 86) rfl))) (mvT hZ (hw _ (List.mem_of_getElem? (i := 87) rfl))) (mvT hZ (hw _ (List.mem_of_getElem? (i := 88) rfl))) (mvT hZ (hw _ (List.mem_of_getElem? (i := 89) rfl))) (mvT hZ (hw _ (List.mem_of_getElem? (i := 90) rfl))) (mvT hZ (hw _ (List.mem_of_getElem? (i := 91) rfl))) (mvT hZ (hw _ (List.mem_of_getElem? (i := 92) rfl))) (mvT hZ (hw _ (List.mem_of_getElem? (i := 45) rfl))) (by decide) (backOf (W := 1) (own_sbl l Z a0 hw [] a mc o4 (own_min nn (o4 + sz)) nn T133.heap n0 Zs150 Q143 Q140 Q148 (own_onn hzp ho4 (by decide) (by decide)) (own_min_le _ _) (own_loe hzp hn7 ho4 (by decide) (by decide) hb4)) hZ (hw _ (List.mem_of_getElem? (i := 93) rfl)) (hw _ (List.mem_of_getElem? (i := 7) rfl)) (by decide) (by decide)) q149a q149b q149c (g := (mkF m 49 #[.val (.ref a), .val (.int cc), .val (.int sz), .val (.ref b3), .val (.int o4)] [(.int (own_min nn (o4 + sz))), (.int o4), (.ref a), (.ref b3)])) rfl (by rw [hml]; rfl) (Steps.refl _) (argsL := [(.int o4), (.int (own_min nn (o4 + sz)))]) (rest := [(.ref b3)]) (lenOf own_split_pd3 rfl) rfl (by show 2 * 0 + _ ≤ _; exact Nat.le_of_eq rfl) (hb hby own_split_d49) (fun _ _ => ⟨rfl, R146, (by decide : 9 + 1 ≤ _), (by decide : 63 + 5 ≤ _)⟩)
          dsimp only [Pt.U, Pt.locs, Pt.cells, Pt.slots] at X149 l149 y149 z149 st149 hQ149
          obtain rfl : k149 = 10 := y149
          obtain rfl : n149 = 68 := z149
          obtain ⟨sl4, rfl, N149q, R149, P151, P152, P153, P154, P155, P156⟩ := hQ149
          have N149 : Fr n0 L149 := l149 ▸ Fr.app N146 N149q
          have gh_sl4 : h0.size ≤ sl4 := Nat.le_trans KP139.1 P156
          have gn_sl4 : n0 ≤ sl4 := Nat.le_trans Z0 gh_sl4
          refine ownStep (fun _ k => st149.trans k) ?_
          have KP157 : Keep h0 T149.heap [] := KP139.ext R149
          show ownGo p.tables e below (T149.setTop (mkF m 54 #[.val (.ref a), .val (.int cc), .val (.int sz), .val (.ref b3), .val (.int o4)] [(.ref sl4), (.ref b3)])) _
          have Q158 : Exa Z T149.heap b3 "java/util/ArrayList" := ((Q128.keep R133).ext R149)
          have Q159 : Fld Z T149.heap b3 "java/util/ArrayList" "elementData" "[Ljava/lang/Object;" (.ref dd_39) := (P135.ext R149)
          have Q160 : Fld Z T149.heap b3 "java/util/ArrayList" "size" "I" (.int (4 : Int32)) := (P136.ext R149)
          have Q161 : Fld Z T149.heap b3 "java/util/AbstractList" "modCount" "I" (.int (((((0 : Int32) + (1 : Int32)) + (1 : Int32)) + (1 : Int32)) + (1 : Int32))) := (P137.ext R149)
          have Q162 : Arv Z T149.heap dd_39 kk_39 (.object "java/lang/Object") (10 : Int32) [(.ref sl0), (.ref sl1), (.ref sl2), (.ref sl3), .null, .null, .null, .null, .null, .null] .null := (P138.ext R149)
          have Zs164 : n0 ≤ T149.heap.size := Nat.le_trans Z0 KP157.1
          obtain ⟨cq163, kq163, q163a, q163b, q163c⟩ := isOf hZ rfl Q158
          obtain ⟨_, _, ⟨T163, L163, k163, n163⟩, -, X163, ⟨Lc163, hQ163, l163, y163, z163⟩, st163⟩ := X149.interfaceBack hx (xi := (⟨"java/util/List", "add", "(Ljava/lang/Object;)Z"⟩ : MethodName)) (y := (⟨"java/util/ArrayList", "add", "(Ljava/lang/Object;)Z"⟩ : MethodName)) hown (mvT hZ (hw _ (List.mem_of_getElem? (i := 120) rfl))) (mvT hZ (hw _ (List.mem_of_getElem? (i := 121) rfl))) (mvT hZ (hw _ (List.mem_of_getElem? (i := 122) rfl))) (mvT hZ (hw _ (List.mem_of_getElem? (i := 123) rfl))) (mvT hZ (hw _ (List.mem_of_getElem? (i := 59) rfl))) (mvT hZ (hw _ (List.mem_of_getElem? (i := 124) rfl))) (mvT hZ (hw _ (List.mem_of_getElem? (i := 125) rfl))) (mvT hZ (hw _ (List.mem_of_getElem? (i := 45) rfl))) (by decide) (backOf (W := 0) (own_al_add_4 l Z a0 hw [] b3 dd_39 kk_39 (((((0 : Int32) + (1 : Int32)) + (1 : Int32)) + (1 : Int32)) + (1 : Int32)) (.ref sl0) (.ref sl1) (.ref sl2) (.ref sl3) sl4 T149.heap n0 Zs164 Q158 Q159 Q160 Q161 Q162 P45 gn_b3 gn_dd_39 ne66 (Ins.of_exa P151 (hw _ (List.mem_of_getElem? (i := 126) rfl)))) hZ (hw _ (List.mem_of_getElem? (i := 61) rfl)) (hw _ (List.mem_of_getElem? (i := 7) rfl)) (by decide) (by decide)) q163a q163b q163c (g := (mkF m 54 #[.val (.ref a), .val (.int cc), .val (.int sz), .val (.ref b3), .val (.int o4)] [(.ref sl4), (.ref b3)])) rfl (by rw [hml]; rfl) (Steps.refl _) (argsL := [(.ref sl4)]) (rest := []) (lenOf own_split_pd4 rfl) rfl (by show 2 * 0 + _ ≤ _; exact Nat.le_of_eq rfl) (hb hby own_split_d54) (fun _ _ => ⟨rfl, rfl, (by decide : 10 + 1 ≤ _), (by decide : 68 + 10 ≤ _)⟩)
          dsimp only [Pt.U, Pt.locs, Pt.cells, Pt.slots] at X163 l163 y163 z163 st163 hQ163
          obtain rfl : k163 = 11 := y163
          obtain rfl : n163 = 78 := z163
          obtain ⟨rfl, N163q, R163, P165, P166, P167, P168⟩ := hQ163
          have N163 : Fr n0 L163 := l163 ▸ Fr.app N149 N163q
          refine ownStep (fun _ k => st163.trans k) ?_
          have KP169 : Keep h0 T163.heap [] := KP157.trans R163 (allS (Or.inr gh_b3) (allS (Or.inr gh_dd_39) all0))
          refine ownStep (fun _ k => XS.pop X163.here hx rfl (hb hby own_split_d59) rfl rfl k) ?_
          refine ownStep (fun _ k => XS.iload X163.here hx rfl (hb hby own_split_d60) rfl  k) ?_
          refine ownStep (fun _ k => XS.iloadN X163.here hx rfl (hb hby own_split_d62) rfl  k) ?_
          refine ownStep (fun _ k => XS.iadd X163.here hx rfl (hb hby own_split_d63) rfl k) ?_
          show ownGo p.tables e below (T163.setTop (mkF m 64 #[.val (.ref a), .val (.int cc), .val (.int sz), .val (.ref b3), .val (.int o4)] [(.int (o4 + sz))])) _
          obtain ⟨o5, h_o5, ho5⟩ : ∃ z : Int32, (o4 + sz) = z ∧ z = (5 : Int32) * sz := ⟨_, rfl, own_osum ho4 (by decide)⟩
          rw [h_o5]
          refine ownStep (fun _ k => XS.istore X163.here hx rfl (hb hby own_split_d64) rfl (l' := #[.val (.ref a), .val (.int cc), .val (.int sz), .val (.ref b3), .val (.int o5)]) rfl k) ?_
          refine ownStep (fun _ k => XS.goto X163.here hx rfl (pc0 := 66) (pc' := 21) rfl (hb hby own_split_d66) (by decide) (by decide) k) ?_
          refine ownStep (fun _ k => XS.iload X163.here hx rfl (hb hby own_split_d21) rfl  k) ?_
          refine ownStep (fun _ k => XS.aloadN X163.here hx rfl (hb hby own_split_d23) rfl rfl k) ?_
          show ownGo p.tables e below (T163.setTop (mkF m 24 #[.val (.ref a), .val (.int cc), .val (.int sz), .val (.ref b3), .val (.int o5)] [(.ref a), (.int o5)])) _
          have Q170 : Fld Z T163.heap a "java/util/ArrayList" "size" "I" (.int nn) := ((Q140.ext R149).keep R163 (ninS ne15 (ninS ne79 nin0)))
          have Zs172 : n0 ≤ T163.heap.size := Nat.le_trans Z0 KP169.1
          have Q173 : Exa Z T163.heap a "java/util/ArrayList" := ((Q143.ext R149).keep R163)
          obtain ⟨cq171, kq171, q171a, q171b, q171c⟩ := isOf hZ rfl Q173
          obtain ⟨_, _, ⟨T171, L171, k171, n171⟩, -, X171, ⟨Lc171, hQ171, l171, y171, z171⟩, st171⟩ := X163.interfaceBack hx (xi := (⟨"java/util/List", "size", "()I"⟩ : MethodName)) (y := (⟨"java/util/ArrayList", "size", "()I"⟩ : MethodName)) hown (mvT hZ (hw _ (List.mem_of_getElem? (i := 38) rfl))) (mvT hZ (hw _ (List.mem_of_getElem? (i := 39) rfl))) (mvT hZ (hw _ (List.mem_of_getElem? (i := 40) rfl))) (mvT hZ (hw _ (List.mem_of_getElem? (i := 41) rfl))) (mvT hZ (hw _ (List.mem_of_getElem? (i := 42) rfl))) (mvT hZ (hw _ (List.mem_of_getElem? (i := 43) rfl))) (mvT hZ (hw _ (List.mem_of_getElem? (i := 44) rfl))) (mvT hZ (hw _ (List.mem_of_getElem? (i := 45) rfl))) (by decide) (backOf (W := 1) (own_asz l Z a0 hw [] a nn T163.heap n0 Zs172 Q170) hZ (hw _ (List.mem_of_getElem? (i := 46) rfl)) (hw _ (List.mem_of_getElem? (i := 7) rfl)) (by decide) (by decide)) q171a q171b q171c (g := (mkF m 24 #[.val (.ref a), .val (.int cc), .val (.int sz), .val (.ref b3), .val (.int o5)] [(.ref a), (.int o5)])) rfl (by rw [hml]; rfl) (Steps.refl _) (argsL := []) (rest := [(.int o5)]) (lenOf own_split_pd2 rfl) rfl (by show 2 * 0 + _ ≤ _; exact Nat.le_of_eq rfl) (hb hby own_split_d24) (fun _ _ => ⟨rfl, rfl, (by decide : 11 + 0 ≤ _), (by decide : 78 + 0 ≤ _)⟩)
          dsimp only [Pt.U, Pt.locs, Pt.cells, Pt.slots] at X171 l171 y171 z171 st171 hQ171
          obtain rfl : k171 = 11 := y171
          obtain rfl : n171 = 78 := z171
          obtain ⟨rfl, N171q, R171⟩ := hQ171
          have N171 : Fr n0 L171 := l171 ▸ Fr.app N163 N171q
          refine ownStep (fun _ k => st171.trans k) ?_
          show ownGo p.tables e below (T171.setTop (mkF m 29 #[.val (.ref a), .val (.int cc), .val (.int sz), .val (.ref b3), .val (.int o5)] [(.int nn), (.int o5)])) _
          by_cases hb5 : o5 < nn
          · skip
            refine ownStep (fun _ k => XS.icmpNo X171.here hx rfl (hb hby own_split_d29) rfl (tlt (hb5 : o5 < nn)).2.1 k) ?_
            refine ownStep (fun _ k => XS.aloadN X171.here hx rfl (hb hby own_split_d32) rfl rfl k) ?_
            refine ownStep (fun _ k => XS.aloadN X171.here hx rfl (hb hby own_split_d33) rfl rfl k) ?_
            refine ownStep (fun _ k => XS.iload X171.here hx rfl (hb hby own_split_d34) rfl  k) ?_
            refine ownStep (fun _ k => XS.aloadN X171.here hx rfl (hb hby own_split_d36) rfl rfl k) ?_
            show ownGo p.tables e below (T171.setTop (mkF m 37 #[.val (.ref a), .val (.int cc), .val (.int sz), .val (.ref b3), .val (.int o5)] [(.ref a), (.int o5), (.ref a), (.ref b3)])) _
            have Zs175 : n0 ≤ T163.heap.size := Nat.le_trans Z0 KP169.1
            obtain ⟨cq174, kq174, q174a, q174b, q174c⟩ := isOf hZ R171 Q173
            obtain ⟨_, _, ⟨T174, L174, k174, n174⟩, -, X174, ⟨Lc174, hQ174, l174, y174, z174⟩, st174⟩ := X171.interfaceBack hx (xi := (⟨"java/util/List", "size", "()I"⟩ : MethodName)) (y := (⟨"java/util/ArrayList", "size", "()I"⟩ : MethodName)) hown (mvT hZ (hw _ (List.mem_of_getElem? (i := 38) rfl))) (mvT hZ (hw _ (List.mem_of_getElem? (i := 39) rfl))) (mvT hZ (hw _ (List.mem_of_getElem? (i := 40) rfl))) (mvT hZ (hw _ (List.mem_of_getElem? (i := 41) rfl))) (mvT hZ (hw _ (List.mem_of_getElem? (i := 42) rfl))) (mvT hZ (hw _ (List.mem_of_getElem? (i := 43) rfl))) (mvT hZ (hw _ (List.mem_of_getElem? (i := 44) rfl))) (mvT hZ (hw _ (List.mem_of_getElem? (i := 45) rfl))) (by decide) (backOf (W := 3) (own_asz l Z a0 hw [] a nn T163.heap n0 Zs175 Q170) hZ (hw _ (List.mem_of_getElem? (i := 46) rfl)) (hw _ (List.mem_of_getElem? (i := 7) rfl)) (by decide) (by decide)) q174a q174b q174c (g := (mkF m 37 #[.val (.ref a), .val (.int cc), .val (.int sz), .val (.ref b3), .val (.int o5)] [(.ref a), (.int o5), (.ref a), (.ref b3)])) rfl (by rw [hml]; rfl) (Steps.refl _) (argsL := []) (rest := [(.int o5), (.ref a), (.ref b3)]) (lenOf own_split_pd2 rfl) rfl (by show 2 * 0 + _ ≤ _; exact Nat.le_of_eq rfl) (hb hby own_split_d37) (fun _ _ => ⟨rfl, R171, (by decide : 11 + 0 ≤ _), (by decide : 78 + 0 ≤ _)⟩)
            dsimp only [Pt.U, Pt.locs, Pt.cells, Pt.slots] at X174 l174 y174 z174 st174 hQ174
            obtain rfl : k174 = 11 := y174
            obtain rfl : n174 = 78 := z174
            obtain ⟨rfl, N174q, R174⟩ := hQ174
            have N174 : Fr n0 L174 := l174 ▸ Fr.app N171 N174q
            refine ownStep (fun _ k => st174.trans k) ?_
            refine ownStep (fun _ k => XS.iload X174.here hx rfl (hb hby own_split_d42) rfl  k) ?_
            refine ownStep (fun _ k => XS.iloadN X174.here hx rfl (hb hby own_split_d44) rfl  k) ?_
            refine ownStep (fun _ k => XS.iadd X174.here hx rfl (hb hby own_split_d45) rfl k) ?_
            show ownGo p.tables e below (T174.setTop (mkF m 46 #[.val (.ref a), .val (.int cc), .val (.int sz), .val (.ref b3), .val (.int o5)] [(.int (o5 + sz)), (.int nn), (.int o5), (.ref a), (.ref b3)])) _
            have Zs177 : n0 ≤ T163.heap.size := Nat.le_trans Z0 KP169.1
            obtain ⟨_, _, ⟨T176, L176, k176, n176⟩, -, X176, ⟨Lc176, hQ176, l176, y176, z176⟩, st176⟩ := Jvm.LawKit.callS X174 hx (y := (⟨"java/lang/Math", "min", "(II)I"⟩ : MethodName)) hown (mvT hZ (hw _ (List.mem_of_getElem? (i := 83) rfl))) (mvT hZ (hw _ (List.mem_of_getElem? (i := 84) rfl))) (mvT hZ (hw _ (List.mem_of_getElem? (i := 3) rfl))) (mvT hZ (hw _ (List.mem_of_getElem? (i := 85) rfl))) (by decide) (backOf (W := 3) (own_mmin l Z a0 hw [] nn (o5 + sz) T163.heap n0 Zs177 ) hZ (hw _ (List.mem_of_getElem? (i := 85) rfl)) (hw _ (List.mem_of_getElem? (i := 3) rfl)) (by decide) (by decide)) (g := (mkF m 46 #[.val (.ref a), .val (.int cc), .val (.int sz), .val (.ref b3), .val (.int o5)] [(.int (o5 + sz)), (.int nn), (.int o5), (.ref a), (.ref b3)])) rfl (by rw [hml]; rfl) (argsL := [(.int nn), (.int (o5 + sz))]) (rest := [(.int o5), (.ref a), (.ref b3)]) (lenOf own_split_pd0 rfl) rfl (by show 2 * 0 + _ ≤ _; exact Nat.le_of_eq rfl) (hb hby own_split_d46) (fun _ _ => ⟨rfl, R174, (by decide : 11 + 0 ≤ _), (by decide : 78 + 0 ≤ _)⟩)
            dsimp only [Pt.U, Pt.locs, Pt.cells, Pt.slots] at X176 l176 y176 z176 st176 hQ176
            obtain rfl : k176 = 11 := y176
            obtain rfl : n176 = 78 := z176
            obtain ⟨rfl, N176q, R176⟩ := hQ176
            have N176 : Fr n0 L176 := l176 ▸ Fr.app N174 N176q
            refine ownStep (fun _ k => st176 _ k) ?_
            show ownGo p.tables e below (T176.setTop (mkF m 49 #[.val (.ref a), .val (.int cc), .val (.int sz), .val (.ref b3), .val (.int o5)] [(.int (own_min nn (o5 + sz))), (.int o5), (.ref a), (.ref b3)])) _
            have Q178 : Fld Z T163.heap a "java/util/AbstractList" "modCount" "I" (.int mc) := ((Q148.ext R149).keep R163 (ninS ne15 (ninS ne79 nin0)))
            have Zs180 : n0 ≤ T163.heap.size := Nat.le_trans Z0 KP169.1
            obtain ⟨cq179, kq179, q179a, q179b, q179c⟩ := isOf hZ R176 Q173
            obtain ⟨_, _, ⟨T179, L179, k179, n179⟩, -, X179, ⟨Lc179, hQ179, l179, y179, z179⟩, st179⟩ := X176.interfaceBack hx (xi := (⟨"java/util/List", "subList", "(II)Ljava/util/List;"⟩ : MethodName)) (y := (⟨"java/util/ArrayList", "subList", "(II)Ljava/util/List;"⟩ : MethodName)) hown (mvT hZ (hw _ (List.mem_of_getElem? (i := 86) rfl))) (mvT hZ (hw _ (List.mem_of_getElem? (i := 87) rfl))) (mvT hZ (hw _ (List.mem_of_getElem? (i := 88) rfl))) (mvT hZ (hw _ (List.mem_of_getElem? (i := 89) rfl))) (mvT hZ (hw _ (List.mem_of_getElem? (i := 90) rfl))) (mvT hZ (hw _ (List.mem_of_getElem? (i := 91) rfl))) (mvT hZ (hw _ (List.mem_of_getElem? (i := 92) rfl))) (mvT hZ (hw _ (List.mem_of_getElem? (i := 45) rfl))) (by decide) (backOf (W := 1) (own_sbl l Z a0 hw [] a mc o5 (own_min nn (o5 + sz)) nn T163.heap n0 Zs180 Q173 Q170 Q178 (own_onn hzp ho5 (by decide) (by decide)) (own_min_le _ _) (own_loe hzp hn7 ho5 (by decide) (by decide) hb5)) hZ (hw _ (List.mem_of_getElem? (i := 93) rfl)) (hw _ (List.mem_of_getElem? (i := 7) rfl)) (by decide) (by decide)) q179a q179b q179c (g := (mkF m 49 #[.val (.ref a), .val (.int cc), .val (.int sz), .val (.ref b3), .val (.int o5)] [(.int (own_min nn (o5 + sz))), (.int o5), (.ref a), (.ref b3)])) rfl (by rw [hml]; rfl) (Steps.refl _) (argsL := [(.int o5), (.int (own_min nn (o5 + sz)))]) (rest := [(.ref b3)]) (lenOf own_split_pd3 rfl) rfl (by show 2 * 0 + _ ≤ _; exact Nat.le_of_eq rfl) (hb hby own_split_d49) (fun _ _ => ⟨rfl, R176, (by decide : 11 + 1 ≤ _), (by decide : 78 + 5 ≤ _)⟩)
            dsimp only [Pt.U, Pt.locs, Pt.cells, Pt.slots] at X179 l179 y179 z179 st179 hQ179
            obtain rfl : k179 = 12 := y179
            obtain rfl : n179 = 83 := z179
            obtain ⟨sl5, rfl, N179q, R179, P181, P182, P183, P184, P185, P186⟩ := hQ179
            have N179 : Fr n0 L179 := l179 ▸ Fr.app N176 N179q
            have gh_sl5 : h0.size ≤ sl5 := Nat.le_trans KP169.1 P186
            have gn_sl5 : n0 ≤ sl5 := Nat.le_trans Z0 gh_sl5
            refine ownStep (fun _ k => st179.trans k) ?_
            have KP187 : Keep h0 T179.heap [] := KP169.ext R179
            show ownGo p.tables e below (T179.setTop (mkF m 54 #[.val (.ref a), .val (.int cc), .val (.int sz), .val (.ref b3), .val (.int o5)] [(.ref sl5), (.ref b3)])) _
            have Q188 : Exa Z T179.heap b3 "java/util/ArrayList" := ((Q158.keep R163).ext R179)
            have Q189 : Fld Z T179.heap b3 "java/util/ArrayList" "elementData" "[Ljava/lang/Object;" (.ref dd_39) := (P165.ext R179)
            have Q190 : Fld Z T179.heap b3 "java/util/ArrayList" "size" "I" (.int (5 : Int32)) := (P166.ext R179)
            have Q191 : Fld Z T179.heap b3 "java/util/AbstractList" "modCount" "I" (.int ((((((0 : Int32) + (1 : Int32)) + (1 : Int32)) + (1 : Int32)) + (1 : Int32)) + (1 : Int32))) := (P167.ext R179)
            have Q192 : Arv Z T179.heap dd_39 kk_39 (.object "java/lang/Object") (10 : Int32) [(.ref sl0), (.ref sl1), (.ref sl2), (.ref sl3), (.ref sl4), .null, .null, .null, .null, .null] .null := (P168.ext R179)
            have Zs194 : n0 ≤ T179.heap.size := Nat.le_trans Z0 KP187.1
            obtain ⟨cq193, kq193, q193a, q193b, q193c⟩ := isOf hZ rfl Q188
            obtain ⟨_, _, ⟨T193, L193, k193, n193⟩, -, X193, ⟨Lc193, hQ193, l193, y193, z193⟩, st193⟩ := X179.interfaceBack hx (xi := (⟨"java/util/List", "add", "(Ljava/lang/Object;)Z"⟩ : MethodName)) (y := (⟨"java/util/ArrayList", "add", "(Ljava/lang/Object;)Z"⟩ : MethodName)) hown (mvT hZ (hw _ (List.mem_of_getElem? (i := 120) rfl))) (mvT hZ (hw _ (List.mem_of_getElem? (i := 121) rfl))) (mvT hZ (hw _ (List.mem_of_getElem? (i := 122) rfl))) (mvT hZ (hw _ (List.mem_of_getElem? (i := 123) rfl))) (mvT hZ (hw _ (List.mem_of_getElem? (i := 59) rfl))) (mvT hZ (hw _ (List.mem_of_getElem? (i := 124) rfl))) (mvT hZ (hw _ (List.mem_of_getElem? (i := 125) rfl))) (mvT hZ (hw _ (List.mem_of_getElem? (i := 45) rfl))) (by decide) (backOf (W := 0) (own_al_add_5 l Z a0 hw [] b3 dd_39 kk_39 ((((((0 : Int32) + (1 : Int32)) + (1 : Int32)) + (1 : Int32)) + (1 : Int32)) + (1 : Int32)) (.ref sl0) (.ref sl1) (.ref sl2) (.ref sl3) (.ref sl4) sl5 T179.heap n0 Zs194 Q188 Q189 Q190 Q191 Q192 P45 gn_b3 gn_dd_39 ne66 (Ins.of_exa P181 (hw _ (List.mem_of_getElem? (i := 126) rfl)))) hZ (hw _ (List.mem_of_getElem? (i := 61) rfl)) (hw _ (List.mem_of_getElem? (i := 7) rfl)) (by decide) (by decide)) q193a q193b q193c (g := (mkF m 54 #[.val (.ref a), .val (.int cc), .val (.int sz), .val (.ref b3), .val (.int o5)] [(.ref sl5), (.ref b3)])) rfl (by rw [hml]; rfl) (Steps.refl _) (argsL := [(.ref sl5)]) (rest := []) (lenOf own_split_pd4 rfl) rfl (by show 2 * 0 + _ ≤ _; exact Nat.le_of_eq rfl) (hb hby own_split_d54) (fun _ _ => ⟨rfl, rfl, (by decide : 12 + 1 ≤ _), (by decide : 83 + 10 ≤ _)⟩)
            dsimp only [Pt.U, Pt.locs, Pt.cells, Pt.slots] at X193 l193 y193 z193 st193 hQ193
            obtain rfl : k193 = 13 := y193
            obtain rfl : n193 = 93 := z193
            obtain ⟨rfl, N193q, R193, P195, P196, P197, P198⟩ := hQ193
            have N193 : Fr n0 L193 := l193 ▸ Fr.app N179 N193q
            refine ownStep (fun _ k => st193.trans k) ?_
            have KP199 : Keep h0 T193.heap [] := KP187.trans R193 (allS (Or.inr gh_b3) (allS (Or.inr gh_dd_39) all0))
            refine ownStep (fun _ k => XS.pop X193.here hx rfl (hb hby own_split_d59) rfl rfl k) ?_
            refine ownStep (fun _ k => XS.iload X193.here hx rfl (hb hby own_split_d60) rfl  k) ?_
            refine ownStep (fun _ k => XS.iloadN X193.here hx rfl (hb hby own_split_d62) rfl  k) ?_
            refine ownStep (fun _ k => XS.iadd X193.here hx rfl (hb hby own_split_d63) rfl k) ?_
            show ownGo p.tables e below (T193.setTop (mkF m 64 #[.val (.ref a), .val (.int cc), .val (.int sz), .val (.ref b3), .val (.int o5)] [(.int (o5 + sz))])) _
            obtain ⟨o6, h_o6, ho6⟩ : ∃ z : Int32, (o5 + sz) = z ∧ z = (6 : Int32) * sz := ⟨_, rfl, own_osum ho5 (by decide)⟩
            rw [h_o6]
            refine ownStep (fun _ k => XS.istore X193.here hx rfl (hb hby own_split_d64) rfl (l' := #[.val (.ref a), .val (.int cc), .val (.int sz), .val (.ref b3), .val (.int o6)]) rfl k) ?_
            refine ownStep (fun _ k => XS.goto X193.here hx rfl (pc0 := 66) (pc' := 21) rfl (hb hby own_split_d66) (by decide) (by decide) k) ?_
            refine ownStep (fun _ k => XS.iload X193.here hx rfl (hb hby own_split_d21) rfl  k) ?_
            refine ownStep (fun _ k => XS.aloadN X193.here hx rfl (hb hby own_split_d23) rfl rfl k) ?_
            show ownGo p.tables e below (T193.setTop (mkF m 24 #[.val (.ref a), .val (.int cc), .val (.int sz), .val (.ref b3), .val (.int o6)] [(.ref a), (.int o6)])) _
            have Q200 : Fld Z T193.heap a "java/util/ArrayList" "size" "I" (.int nn) := ((Q170.ext R179).keep R193 (ninS ne15 (ninS ne79 nin0)))
            have Zs202 : n0 ≤ T193.heap.size := Nat.le_trans Z0 KP199.1
            have Q203 : Exa Z T193.heap a "java/util/ArrayList" := ((Q173.ext R179).keep R193)
            obtain ⟨cq201, kq201, q201a, q201b, q201c⟩ := isOf hZ rfl Q203
            obtain ⟨_, _, ⟨T201, L201, k201, n201⟩, -, X201, ⟨Lc201, hQ201, l201, y201, z201⟩, st201⟩ := X193.interfaceBack hx (xi := (⟨"java/util/List", "size", "()I"⟩ : MethodName)) (y := (⟨"java/util/ArrayList", "size", "()I"⟩ : MethodName)) hown (mvT hZ (hw _ (List.mem_of_getElem? (i := 38) rfl))) (mvT hZ (hw _ (List.mem_of_getElem? (i := 39) rfl))) (mvT hZ (hw _ (List.mem_of_getElem? (i := 40) rfl))) (mvT hZ (hw _ (List.mem_of_getElem? (i := 41) rfl))) (mvT hZ (hw _ (List.mem_of_getElem? (i := 42) rfl))) (mvT hZ (hw _ (List.mem_of_getElem? (i := 43) rfl))) (mvT hZ (hw _ (List.mem_of_getElem? (i := 44) rfl))) (mvT hZ (hw _ (List.mem_of_getElem? (i := 45) rfl))) (by decide) (backOf (W := 1) (own_asz l Z a0 hw [] a nn T193.heap n0 Zs202 Q200) hZ (hw _ (List.mem_of_getElem? (i := 46) rfl)) (hw _ (List.mem_of_getElem? (i := 7) rfl)) (by decide) (by decide)) q201a q201b q201c (g := (mkF m 24 #[.val (.ref a), .val (.int cc), .val (.int sz), .val (.ref b3), .val (.int o6)] [(.ref a), (.int o6)])) rfl (by rw [hml]; rfl) (Steps.refl _) (argsL := []) (rest := [(.int o6)]) (lenOf own_split_pd2 rfl) rfl (by show 2 * 0 + _ ≤ _; exact Nat.le_of_eq rfl) (hb hby own_split_d24) (fun _ _ => ⟨rfl, rfl, (by decide : 13 + 0 ≤ _), (by decide : 93 + 0 ≤ _)⟩)
            dsimp only [Pt.U, Pt.locs, Pt.cells, Pt.slots] at X201 l201 y201 z201 st201 hQ201
            obtain rfl : k201 = 13 := y201
            obtain rfl : n201 = 93 := z201
            obtain ⟨rfl, N201q, R201⟩ := hQ201
            have N201 : Fr n0 L201 := l201 ▸ Fr.app N193 N201q
            refine ownStep (fun _ k => st201.trans k) ?_
            show ownGo p.tables e below (T201.setTop (mkF m 29 #[.val (.ref a), .val (.int cc), .val (.int sz), .val (.ref b3), .val (.int o6)] [(.int nn), (.int o6)])) _
            by_cases hb6 : o6 < nn
            · skip
              refine ownStep (fun _ k => XS.icmpNo X201.here hx rfl (hb hby own_split_d29) rfl (tlt (hb6 : o6 < nn)).2.1 k) ?_
              refine ownStep (fun _ k => XS.aloadN X201.here hx rfl (hb hby own_split_d32) rfl rfl k) ?_
              refine ownStep (fun _ k => XS.aloadN X201.here hx rfl (hb hby own_split_d33) rfl rfl k) ?_
              refine ownStep (fun _ k => XS.iload X201.here hx rfl (hb hby own_split_d34) rfl  k) ?_
              refine ownStep (fun _ k => XS.aloadN X201.here hx rfl (hb hby own_split_d36) rfl rfl k) ?_
              show ownGo p.tables e below (T201.setTop (mkF m 37 #[.val (.ref a), .val (.int cc), .val (.int sz), .val (.ref b3), .val (.int o6)] [(.ref a), (.int o6), (.ref a), (.ref b3)])) _
              have Zs205 : n0 ≤ T193.heap.size := Nat.le_trans Z0 KP199.1
              obtain ⟨cq204, kq204, q204a, q204b, q204c⟩ := isOf hZ R201 Q203
              obtain ⟨_, _, ⟨T204, L204, k204, n204⟩, -, X204, ⟨Lc204, hQ204, l204, y204, z204⟩, st204⟩ := X201.interfaceBack hx (xi := (⟨"java/util/List", "size", "()I"⟩ : MethodName)) (y := (⟨"java/util/ArrayList", "size", "()I"⟩ : MethodName)) hown (mvT hZ (hw _ (List.mem_of_getElem? (i := 38) rfl))) (mvT hZ (hw _ (List.mem_of_getElem? (i := 39) rfl))) (mvT hZ (hw _ (List.mem_of_getElem? (i := 40) rfl))) (mvT hZ (hw _ (List.mem_of_getElem? (i := 41) rfl))) (mvT hZ (hw _ (List.mem_of_getElem? (i := 42) rfl))) (mvT hZ (hw _ (List.mem_of_getElem? (i := 43) rfl))) (mvT hZ (hw _ (List.mem_of_getElem? (i := 44) rfl))) (mvT hZ (hw _ (List.mem_of_getElem? (i := 45) rfl))) (by decide) (backOf (W := 3) (own_asz l Z a0 hw [] a nn T193.heap n0 Zs205 Q200) hZ (hw _ (List.mem_of_getElem? (i := 46) rfl)) (hw _ (List.mem_of_getElem? (i := 7) rfl)) (by decide) (by decide)) q204a q204b q204c (g := (mkF m 37 #[.val (.ref a), .val (.int cc), .val (.int sz), .val (.ref b3), .val (.int o6)] [(.ref a), (.int o6), (.ref a), (.ref b3)])) rfl (by rw [hml]; rfl) (Steps.refl _) (argsL := []) (rest := [(.int o6), (.ref a), (.ref b3)]) (lenOf own_split_pd2 rfl) rfl (by show 2 * 0 + _ ≤ _; exact Nat.le_of_eq rfl) (hb hby own_split_d37) (fun _ _ => ⟨rfl, R201, (by decide : 13 + 0 ≤ _), (by decide : 93 + 0 ≤ _)⟩)
              dsimp only [Pt.U, Pt.locs, Pt.cells, Pt.slots] at X204 l204 y204 z204 st204 hQ204
              obtain rfl : k204 = 13 := y204
              obtain rfl : n204 = 93 := z204
              obtain ⟨rfl, N204q, R204⟩ := hQ204
              have N204 : Fr n0 L204 := l204 ▸ Fr.app N201 N204q
              refine ownStep (fun _ k => st204.trans k) ?_
              refine ownStep (fun _ k => XS.iload X204.here hx rfl (hb hby own_split_d42) rfl  k) ?_
              refine ownStep (fun _ k => XS.iloadN X204.here hx rfl (hb hby own_split_d44) rfl  k) ?_
              refine ownStep (fun _ k => XS.iadd X204.here hx rfl (hb hby own_split_d45) rfl k) ?_
              show ownGo p.tables e below (T204.setTop (mkF m 46 #[.val (.ref a), .val (.int cc), .val (.int sz), .val (.ref b3), .val (.int o6)] [(.int (o6 + sz)), (.int nn), (.int o6), (.ref a), (.ref b3)])) _
              have Zs207 : n0 ≤ T193.heap.size := Nat.le_trans Z0 KP199.1
              obtain ⟨_, _, ⟨T206, L206, k206, n206⟩, -, X206, ⟨Lc206, hQ206, l206, y206, z206⟩, st206⟩ := Jvm.LawKit.callS X204 hx (y := (⟨"java/lang/Math", "min", "(II)I"⟩ : MethodName)) hown (mvT hZ (hw _ (List.mem_of_getElem? (i := 83) rfl))) (mvT hZ (hw _ (List.mem_of_getElem? (i := 84) rfl))) (mvT hZ (hw _ (List.mem_of_getElem? (i := 3) rfl))) (mvT hZ (hw _ (List.mem_of_getElem? (i := 85) rfl))) (by decide) (backOf (W := 3) (own_mmin l Z a0 hw [] nn (o6 + sz) T193.heap n0 Zs207 ) hZ (hw _ (List.mem_of_getElem? (i := 85) rfl)) (hw _ (List.mem_of_getElem? (i := 3) rfl)) (by decide) (by decide)) (g := (mkF m 46 #[.val (.ref a), .val (.int cc), .val (.int sz), .val (.ref b3), .val (.int o6)] [(.int (o6 + sz)), (.int nn), (.int o6), (.ref a), (.ref b3)])) rfl (by rw [hml]; rfl) (argsL := [(.int nn), (.int (o6 + sz))]) (rest := [(.int o6), (.ref a), (.ref b3)]) (lenOf own_split_pd0 rfl) rfl (by show 2 * 0 + _ ≤ _; exact Nat.le_of_eq rfl) (hb hby own_split_d46) (fun _ _ => ⟨rfl, R204, (by decide : 13 + 0 ≤ _), (by decide : 93 + 0 ≤ _)⟩)
              dsimp only [Pt.U, Pt.locs, Pt.cells, Pt.slots] at X206 l206 y206 z206 st206 hQ206
              obtain rfl : k206 = 13 := y206
              obtain rfl : n206 = 93 := z206
              obtain ⟨rfl, N206q, R206⟩ := hQ206
              have N206 : Fr n0 L206 := l206 ▸ Fr.app N204 N206q
              refine ownStep (fun _ k => st206 _ k) ?_
              show ownGo p.tables e below (T206.setTop (mkF m 49 #[.val (.ref a), .val (.int cc), .val (.int sz), .val (.ref b3), .val (.int o6)] [(.int (own_min nn (o6 + sz))), (.int o6), (.ref a), (.ref b3)])) _
              have Q208 : Fld Z T193.heap a "java/util/AbstractList" "modCount" "I" (.int mc) := ((Q178.ext R179).keep R193 (ninS ne15 (ninS ne79 nin0)))
              have Zs210 : n0 ≤ T193.heap.size := Nat.le_trans Z0 KP199.1
              obtain ⟨cq209, kq209, q209a, q209b, q209c⟩ := isOf hZ R206 Q203
              obtain ⟨_, _, ⟨T209, L209, k209, n209⟩, -, X209, ⟨Lc209, hQ209, l209, y209, z209⟩, st209⟩ := X206.interfaceBack hx (xi := (⟨"java/util/List", "subList", "(II)Ljava/util/List;"⟩ : MethodName)) (y := (⟨"java/util/ArrayList", "subList", "(II)Ljava/util/List;"⟩ : MethodName)) hown (mvT hZ (hw _ (List.mem_of_getElem? (i := 86) rfl))) (mvT hZ (hw _ (List.mem_of_getElem? (i := 87) rfl))) (mvT hZ (hw _ (List.mem_of_getElem? (i := 88) rfl))) (mvT hZ (hw _ (List.mem_of_getElem? (i := 89) rfl))) (mvT hZ (hw _ (List.mem_of_getElem? (i := 90) rfl))) (mvT hZ (hw _ (List.mem_of_getElem? (i := 91) rfl))) (mvT hZ (hw _ (List.mem_of_getElem? (i := 92) rfl))) (mvT hZ (hw _ (List.mem_of_getElem? (i := 45) rfl))) (by decide) (backOf (W := 1) (own_sbl l Z a0 hw [] a mc o6 (own_min nn (o6 + sz)) nn T193.heap n0 Zs210 Q203 Q200 Q208 (own_onn hzp ho6 (by decide) (by decide)) (own_min_le _ _) (own_loe hzp hn7 ho6 (by decide) (by decide) hb6)) hZ (hw _ (List.mem_of_getElem? (i := 93) rfl)) (hw _ (List.mem_of_getElem? (i := 7) rfl)) (by decide) (by decide)) q209a q209b q209c (g := (mkF m 49 #[.val (.ref a), .val (.int cc), .val (.int sz), .val (.ref b3), .val (.int o6)] [(.int (own_min nn (o6 + sz))), (.int o6), (.ref a), (.ref b3)])) rfl (by rw [hml]; rfl) (Steps.refl _) (argsL := [(.int o6), (.int (own_min nn (o6 + sz)))]) (rest := [(.ref b3)]) (lenOf own_split_pd3 rfl) rfl (by show 2 * 0 + _ ≤ _; exact Nat.le_of_eq rfl) (hb hby own_split_d49) (fun _ _ => ⟨rfl, R206, (by decide : 13 + 1 ≤ _), (by decide : 93 + 5 ≤ _)⟩)
              dsimp only [Pt.U, Pt.locs, Pt.cells, Pt.slots] at X209 l209 y209 z209 st209 hQ209
              obtain rfl : k209 = 14 := y209
              obtain rfl : n209 = 98 := z209
              obtain ⟨sl6, rfl, N209q, R209, P211, P212, P213, P214, P215, P216⟩ := hQ209
              have N209 : Fr n0 L209 := l209 ▸ Fr.app N206 N209q
              have gh_sl6 : h0.size ≤ sl6 := Nat.le_trans KP199.1 P216
              have gn_sl6 : n0 ≤ sl6 := Nat.le_trans Z0 gh_sl6
              refine ownStep (fun _ k => st209.trans k) ?_
              have KP217 : Keep h0 T209.heap [] := KP199.ext R209
              show ownGo p.tables e below (T209.setTop (mkF m 54 #[.val (.ref a), .val (.int cc), .val (.int sz), .val (.ref b3), .val (.int o6)] [(.ref sl6), (.ref b3)])) _
              have Q218 : Exa Z T209.heap b3 "java/util/ArrayList" := ((Q188.keep R193).ext R209)
              have Q219 : Fld Z T209.heap b3 "java/util/ArrayList" "elementData" "[Ljava/lang/Object;" (.ref dd_39) := (P195.ext R209)
              have Q220 : Fld Z T209.heap b3 "java/util/ArrayList" "size" "I" (.int (6 : Int32)) := (P196.ext R209)
              have Q221 : Fld Z T209.heap b3 "java/util/AbstractList" "modCount" "I" (.int (((((((0 : Int32) + (1 : Int32)) + (1 : Int32)) + (1 : Int32)) + (1 : Int32)) + (1 : Int32)) + (1 : Int32))) := (P197.ext R209)
              have Q222 : Arv Z T209.heap dd_39 kk_39 (.object "java/lang/Object") (10 : Int32) [(.ref sl0), (.ref sl1), (.ref sl2), (.ref sl3), (.ref sl4), (.ref sl5), .null, .null, .null, .null] .null := (P198.ext R209)
              have Zs224 : n0 ≤ T209.heap.size := Nat.le_trans Z0 KP217.1
              obtain ⟨cq223, kq223, q223a, q223b, q223c⟩ := isOf hZ rfl Q218
              obtain ⟨_, _, ⟨T223, L223, k223, n223⟩, -, X223, ⟨Lc223, hQ223, l223, y223, z223⟩, st223⟩ := X209.interfaceBack hx (xi := (⟨"java/util/List", "add", "(Ljava/lang/Object;)Z"⟩ : MethodName)) (y := (⟨"java/util/ArrayList", "add", "(Ljava/lang/Object;)Z"⟩ : MethodName)) hown (mvT hZ (hw _ (List.mem_of_getElem? (i := 120) rfl))) (mvT hZ (hw _ (List.mem_of_getElem? (i := 121) rfl))) (mvT hZ (hw _ (List.mem_of_getElem? (i := 122) rfl))) (mvT hZ (hw _ (List.mem_of_getElem? (i := 123) rfl))) (mvT hZ (hw _ (List.mem_of_getElem? (i := 59) rfl))) (mvT hZ (hw _ (List.mem_of_getElem? (i := 124) rfl))) (mvT hZ (hw _ (List.mem_of_getElem? (i := 125) rfl))) (mvT hZ (hw _ (List.mem_of_getElem? (i := 45) rfl))) (by decide) (backOf (W := 0) (own_al_add_6 l Z a0 hw [] b3 dd_39 kk_39 (((((((0 : Int32) + (1 : Int32)) + (1 : Int32)) + (1 : Int32)) + (1 : Int32)) + (1 : Int32)) + (1 : Int32)) (.ref sl0) (.ref sl1) (.ref sl2) (.ref sl3) (.ref sl4) (.ref sl5) sl6 T209.heap n0 Zs224 Q218 Q219 Q220 Q221 Q222 P45 gn_b3 gn_dd_39 ne66 (Ins.of_exa P211 (hw _ (List.mem_of_getElem? (i := 126) rfl)))) hZ (hw _ (List.mem_of_getElem? (i := 61) rfl)) (hw _ (List.mem_of_getElem? (i := 7) rfl)) (by decide) (by decide)) q223a q223b q223c (g := (mkF m 54 #[.val (.ref a), .val (.int cc), .val (.int sz), .val (.ref b3), .val (.int o6)] [(.ref sl6), (.ref b3)])) rfl (by rw [hml]; rfl) (Steps.refl _) (argsL := [(.ref sl6)]) (rest := []) (lenOf own_split_pd4 rfl) rfl (by show 2 * 0 + _ ≤ _; exact Nat.le_of_eq rfl) (hb hby own_split_d54) (fun _ _ => ⟨rfl, rfl, (by decide : 14 + 1 ≤ _), (by decide : 98 + 10 ≤ _)⟩)
              dsimp only [Pt.U, Pt.locs, Pt.cells, Pt.slots] at X223 l223 y223 z223 st223 hQ223
              obtain rfl : k223 = 15 := y223
              obtain rfl : n223 = 108 := z223
              obtain ⟨rfl, N223q, R223, P225, P226, P227, P228⟩ := hQ223
              have N223 : Fr n0 L223 := l223 ▸ Fr.app N209 N223q
              refine ownStep (fun _ k => st223.trans k) ?_
              have KP229 : Keep h0 T223.heap [] := KP217.trans R223 (allS (Or.inr gh_b3) (allS (Or.inr gh_dd_39) all0))
              refine ownStep (fun _ k => XS.pop X223.here hx rfl (hb hby own_split_d59) rfl rfl k) ?_
              refine ownStep (fun _ k => XS.iload X223.here hx rfl (hb hby own_split_d60) rfl  k) ?_
              refine ownStep (fun _ k => XS.iloadN X223.here hx rfl (hb hby own_split_d62) rfl  k) ?_
              refine ownStep (fun _ k => XS.iadd X223.here hx rfl (hb hby own_split_d63) rfl k) ?_
              show ownGo p.tables e below (T223.setTop (mkF m 64 #[.val (.ref a), .val (.int cc), .val (.int sz), .val (.ref b3), .val (.int o6)] [(.int (o6 + sz))])) _
              obtain ⟨o7, h_o7, ho7⟩ : ∃ z : Int32, (o6 + sz) = z ∧ z = (7 : Int32) * sz := ⟨_, rfl, own_osum ho6 (by decide)⟩
              rw [h_o7]
              refine ownStep (fun _ k => XS.istore X223.here hx rfl (hb hby own_split_d64) rfl (l' := #[.val (.ref a), .val (.int cc), .val (.int sz), .val (.ref b3), .val (.int o7)]) rfl k) ?_
              refine ownStep (fun _ k => XS.goto X223.here hx rfl (pc0 := 66) (pc' := 21) rfl (hb hby own_split_d66) (by decide) (by decide) k) ?_
              refine ownStep (fun _ k => XS.iload X223.here hx rfl (hb hby own_split_d21) rfl  k) ?_
              refine ownStep (fun _ k => XS.aloadN X223.here hx rfl (hb hby own_split_d23) rfl rfl k) ?_
              show ownGo p.tables e below (T223.setTop (mkF m 24 #[.val (.ref a), .val (.int cc), .val (.int sz), .val (.ref b3), .val (.int o7)] [(.ref a), (.int o7)])) _
              have Q230 : Fld Z T223.heap a "java/util/ArrayList" "size" "I" (.int nn) := ((Q200.ext R209).keep R223 (ninS ne15 (ninS ne79 nin0)))
              have Zs232 : n0 ≤ T223.heap.size := Nat.le_trans Z0 KP229.1
              have Q233 : Exa Z T223.heap a "java/util/ArrayList" := ((Q203.ext R209).keep R223)
              obtain ⟨cq231, kq231, q231a, q231b, q231c⟩ := isOf hZ rfl Q233
              obtain ⟨_, _, ⟨T231, L231, k231, n231⟩, -, X231, ⟨Lc231, hQ231, l231, y231, z231⟩, st231⟩ := X223.interfaceBack hx (xi := (⟨"java/util/List", "size", "()I"⟩ : MethodName)) (y := (⟨"java/util/ArrayList", "size", "()I"⟩ : MethodName)) hown (mvT hZ (hw _ (List.mem_of_getElem? (i := 38) rfl))) (mvT hZ (hw _ (List.mem_of_getElem? (i := 39) rfl))) (mvT hZ (hw _ (List.mem_of_getElem? (i := 40) rfl))) (mvT hZ (hw _ (List.mem_of_getElem? (i := 41) rfl))) (mvT hZ (hw _ (List.mem_of_getElem? (i := 42) rfl))) (mvT hZ (hw _ (List.mem_of_getElem? (i := 43) rfl))) (mvT hZ (hw _ (List.mem_of_getElem? (i := 44) rfl))) (mvT hZ (hw _ (List.mem_of_getElem? (i := 45) rfl))) (by decide) (backOf (W := 1) (own_asz l Z a0 hw [] a nn T223.heap n0 Zs232 Q230) hZ (hw _ (List.mem_of_getElem? (i := 46) rfl)) (hw _ (List.mem_of_getElem? (i := 7) rfl)) (by decide) (by decide)) q231a q231b q231c (g := (mkF m 24 #[.val (.ref a), .val (.int cc), .val (.int sz), .val (.ref b3), .val (.int o7)] [(.ref a), (.int o7)])) rfl (by rw [hml]; rfl) (Steps.refl _) (argsL := []) (rest := [(.int o7)]) (lenOf own_split_pd2 rfl) rfl (by show 2 * 0 + _ ≤ _; exact Nat.le_of_eq rfl) (hb hby own_split_d24) (fun _ _ => ⟨rfl, rfl, (by decide : 15 + 0 ≤ _), (by decide : 108 + 0 ≤ _)⟩)
              dsimp only [Pt.U, Pt.locs, Pt.cells, Pt.slots] at X231 l231 y231 z231 st231 hQ231
              obtain rfl : k231 = 15 := y231
              obtain rfl : n231 = 108 := z231
              obtain ⟨rfl, N231q, R231⟩ := hQ231
              have N231 : Fr n0 L231 := l231 ▸ Fr.app N223 N231q
              refine ownStep (fun _ k => st231.trans k) ?_
              show ownGo p.tables e below (T231.setTop (mkF m 29 #[.val (.ref a), .val (.int cc), .val (.int sz), .val (.ref b3), .val (.int o7)] [(.int nn), (.int o7)])) _
              have hb7 : ¬ o7 < nn := own_o7 hzp hn7 ho7
              refine ownStep (fun _ k => XS.icmpYes X231.here hx rfl (pc0 := 29) (pc' := 69) rfl (hb hby own_split_d29) rfl (flt (hb7 : ¬ o7 < nn)).2.1 (by decide) (by decide) k) ?_
              refine ownStep (fun _ k => XS.aloadN X231.here hx rfl (hb hby own_split_d69) rfl rfl k) ?_
              show ownGo p.tables e below (T231.setTop (mkF m 70 #[.val (.ref a), .val (.int cc), .val (.int sz), .val (.ref b3), .val (.int o7)] [(.ref b3)])) _
              have Vo234 := P228
              obtain ⟨cl234, Ar234, q234, S234, N234, H234, G234⟩ := Vo234
              have Q235 : Exa Z T223.heap sl0 "java/util/ArrayList$SubList" := (((((((((((((P27.keep R39).ext R57).keep R72).ext R89).keep R103).ext R119).keep R133).ext R149).keep R163).ext R179).keep R193).ext R209).keep R223)
              have ne236 : b3 ≠ sl0 := Nat.ne_of_lt (Nat.lt_of_lt_of_le (Nat.lt_of_lt_of_le P11.lt (Nat.le_refl _)) P32)
              have ne237 : sl0 ≠ dd_39 := Nat.ne_of_lt (Nat.lt_of_lt_of_le (Nat.lt_of_lt_of_le P27.lt (Nat.le_refl _)) P46)
              have Q238 : Fld Z T223.heap sl0 "java/util/ArrayList$SubList" "root" "Ljava/util/ArrayList;" (.ref a) := (((((((((((((P28.keep R39 (ninS (Ne.symm ne236) nin0)).ext R57).keep R72 (ninS (Ne.symm ne236) (ninS ne237 nin0))).ext R89).keep R103 (ninS (Ne.symm ne236) (ninS ne237 nin0))).ext R119).keep R133 (ninS (Ne.symm ne236) (ninS ne237 nin0))).ext R149).keep R163 (ninS (Ne.symm ne236) (ninS ne237 nin0))).ext R179).keep R193 (ninS (Ne.symm ne236) (ninS ne237 nin0))).ext R209).keep R223 (ninS (Ne.symm ne236) (ninS ne237 nin0)))
              have Q239 : Fld Z T223.heap sl0 "java/util/ArrayList$SubList" "offset" "I" (.int o0) := (((((((((((((P29.keep R39 (ninS (Ne.symm ne236) nin0)).ext R57).keep R72 (ninS (Ne.symm ne236) (ninS ne237 nin0))).ext R89).keep R103 (ninS (Ne.symm ne236) (ninS ne237 nin0))).ext R119).keep R133 (ninS (Ne.symm ne236) (ninS ne237 nin0))).ext R149).keep R163 (ninS (Ne.symm ne236) (ninS ne237 nin0))).ext R179).keep R193 (ninS (Ne.symm ne236) (ninS ne237 nin0))).ext R209).keep R223 (ninS (Ne.symm ne236) (ninS ne237 nin0)))
              have Q240 : Fld Z T223.heap sl0 "java/util/ArrayList$SubList" "size" "I" (.int ((own_min nn (o0 + sz)) - o0)) := (((((((((((((P30.keep R39 (ninS (Ne.symm ne236) nin0)).ext R57).keep R72 (ninS (Ne.symm ne236) (ninS ne237 nin0))).ext R89).keep R103 (ninS (Ne.symm ne236) (ninS ne237 nin0))).ext R119).keep R133 (ninS (Ne.symm ne236) (ninS ne237 nin0))).ext R149).keep R163 (ninS (Ne.symm ne236) (ninS ne237 nin0))).ext R179).keep R193 (ninS (Ne.symm ne236) (ninS ne237 nin0))).ext R209).keep R223 (ninS (Ne.symm ne236) (ninS ne237 nin0)))
              have Q241 : Fld Z T223.heap sl0 "java/util/AbstractList" "modCount" "I" (.int mc) := (((((((((((((P31.keep R39 (ninS (Ne.symm ne236) nin0)).ext R57).keep R72 (ninS (Ne.symm ne236) (ninS ne237 nin0))).ext R89).keep R103 (ninS (Ne.symm ne236) (ninS ne237 nin0))).ext R119).keep R133 (ninS (Ne.symm ne236) (ninS ne237 nin0))).ext R149).keep R163 (ninS (Ne.symm ne236) (ninS ne237 nin0))).ext R179).keep R193 (ninS (Ne.symm ne236) (ninS ne237 nin0))).ext R209).keep R223 (ninS (Ne.symm ne236) (ninS ne237 nin0)))
              have B0 : own_subat Z T223.heap cl234 a mc nn sz (0 : Int32) := ⟨sl0, o0, _, H234.at (inb_of S234 ⟨by decide, by decide⟩) rfl, ho0, rfl, Q235, Q238, Q239, Q240, Q241⟩
              have Q242 : Exa Z T223.heap sl1 "java/util/ArrayList$SubList" := (((((((((((P59.keep R72).ext R89).keep R103).ext R119).keep R133).ext R149).keep R163).ext R179).keep R193).ext R209).keep R223)
              have ne243 : dd_39 ≠ sl1 := Nat.ne_of_lt (Nat.lt_of_lt_of_le (Nat.lt_of_lt_of_le P44.lt (Nat.le_refl _)) P64)
              have ne244 : b3 ≠ sl1 := Nat.ne_of_lt (Nat.lt_of_lt_of_le (Nat.lt_of_lt_of_le P41.lt (Nat.le_refl _)) P64)
              have Q245 : Fld Z T223.heap sl1 "java/util/ArrayList$SubList" "root" "Ljava/util/ArrayList;" (.ref a) := (((((((((((P60.keep R72 (ninS (Ne.symm ne244) (ninS (Ne.symm ne243) nin0))).ext R89).keep R103 (ninS (Ne.symm ne244) (ninS (Ne.symm ne243) nin0))).ext R119).keep R133 (ninS (Ne.symm ne244) (ninS (Ne.symm ne243) nin0))).ext R149).keep R163 (ninS (Ne.symm ne244) (ninS (Ne.symm ne243) nin0))).ext R179).keep R193 (ninS (Ne.symm ne244) (ninS (Ne.symm ne243) nin0))).ext R209).keep R223 (ninS (Ne.symm ne244) (ninS (Ne.symm ne243) nin0)))
              have Q246 : Fld Z T223.heap sl1 "java/util/ArrayList$SubList" "offset" "I" (.int o1) := (((((((((((P61.keep R72 (ninS (Ne.symm ne244) (ninS (Ne.symm ne243) nin0))).ext R89).keep R103 (ninS (Ne.symm ne244) (ninS (Ne.symm ne243) nin0))).ext R119).keep R133 (ninS (Ne.symm ne244) (ninS (Ne.symm ne243) nin0))).ext R149).keep R163 (ninS (Ne.symm ne244) (ninS (Ne.symm ne243) nin0))).ext R179).keep R193 (ninS (Ne.symm ne244) (ninS (Ne.symm ne243) nin0))).ext R209).keep R223 (ninS (Ne.symm ne244) (ninS (Ne.symm ne243) nin0)))
              have Q247 : Fld Z T223.heap sl1 "java/util/ArrayList$SubList" "size" "I" (.int ((own_min nn (o1 + sz)) - o1)) := (((((((((((P62.keep R72 (ninS (Ne.symm ne244) (ninS (Ne.symm ne243) nin0))).ext R89).keep R103 (ninS (Ne.symm ne244) (ninS (Ne.symm ne243) nin0))).ext R119).keep R133 (ninS (Ne.symm ne244) (ninS (Ne.symm ne243) nin0))).ext R149).keep R163 (ninS (Ne.symm ne244) (ninS (Ne.symm ne243) nin0))).ext R179).keep R193 (ninS (Ne.symm ne244) (ninS (Ne.symm ne243) nin0))).ext R209).keep R223 (ninS (Ne.symm ne244) (ninS (Ne.symm ne243) nin0)))
              have Q248 : Fld Z T223.heap sl1 "java/util/AbstractList" "modCount" "I" (.int mc) := (((((((((((P63.keep R72 (ninS (Ne.symm ne244) (ninS (Ne.symm ne243) nin0))).ext R89).keep R103 (ninS (Ne.symm ne244) (ninS (Ne.symm ne243) nin0))).ext R119).keep R133 (ninS (Ne.symm ne244) (ninS (Ne.symm ne243) nin0))).ext R149).keep R163 (ninS (Ne.symm ne244) (ninS (Ne.symm ne243) nin0))).ext R179).keep R193 (ninS (Ne.symm ne244) (ninS (Ne.symm ne243) nin0))).ext R209).keep R223 (ninS (Ne.symm ne244) (ninS (Ne.symm ne243) nin0)))
              have B1 : own_subat Z T223.heap cl234 a mc nn sz (1 : Int32) := ⟨sl1, o1, _, H234.at (inb_of S234 ⟨by decide, by decide⟩) rfl, ho1, rfl, Q242, Q245, Q246, Q247, Q248⟩
              have Q249 : Exa Z T223.heap sl2 "java/util/ArrayList$SubList" := (((((((((P91.keep R103).ext R119).keep R133).ext R149).keep R163).ext R179).keep R193).ext R209).keep R223)
              have ne250 : dd_39 ≠ sl2 := Nat.ne_of_lt (Nat.lt_of_lt_of_le (Nat.lt_of_lt_of_le P77.lt (Nat.le_refl _)) P96)
              have ne251 : b3 ≠ sl2 := Nat.ne_of_lt (Nat.lt_of_lt_of_le (Nat.lt_of_lt_of_le P74.lt (Nat.le_refl _)) P96)
              have Q252 : Fld Z T223.heap sl2 "java/util/ArrayList$SubList" "root" "Ljava/util/ArrayList;" (.ref a) := (((((((((P92.keep R103 (ninS (Ne.symm ne251) (ninS (Ne.symm ne250) nin0))).ext R119).keep R133 (ninS (Ne.symm ne251) (ninS (Ne.symm ne250) nin0))).ext R149).keep R163 (ninS (Ne.symm ne251) (ninS (Ne.symm ne250) nin0))).ext R179).keep R193 (ninS (Ne.symm ne251) (ninS (Ne.symm ne250) nin0))).ext R209).keep R223 (ninS (Ne.symm ne251) (ninS (Ne.symm ne250) nin0)))
              have Q253 : Fld Z T223.heap sl2 "java/util/ArrayList$SubList" "offset" "I" (.int o2) := (((((((((P93.keep R103 (ninS (Ne.symm ne251) (ninS (Ne.symm ne250) nin0))).ext R119).keep R133 (ninS (Ne.symm ne251) (ninS (Ne.symm ne250) nin0))).ext R149).keep R163 (ninS (Ne.symm ne251) (ninS (Ne.symm ne250) nin0))).ext R179).keep R193 (ninS (Ne.symm ne251) (ninS (Ne.symm ne250) nin0))).ext R209).keep R223 (ninS (Ne.symm ne251) (ninS (Ne.symm ne250) nin0)))
              have Q254 : Fld Z T223.heap sl2 "java/util/ArrayList$SubList" "size" "I" (.int ((own_min nn (o2 + sz)) - o2)) := (((((((((P94.keep R103 (ninS (Ne.symm ne251) (ninS (Ne.symm ne250) nin0))).ext R119).keep R133 (ninS (Ne.symm ne251) (ninS (Ne.symm ne250) nin0))).ext R149).keep R163 (ninS (Ne.symm ne251) (ninS (Ne.symm ne250) nin0))).ext R179).keep R193 (ninS (Ne.symm ne251) (ninS (Ne.symm ne250) nin0))).ext R209).keep R223 (ninS (Ne.symm ne251) (ninS (Ne.symm ne250) nin0)))
              have Q255 : Fld Z T223.heap sl2 "java/util/AbstractList" "modCount" "I" (.int mc) := (((((((((P95.keep R103 (ninS (Ne.symm ne251) (ninS (Ne.symm ne250) nin0))).ext R119).keep R133 (ninS (Ne.symm ne251) (ninS (Ne.symm ne250) nin0))).ext R149).keep R163 (ninS (Ne.symm ne251) (ninS (Ne.symm ne250) nin0))).ext R179).keep R193 (ninS (Ne.symm ne251) (ninS (Ne.symm ne250) nin0))).ext R209).keep R223 (ninS (Ne.symm ne251) (ninS (Ne.symm ne250) nin0)))
              have B2 : own_subat Z T223.heap cl234 a mc nn sz (2 : Int32) := ⟨sl2, o2, _, H234.at (inb_of S234 ⟨by decide, by decide⟩) rfl, ho2, rfl, Q249, Q252, Q253, Q254, Q255⟩
              have Q256 : Exa Z T223.heap sl3 "java/util/ArrayList$SubList" := (((((((P121.keep R133).ext R149).keep R163).ext R179).keep R193).ext R209).keep R223)
              have ne257 : dd_39 ≠ sl3 := Nat.ne_of_lt (Nat.lt_of_lt_of_le (Nat.lt_of_lt_of_le P108.lt (Nat.le_refl _)) P126)
              have ne258 : b3 ≠ sl3 := Nat.ne_of_lt (Nat.lt_of_lt_of_le (Nat.lt_of_lt_of_le P105.lt (Nat.le_refl _)) P126)
              have Q259 : Fld Z T223.heap sl3 "java/util/ArrayList$SubList" "root" "Ljava/util/ArrayList;" (.ref a) := (((((((P122.keep R133 (ninS (Ne.symm ne258) (ninS (Ne.symm ne257) nin0))).ext R149).keep R163 (ninS (Ne.symm ne258) (ninS (Ne.symm ne257) nin0))).ext R179).keep R193 (ninS (Ne.symm ne258) (ninS (Ne.symm ne257) nin0))).ext R209).keep R223 (ninS (Ne.symm ne258) (ninS (Ne.symm ne257) nin0)))
              have Q260 : Fld Z T223.heap sl3 "java/util/ArrayList$SubList" "offset" "I" (.int o3) := (((((((P123.keep R133 (ninS (Ne.symm ne258) (ninS (Ne.symm ne257) nin0))).ext R149).keep R163 (ninS (Ne.symm ne258) (ninS (Ne.symm ne257) nin0))).ext R179).keep R193 (ninS (Ne.symm ne258) (ninS (Ne.symm ne257) nin0))).ext R209).keep R223 (ninS (Ne.symm ne258) (ninS (Ne.symm ne257) nin0)))
              have Q261 : Fld Z T223.heap sl3 "java/util/ArrayList$SubList" "size" "I" (.int ((own_min nn (o3 + sz)) - o3)) := (((((((P124.keep R133 (ninS (Ne.symm ne258) (ninS (Ne.symm ne257) nin0))).ext R149).keep R163 (ninS (Ne.symm ne258) (ninS (Ne.symm ne257) nin0))).ext R179).keep R193 (ninS (Ne.symm ne258) (ninS (Ne.symm ne257) nin0))).ext R209).keep R223 (ninS (Ne.symm ne258) (ninS (Ne.symm ne257) nin0)))
              have Q262 : Fld Z T223.heap sl3 "java/util/AbstractList" "modCount" "I" (.int mc) := (((((((P125.keep R133 (ninS (Ne.symm ne258) (ninS (Ne.symm ne257) nin0))).ext R149).keep R163 (ninS (Ne.symm ne258) (ninS (Ne.symm ne257) nin0))).ext R179).keep R193 (ninS (Ne.symm ne258) (ninS (Ne.symm ne257) nin0))).ext R209).keep R223 (ninS (Ne.symm ne258) (ninS (Ne.symm ne257) nin0)))
              have B3 : own_subat Z T223.heap cl234 a mc nn sz (3 : Int32) := ⟨sl3, o3, _, H234.at (inb_of S234 ⟨by decide, by decide⟩) rfl, ho3, rfl, Q256, Q259, Q260, Q261, Q262⟩
              have Q263 : Exa Z T223.heap sl4 "java/util/ArrayList$SubList" := (((((P151.keep R163).ext R179).keep R193).ext R209).keep R223)
              have ne264 : dd_39 ≠ sl4 := Nat.ne_of_lt (Nat.lt_of_lt_of_le (Nat.lt_of_lt_of_le P138.lt (Nat.le_refl _)) P156)
              have ne265 : b3 ≠ sl4 := Nat.ne_of_lt (Nat.lt_of_lt_of_le (Nat.lt_of_lt_of_le P135.lt (Nat.le_refl _)) P156)
              have Q266 : Fld Z T223.heap sl4 "java/util/ArrayList$SubList" "root" "Ljava/util/ArrayList;" (.ref a) := (((((P152.keep R163 (ninS (Ne.symm ne265) (ninS (Ne.symm ne264) nin0))).ext R179).keep R193 (ninS (Ne.symm ne265) (ninS (Ne.symm ne264) nin0))).ext R209).keep R223 (ninS (Ne.symm ne265) (ninS (Ne.symm ne264) nin0)))
              have Q267 : Fld Z T223.heap sl4 "java/util/ArrayList$SubList" "offset" "I" (.int o4) := (((((P153.keep R163 (ninS (Ne.symm ne265) (ninS (Ne.symm ne264) nin0))).ext R179).keep R193 (ninS (Ne.symm ne265) (ninS (Ne.symm ne264) nin0))).ext R209).keep R223 (ninS (Ne.symm ne265) (ninS (Ne.symm ne264) nin0)))
              have Q268 : Fld Z T223.heap sl4 "java/util/ArrayList$SubList" "size" "I" (.int ((own_min nn (o4 + sz)) - o4)) := (((((P154.keep R163 (ninS (Ne.symm ne265) (ninS (Ne.symm ne264) nin0))).ext R179).keep R193 (ninS (Ne.symm ne265) (ninS (Ne.symm ne264) nin0))).ext R209).keep R223 (ninS (Ne.symm ne265) (ninS (Ne.symm ne264) nin0)))
              have Q269 : Fld Z T223.heap sl4 "java/util/AbstractList" "modCount" "I" (.int mc) := (((((P155.keep R163 (ninS (Ne.symm ne265) (ninS (Ne.symm ne264) nin0))).ext R179).keep R193 (ninS (Ne.symm ne265) (ninS (Ne.symm ne264) nin0))).ext R209).keep R223 (ninS (Ne.symm ne265) (ninS (Ne.symm ne264) nin0)))
              have B4 : own_subat Z T223.heap cl234 a mc nn sz (4 : Int32) := ⟨sl4, o4, _, H234.at (inb_of S234 ⟨by decide, by decide⟩) rfl, ho4, rfl, Q263, Q266, Q267, Q268, Q269⟩
              have Q270 : Exa Z T223.heap sl5 "java/util/ArrayList$SubList" := (((P181.keep R193).ext R209).keep R223)
              have ne271 : dd_39 ≠ sl5 := Nat.ne_of_lt (Nat.lt_of_lt_of_le (Nat.lt_of_lt_of_le P168.lt (Nat.le_refl _)) P186)
              have ne272 : b3 ≠ sl5 := Nat.ne_of_lt (Nat.lt_of_lt_of_le (Nat.lt_of_lt_of_le P165.lt (Nat.le_refl _)) P186)
              have Q273 : Fld Z T223.heap sl5 "java/util/ArrayList$SubList" "root" "Ljava/util/ArrayList;" (.ref a) := (((P182.keep R193 (ninS (Ne.symm ne272) (ninS (Ne.symm ne271) nin0))).ext R209).keep R223 (ninS (Ne.symm ne272) (ninS (Ne.symm ne271) nin0)))
              have Q274 : Fld Z T223.heap sl5 "java/util/ArrayList$SubList" "offset" "I" (.int o5) := (((P183.keep R193 (ninS (Ne.symm ne272) (ninS (Ne.symm ne271) nin0))).ext R209).keep R223 (ninS (Ne.symm ne272) (ninS (Ne.symm ne271) nin0)))
              have Q275 : Fld Z T223.heap sl5 "java/util/ArrayList$SubList" "size" "I" (.int ((own_min nn (o5 + sz)) - o5)) := (((P184.keep R193 (ninS (Ne.symm ne272) (ninS (Ne.symm ne271) nin0))).ext R209).keep R223 (ninS (Ne.symm ne272) (ninS (Ne.symm ne271) nin0)))
              have Q276 : Fld Z T223.heap sl5 "java/util/AbstractList" "modCount" "I" (.int mc) := (((P185.keep R193 (ninS (Ne.symm ne272) (ninS (Ne.symm ne271) nin0))).ext R209).keep R223 (ninS (Ne.symm ne272) (ninS (Ne.symm ne271) nin0)))
              have B5 : own_subat Z T223.heap cl234 a mc nn sz (5 : Int32) := ⟨sl5, o5, _, H234.at (inb_of S234 ⟨by decide, by decide⟩) rfl, ho5, rfl, Q270, Q273, Q274, Q275, Q276⟩
              have Q277 : Exa Z T223.heap sl6 "java/util/ArrayList$SubList" := (P211.keep R223)
              have ne278 : dd_39 ≠ sl6 := Nat.ne_of_lt (Nat.lt_of_lt_of_le (Nat.lt_of_lt_of_le P198.lt (Nat.le_refl _)) P216)
              have ne279 : b3 ≠ sl6 := Nat.ne_of_lt (Nat.lt_of_lt_of_le (Nat.lt_of_lt_of_le P195.lt (Nat.le_refl _)) P216)
              have Q280 : Fld Z T223.heap sl6 "java/util/ArrayList$SubList" "root" "Ljava/util/ArrayList;" (.ref a) := (P212.keep R223 (ninS (Ne.symm ne279) (ninS (Ne.symm ne278) nin0)))
              have Q281 : Fld Z T223.heap sl6 "java/util/ArrayList$SubList" "offset" "I" (.int o6) := (P213.keep R223 (ninS (Ne.symm ne279) (ninS (Ne.symm ne278) nin0)))
              have Q282 : Fld Z T223.heap sl6 "java/util/ArrayList$SubList" "size" "I" (.int ((own_min nn (o6 + sz)) - o6)) := (P214.keep R223 (ninS (Ne.symm ne279) (ninS (Ne.symm ne278) nin0)))
              have Q283 : Fld Z T223.heap sl6 "java/util/AbstractList" "modCount" "I" (.int mc) := (P215.keep R223 (ninS (Ne.symm ne279) (ninS (Ne.symm ne278) nin0)))
              have B6 : own_subat Z T223.heap cl234 a mc nn sz (6 : Int32) := ⟨sl6, o6, _, H234.at (inb_of S234 ⟨by decide, by decide⟩) rfl, ho6, rfl, Q277, Q280, Q281, Q282, Q283⟩
              have Q284 : Exa Z T223.heap b3 "java/util/ArrayList" := (Q218.keep R223)
              exact ownRet X231 (v := some (.ref b3)) Bd.notSynchronized (fun h => by rw [Bd.returns] at h; cases h) (fun _ hr => retOut X231 hx (t := (.object "java/util/List")) Bd.returns rfl (Or.inr (Or.inr (Or.inr (Or.inr ⟨rfl, rfl, rfl⟩)))) (hb hby own_split_d70) hr) (by rw [R231]; exact ⟨b3, dd_39, cl234, (7 : Int32), sz, rfl, N231, (own_extOf KP229), Q284, P225, P226, Ar234, (S234.trans rfl), (own_all7 B0 B1 B2 B3 B4 B5 B6), hzp, (own_cntj hzp (i := (6 : Int32)) (by decide) (by decide) (by decide) ho6 hb6 ho7 hb7)⟩) (by decide) (by decide)
            · skip
              refine ownStep (fun _ k => XS.icmpYes X201.here hx rfl (pc0 := 29) (pc' := 69) rfl (hb hby own_split_d29) rfl (flt (hb6 : ¬ o6 < nn)).2.1 (by decide) (by decide) k) ?_
              refine ownStep (fun _ k => XS.aloadN X201.here hx rfl (hb hby own_split_d69) rfl rfl k) ?_
              show ownGo p.tables e below (T201.setTop (mkF m 70 #[.val (.ref a), .val (.int cc), .val (.int sz), .val (.ref b3), .val (.int o6)] [(.ref b3)])) _
              have Vo285 := P198
              obtain ⟨cl285, Ar285, q285, S285, N285, H285, G285⟩ := Vo285
              have Q286 : Exa Z T193.heap sl0 "java/util/ArrayList$SubList" := (((((((((((P27.keep R39).ext R57).keep R72).ext R89).keep R103).ext R119).keep R133).ext R149).keep R163).ext R179).keep R193)
              have ne287 : b3 ≠ sl0 := Nat.ne_of_lt (Nat.lt_of_lt_of_le (Nat.lt_of_lt_of_le P11.lt (Nat.le_refl _)) P32)
              have ne288 : sl0 ≠ dd_39 := Nat.ne_of_lt (Nat.lt_of_lt_of_le (Nat.lt_of_lt_of_le P27.lt (Nat.le_refl _)) P46)
              have Q289 : Fld Z T193.heap sl0 "java/util/ArrayList$SubList" "root" "Ljava/util/ArrayList;" (.ref a) := (((((((((((P28.keep R39 (ninS (Ne.symm ne287) nin0)).ext R57).keep R72 (ninS (Ne.symm ne287) (ninS ne288 nin0))).ext R89).keep R103 (ninS (Ne.symm ne287) (ninS ne288 nin0))).ext R119).keep R133 (ninS (Ne.symm ne287) (ninS ne288 nin0))).ext R149).keep R163 (ninS (Ne.symm ne287) (ninS ne288 nin0))).ext R179).keep R193 (ninS (Ne.symm ne287) (ninS ne288 nin0)))
              have Q290 : Fld Z T193.heap sl0 "java/util/ArrayList$SubList" "offset" "I" (.int o0) := (((((((((((P29.keep R39 (ninS (Ne.symm ne287) nin0)).ext R57).keep R72 (ninS (Ne.symm ne287) (ninS ne288 nin0))).ext R89).keep R103 (ninS (Ne.symm ne287) (ninS ne288 nin0))).ext R119).keep R133 (ninS (Ne.symm ne287) (ninS ne288 nin0))).ext R149).keep R163 (ninS (Ne.symm ne287) (ninS ne288 nin0))).ext R179).keep R193 (ninS (Ne.symm ne287) (ninS ne288 nin0)))
              have Q291 : Fld Z T193.heap sl0 "java/util/ArrayList$SubList" "size" "I" (.int ((own_min nn (o0 + sz)) - o0)) := (((((((((((P30.keep R39 (ninS (Ne.symm ne287) nin0)).ext R57).keep R72 (ninS (Ne.symm ne287) (ninS ne288 nin0))).ext R89).keep R103 (ninS (Ne.symm ne287) (ninS ne288 nin0))).ext R119).keep R133 (ninS (Ne.symm ne287) (ninS ne288 nin0))).ext R149).keep R163 (ninS (Ne.symm ne287) (ninS ne288 nin0))).ext R179).keep R193 (ninS (Ne.symm ne287) (ninS ne288 nin0)))
              have Q292 : Fld Z T193.heap sl0 "java/util/AbstractList" "modCount" "I" (.int mc) := (((((((((((P31.keep R39 (ninS (Ne.symm ne287) nin0)).ext R57).keep R72 (ninS (Ne.symm ne287) (ninS ne288 nin0))).ext R89).keep R103 (ninS (Ne.symm ne287) (ninS ne288 nin0))).ext R119).keep R133 (ninS (Ne.symm ne287) (ninS ne288 nin0))).ext R149).keep R163 (ninS (Ne.symm ne287) (ninS ne288 nin0))).ext R179).keep R193 (ninS (Ne.symm ne287) (ninS ne288 nin0)))
              have B0 : own_subat Z T193.heap cl285 a mc nn sz (0 : Int32) := ⟨sl0, o0, _, H285.at (inb_of S285 ⟨by decide, by decide⟩) rfl, ho0, rfl, Q286, Q289, Q290, Q291, Q292⟩
              have Q293 : Exa Z T193.heap sl1 "java/util/ArrayList$SubList" := (((((((((P59.keep R72).ext R89).keep R103).ext R119).keep R133).ext R149).keep R163).ext R179).keep R193)
              have ne294 : dd_39 ≠ sl1 := Nat.ne_of_lt (Nat.lt_of_lt_of_le (Nat.lt_of_lt_of_le P44.lt (Nat.le_refl _)) P64)
              have ne295 : b3 ≠ sl1 := Nat.ne_of_lt (Nat.lt_of_lt_of_le (Nat.lt_of_lt_of_le P41.lt (Nat.le_refl _)) P64)
              have Q296 : Fld Z T193.heap sl1 "java/util/ArrayList$SubList" "root" "Ljava/util/ArrayList;" (.ref a) := (((((((((P60.keep R72 (ninS (Ne.symm ne295) (ninS (Ne.symm ne294) nin0))).ext R89).keep R103 (ninS (Ne.symm ne295) (ninS (Ne.symm ne294) nin0))).ext R119).keep R133 (ninS (Ne.symm ne295) (ninS (Ne.symm ne294) nin0))).ext R149).keep R163 (ninS (Ne.symm ne295) (ninS (Ne.symm ne294) nin0))).ext R179).keep R193 (ninS (Ne.symm ne295) (ninS (Ne.symm ne294) nin0)))
              have Q297 : Fld Z T193.heap sl1 "java/util/ArrayList$SubList" "offset" "I" (.int o1) := (((((((((P61.keep R72 (ninS (Ne.symm ne295) (ninS (Ne.symm ne294) nin0))).ext R89).keep R103 (ninS (Ne.symm ne295) (ninS (Ne.symm ne294) nin0))).ext R119).keep R133 (ninS (Ne.symm ne295) (ninS (Ne.symm ne294) nin0))).ext R149).keep R163 (ninS (Ne.symm ne295) (ninS (Ne.symm ne294) nin0))).ext R179).keep R193 (ninS (Ne.symm ne295) (ninS (Ne.symm ne294) nin0)))
              have Q298 : Fld Z T193.heap sl1 "java/util/ArrayList$SubList" "size" "I" (.int ((own_min nn (o1 + sz)) - o1)) := (((((((((P62.keep R72 (ninS (Ne.symm ne295) (ninS (Ne.symm ne294) nin0))).ext R89).keep R103 (ninS (Ne.symm ne295) (ninS (Ne.symm ne294) nin0))).ext R119).keep R133 (ninS (Ne.symm ne295) (ninS (Ne.symm ne294) nin0))).ext R149).keep R163 (ninS (Ne.symm ne295) (ninS (Ne.symm ne294) nin0))).ext R179).keep R193 (ninS (Ne.symm ne295) (ninS (Ne.symm ne294) nin0)))
              have Q299 : Fld Z T193.heap sl1 "java/util/AbstractList" "modCount" "I" (.int mc) := (((((((((P63.keep R72 (ninS (Ne.symm ne295) (ninS (Ne.symm ne294) nin0))).ext R89).keep R103 (ninS (Ne.symm ne295) (ninS (Ne.symm ne294) nin0))).ext R119).keep R133 (ninS (Ne.symm ne295) (ninS (Ne.symm ne294) nin0))).ext R149).keep R163 (ninS (Ne.symm ne295) (ninS (Ne.symm ne294) nin0))).ext R179).keep R193 (ninS (Ne.symm ne295) (ninS (Ne.symm ne294) nin0)))
              have B1 : own_subat Z T193.heap cl285 a mc nn sz (1 : Int32) := ⟨sl1, o1, _, H285.at (inb_of S285 ⟨by decide, by decide⟩) rfl, ho1, rfl, Q293, Q296, Q297, Q298, Q299⟩
              have Q300 : Exa Z T193.heap sl2 "java/util/ArrayList$SubList" := (((((((P91.keep R103).ext R119).keep R133).ext R149).keep R163).ext R179).keep R193)
              have ne301 : dd_39 ≠ sl2 := Nat.ne_of_lt (Nat.lt_of_lt_of_le (Nat.lt_of_lt_of_le P77.lt (Nat.le_refl _)) P96)
              have ne302 : b3 ≠ sl2 := Nat.ne_of_lt (Nat.lt_of_lt_of_le (Nat.lt_of_lt_of_le P74.lt (Nat.le_refl _)) P96)
              have Q303 : Fld Z T193.heap sl2 "java/util/ArrayList$SubList" "root" "Ljava/util/ArrayList;" (.ref a) := (((((((P92.keep R103 (ninS (Ne.symm ne302) (ninS (Ne.symm ne301) nin0))).ext R119).keep R133 (ninS (Ne.symm ne302) (ninS (Ne.symm ne301) nin0))).ext R149).keep R163 (ninS (Ne.symm ne302) (ninS (Ne.symm ne301) nin0))).ext R179).keep R193 (ninS (Ne.symm ne302) (ninS (Ne.symm ne301) nin0)))
              have Q304 : Fld Z T193.heap sl2 "java/util/ArrayList$SubList" "offset" "I" (.int o2) := (((((((P93.keep R103 (ninS (Ne.symm ne302) (ninS (Ne.symm ne301) nin0))).ext R119).keep R133 (ninS (Ne.symm ne302) (ninS (Ne.symm ne301) nin0))).ext R149).keep R163 (ninS (Ne.symm ne302) (ninS (Ne.symm ne301) nin0))).ext R179).keep R193 (ninS (Ne.symm ne302) (ninS (Ne.symm ne301) nin0)))
              have Q305 : Fld Z T193.heap sl2 "java/util/ArrayList$SubList" "size" "I" (.int ((own_min nn (o2 + sz)) - o2)) := (((((((P94.keep R103 (ninS (Ne.symm ne302) (ninS (Ne.symm ne301) nin0))).ext R119).keep R133 (ninS (Ne.symm ne302) (ninS (Ne.symm ne301) nin0))).ext R149).keep R163 (ninS (Ne.symm ne302) (ninS (Ne.symm ne301) nin0))).ext R179).keep R193 (ninS (Ne.symm ne302) (ninS (Ne.symm ne301) nin0)))
              have Q306 : Fld Z T193.heap sl2 "java/util/AbstractList" "modCount" "I" (.int mc) := (((((((P95.keep R103 (ninS (Ne.symm ne302) (ninS (Ne.symm ne301) nin0))).ext R119).keep R133 (ninS (Ne.symm ne302) (ninS (Ne.symm ne301) nin0))).ext R149).keep R163 (ninS (Ne.symm ne302) (ninS (Ne.symm ne301) nin0))).ext R179).keep R193 (ninS (Ne.symm ne302) (ninS (Ne.symm ne301) nin0)))
              have B2 : own_subat Z T193.heap cl285 a mc nn sz (2 : Int32) := ⟨sl2, o2, _, H285.at (inb_of S285 ⟨by decide, by decide⟩) rfl, ho2, rfl, Q300, Q303, Q304, Q305, Q306⟩
              have Q307 : Exa Z T193.heap sl3 "java/util/ArrayList$SubList" := (((((P121.keep R133).ext R149).keep R163).ext R179).keep R193)
              have ne308 : dd_39 ≠ sl3 := Nat.ne_of_lt (Nat.lt_of_lt_of_le (Nat.lt_of_lt_of_le P108.lt (Nat.le_refl _)) P126)
              have ne309 : b3 ≠ sl3 := Nat.ne_of_lt (Nat.lt_of_lt_of_le (Nat.lt_of_lt_of_le P105.lt (Nat.le_refl _)) P126)
              have Q310 : Fld Z T193.heap sl3 "java/util/ArrayList$SubList" "root" "Ljava/util/ArrayList;" (.ref a) := (((((P122.keep R133 (ninS (Ne.symm ne309) (ninS (Ne.symm ne308) nin0))).ext R149).keep R163 (ninS (Ne.symm ne309) (ninS (Ne.symm ne308) nin0))).ext R179).keep R193 (ninS (Ne.symm ne309) (ninS (Ne.symm ne308) nin0)))
              have Q311 : Fld Z T193.heap sl3 "java/util/ArrayList$SubList" "offset" "I" (.int o3) := (((((P123.keep R133 (ninS (Ne.symm ne309) (ninS (Ne.symm ne308) nin0))).ext R149).keep R163 (ninS (Ne.symm ne309) (ninS (Ne.symm ne308) nin0))).ext R179).keep R193 (ninS (Ne.symm ne309) (ninS (Ne.symm ne308) nin0)))
              have Q312 : Fld Z T193.heap sl3 "java/util/ArrayList$SubList" "size" "I" (.int ((own_min nn (o3 + sz)) - o3)) := (((((P124.keep R133 (ninS (Ne.symm ne309) (ninS (Ne.symm ne308) nin0))).ext R149).keep R163 (ninS (Ne.symm ne309) (ninS (Ne.symm ne308) nin0))).ext R179).keep R193 (ninS (Ne.symm ne309) (ninS (Ne.symm ne308) nin0)))
              have Q313 : Fld Z T193.heap sl3 "java/util/AbstractList" "modCount" "I" (.int mc) := (((((P125.keep R133 (ninS (Ne.symm ne309) (ninS (Ne.symm ne308) nin0))).ext R149).keep R163 (ninS (Ne.symm ne309) (ninS (Ne.symm ne308) nin0))).ext R179).keep R193 (ninS (Ne.symm ne309) (ninS (Ne.symm ne308) nin0)))
              have B3 : own_subat Z T193.heap cl285 a mc nn sz (3 : Int32) := ⟨sl3, o3, _, H285.at (inb_of S285 ⟨by decide, by decide⟩) rfl, ho3, rfl, Q307, Q310, Q311, Q312, Q313⟩
              have Q314 : Exa Z T193.heap sl4 "java/util/ArrayList$SubList" := (((P151.keep R163).ext R179).keep R193)
              have ne315 : dd_39 ≠ sl4 := Nat.ne_of_lt (Nat.lt_of_lt_of_le (Nat.lt_of_lt_of_le P138.lt (Nat.le_refl _)) P156)
              have ne316 : b3 ≠ sl4 := Nat.ne_of_lt (Nat.lt_of_lt_of_le (Nat.lt_of_lt_of_le P135.lt (Nat.le_refl _)) P156)
              have Q317 : Fld Z T193.heap sl4 "java/util/ArrayList$SubList" "root" "Ljava/util/ArrayList;" (.ref a) := (((P152.keep R163 (ninS (Ne.symm ne316) (ninS (Ne.symm ne315) nin0))).ext R179).keep R193 (ninS (Ne.symm ne316) (ninS (Ne.symm ne315) nin0)))
              have Q318 : Fld Z T193.heap sl4 "java/util/ArrayList$SubList" "offset" "I" (.int o4) := (((P153.keep R163 (ninS (Ne.symm ne316) (ninS (Ne.symm ne315) nin0))).ext R179).keep R193 (ninS (Ne.symm ne316) (ninS (Ne.symm ne315) nin0)))
              have Q319 : Fld Z T193.heap sl4 "java/util/ArrayList$SubList" "size" "I" (.int ((own_min nn (o4 + sz)) - o4)) := (((P154.keep R163 (ninS (Ne.symm ne316) (ninS (Ne.symm ne315) nin0))).ext R179).keep R193 (ninS (Ne.symm ne316) (ninS (Ne.symm ne315) nin0)))
              have Q320 : Fld Z T193.heap sl4 "java/util/AbstractList" "modCount" "I" (.int mc) := (((P155.keep R163 (ninS (Ne.symm ne316) (ninS (Ne.symm ne315) nin0))).ext R179).keep R193 (ninS (Ne.symm ne316) (ninS (Ne.symm ne315) nin0)))
              have B4 : own_subat Z T193.heap cl285 a mc nn sz (4 : Int32) := ⟨sl4, o4, _, H285.at (inb_of S285 ⟨by decide, by decide⟩) rfl, ho4, rfl, Q314, Q317, Q318, Q319, Q320⟩
              have Q321 : Exa Z T193.heap sl5 "java/util/ArrayList$SubList" := (P181.keep R193)
              have ne322 : dd_39 ≠ sl5 := Nat.ne_of_lt (Nat.lt_of_lt_of_le (Nat.lt_of_lt_of_le P168.lt (Nat.le_refl _)) P186)
              have ne323 : b3 ≠ sl5 := Nat.ne_of_lt (Nat.lt_of_lt_of_le (Nat.lt_of_lt_of_le P165.lt (Nat.le_refl _)) P186)
              have Q324 : Fld Z T193.heap sl5 "java/util/ArrayList$SubList" "root" "Ljava/util/ArrayList;" (.ref a) := (P182.keep R193 (ninS (Ne.symm ne323) (ninS (Ne.symm ne322) nin0)))
              have Q325 : Fld Z T193.heap sl5 "java/util/ArrayList$SubList" "offset" "I" (.int o5) := (P183.keep R193 (ninS (Ne.symm ne323) (ninS (Ne.symm ne322) nin0)))
              have Q326 : Fld Z T193.heap sl5 "java/util/ArrayList$SubList" "size" "I" (.int ((own_min nn (o5 + sz)) - o5)) := (P184.keep R193 (ninS (Ne.symm ne323) (ninS (Ne.symm ne322) nin0)))
              have Q327 : Fld Z T193.heap sl5 "java/util/AbstractList" "modCount" "I" (.int mc) := (P185.keep R193 (ninS (Ne.symm ne323) (ninS (Ne.symm ne322) nin0)))
              have B5 : own_subat Z T193.heap cl285 a mc nn sz (5 : Int32) := ⟨sl5, o5, _, H285.at (inb_of S285 ⟨by decide, by decide⟩) rfl, ho5, rfl, Q321, Q324, Q325, Q326, Q327⟩
              have Q328 : Exa Z T193.heap b3 "java/util/ArrayList" := (Q188.keep R193)
              exact ownRet X201 (v := some (.ref b3)) Bd.notSynchronized (fun h => by rw [Bd.returns] at h; cases h) (fun _ hr => retOut X201 hx (t := (.object "java/util/List")) Bd.returns rfl (Or.inr (Or.inr (Or.inr (Or.inr ⟨rfl, rfl, rfl⟩)))) (hb hby own_split_d70) hr) (by rw [R201]; exact ⟨b3, dd_39, cl285, (6 : Int32), sz, rfl, N201, (own_extOf KP199), Q328, P195, P196, Ar285, (S285.trans rfl), (own_all6 B0 B1 B2 B3 B4 B5), hzp, (own_cntj hzp (i := (5 : Int32)) (by decide) (by decide) (by decide) ho5 hb5 ho6 hb6)⟩) (by decide) (by decide)
          · skip
            refine ownStep (fun _ k => XS.icmpYes X171.here hx rfl (pc0 := 29) (pc' := 69) rfl (hb hby own_split_d29) rfl (flt (hb5 : ¬ o5 < nn)).2.1 (by decide) (by decide) k) ?_
            refine ownStep (fun _ k => XS.aloadN X171.here hx rfl (hb hby own_split_d69) rfl rfl k) ?_
            show ownGo p.tables e below (T171.setTop (mkF m 70 #[.val (.ref a), .val (.int cc), .val (.int sz), .val (.ref b3), .val (.int o5)] [(.ref b3)])) _
            have Vo329 := P168
            obtain ⟨cl329, Ar329, q329, S329, N329, H329, G329⟩ := Vo329
            have Q330 : Exa Z T163.heap sl0 "java/util/ArrayList$SubList" := (((((((((P27.keep R39).ext R57).keep R72).ext R89).keep R103).ext R119).keep R133).ext R149).keep R163)
            have ne331 : b3 ≠ sl0 := Nat.ne_of_lt (Nat.lt_of_lt_of_le (Nat.lt_of_lt_of_le P11.lt (Nat.le_refl _)) P32)
            have ne332 : sl0 ≠ dd_39 := Nat.ne_of_lt (Nat.lt_of_lt_of_le (Nat.lt_of_lt_of_le P27.lt (Nat.le_refl _)) P46)
            have Q333 : Fld Z T163.heap sl0 "java/util/ArrayList$SubList" "root" "Ljava/util/ArrayList;" (.ref a) := (((((((((P28.keep R39 (ninS (Ne.symm ne331) nin0)).ext R57).keep R72 (ninS (Ne.symm ne331) (ninS ne332 nin0))).ext R89).keep R103 (ninS (Ne.symm ne331) (ninS ne332 nin0))).ext R119).keep R133 (ninS (Ne.symm ne331) (ninS ne332 nin0))).ext R149).keep R163 (ninS (Ne.symm ne331) (ninS ne332 nin0)))
            have Q334 : Fld Z T163.heap sl0 "java/util/ArrayList$SubList" "offset" "I" (.int o0) := (((((((((P29.keep R39 (ninS (Ne.symm ne331) nin0)).ext R57).keep R72 (ninS (Ne.symm ne331) (ninS ne332 nin0))).ext R89).keep R103 (ninS (Ne.symm ne331) (ninS ne332 nin0))).ext R119).keep R133 (ninS (Ne.symm ne331) (ninS ne332 nin0))).ext R149).keep R163 (ninS (Ne.symm ne331) (ninS ne332 nin0)))
            have Q335 : Fld Z T163.heap sl0 "java/util/ArrayList$SubList" "size" "I" (.int ((own_min nn (o0 + sz)) - o0)) := (((((((((P30.keep R39 (ninS (Ne.symm ne331) nin0)).ext R57).keep R72 (ninS (Ne.symm ne331) (ninS ne332 nin0))).ext R89).keep R103 (ninS (Ne.symm ne331) (ninS ne332 nin0))).ext R119).keep R133 (ninS (Ne.symm ne331) (ninS ne332 nin0))).ext R149).keep R163 (ninS (Ne.symm ne331) (ninS ne332 nin0)))
            have Q336 : Fld Z T163.heap sl0 "java/util/AbstractList" "modCount" "I" (.int mc) := (((((((((P31.keep R39 (ninS (Ne.symm ne331) nin0)).ext R57).keep R72 (ninS (Ne.symm ne331) (ninS ne332 nin0))).ext R89).keep R103 (ninS (Ne.symm ne331) (ninS ne332 nin0))).ext R119).keep R133 (ninS (Ne.symm ne331) (ninS ne332 nin0))).ext R149).keep R163 (ninS (Ne.symm ne331) (ninS ne332 nin0)))
            have B0 : own_subat Z T163.heap cl329 a mc nn sz (0 : Int32) := ⟨sl0, o0, _, H329.at (inb_of S329 ⟨by decide, by decide⟩) rfl, ho0, rfl, Q330, Q333, Q334, Q335, Q336⟩
            have Q337 : Exa Z T163.heap sl1 "java/util/ArrayList$SubList" := (((((((P59.keep R72).ext R89).keep R103).ext R119).keep R133).ext R149).keep R163)
            have ne338 : dd_39 ≠ sl1 := Nat.ne_of_lt (Nat.lt_of_lt_of_le (Nat.lt_of_lt_of_le P44.lt (Nat.le_refl _)) P64)
            have ne339 : b3 ≠ sl1 := Nat.ne_of_lt (Nat.lt_of_lt_of_le (Nat.lt_of_lt_of_le P41.lt (Nat.le_refl _)) P64)
            have Q340 : Fld Z T163.heap sl1 "java/util/ArrayList$SubList" "root" "Ljava/util/ArrayList;" (.ref a) := (((((((P60.keep R72 (ninS (Ne.symm ne339) (ninS (Ne.symm ne338) nin0))).ext R89).keep R103 (ninS (Ne.symm ne339) (ninS (Ne.symm ne338) nin0))).ext R119).keep R133 (ninS (Ne.symm ne339) (ninS (Ne.symm ne338) nin0))).ext R149).keep R163 (ninS (Ne.symm ne339) (ninS (Ne.symm ne338) nin0)))
            have Q341 : Fld Z T163.heap sl1 "java/util/ArrayList$SubList" "offset" "I" (.int o1) := (((((((P61.keep R72 (ninS (Ne.symm ne339) (ninS (Ne.symm ne338) nin0))).ext R89).keep R103 (ninS (Ne.symm ne339) (ninS (Ne.symm ne338) nin0))).ext R119).keep R133 (ninS (Ne.symm ne339) (ninS (Ne.symm ne338) nin0))).ext R149).keep R163 (ninS (Ne.symm ne339) (ninS (Ne.symm ne338) nin0)))
            have Q342 : Fld Z T163.heap sl1 "java/util/ArrayList$SubList" "size" "I" (.int ((own_min nn (o1 + sz)) - o1)) := (((((((P62.keep R72 (ninS (Ne.symm ne339) (ninS (Ne.symm ne338) nin0))).ext R89).keep R103 (ninS (Ne.symm ne339) (ninS (Ne.symm ne338) nin0))).ext R119).keep R133 (ninS (Ne.symm ne339) (ninS (Ne.symm ne338) nin0))).ext R149).keep R163 (ninS (Ne.symm ne339) (ninS (Ne.symm ne338) nin0)))
            have Q343 : Fld Z T163.heap sl1 "java/util/AbstractList" "modCount" "I" (.int mc) := (((((((P63.keep R72 (ninS (Ne.symm ne339) (ninS (Ne.symm ne338) nin0))).ext R89).keep R103 (ninS (Ne.symm ne339) (ninS (Ne.symm ne338) nin0))).ext R119).keep R133 (ninS (Ne.symm ne339) (ninS (Ne.symm ne338) nin0))).ext R149).keep R163 (ninS (Ne.symm ne339) (ninS (Ne.symm ne338) nin0)))
            have B1 : own_subat Z T163.heap cl329 a mc nn sz (1 : Int32) := ⟨sl1, o1, _, H329.at (inb_of S329 ⟨by decide, by decide⟩) rfl, ho1, rfl, Q337, Q340, Q341, Q342, Q343⟩
            have Q344 : Exa Z T163.heap sl2 "java/util/ArrayList$SubList" := (((((P91.keep R103).ext R119).keep R133).ext R149).keep R163)
            have ne345 : dd_39 ≠ sl2 := Nat.ne_of_lt (Nat.lt_of_lt_of_le (Nat.lt_of_lt_of_le P77.lt (Nat.le_refl _)) P96)
            have ne346 : b3 ≠ sl2 := Nat.ne_of_lt (Nat.lt_of_lt_of_le (Nat.lt_of_lt_of_le P74.lt (Nat.le_refl _)) P96)
            have Q347 : Fld Z T163.heap sl2 "java/util/ArrayList$SubList" "root" "Ljava/util/ArrayList;" (.ref a) := (((((P92.keep R103 (ninS (Ne.symm ne346) (ninS (Ne.symm ne345) nin0))).ext R119).keep R133 (ninS (Ne.symm ne346) (ninS (Ne.symm ne345) nin0))).ext R149).keep R163 (ninS (Ne.symm ne346) (ninS (Ne.symm ne345) nin0)))
            have Q348 : Fld Z T163.heap sl2 "java/util/ArrayList$SubList" "offset" "I" (.int o2) := (((((P93.keep R103 (ninS (Ne.symm ne346) (ninS (Ne.symm ne345) nin0))).ext R119).keep R133 (ninS (Ne.symm ne346) (ninS (Ne.symm ne345) nin0))).ext R149).keep R163 (ninS (Ne.symm ne346) (ninS (Ne.symm ne345) nin0)))
            have Q349 : Fld Z T163.heap sl2 "java/util/ArrayList$SubList" "size" "I" (.int ((own_min nn (o2 + sz)) - o2)) := (((((P94.keep R103 (ninS (Ne.symm ne346) (ninS (Ne.symm ne345) nin0))).ext R119).keep R133 (ninS (Ne.symm ne346) (ninS (Ne.symm ne345) nin0))).ext R149).keep R163 (ninS (Ne.symm ne346) (ninS (Ne.symm ne345) nin0)))
            have Q350 : Fld Z T163.heap sl2 "java/util/AbstractList" "modCount" "I" (.int mc) := (((((P95.keep R103 (ninS (Ne.symm ne346) (ninS (Ne.symm ne345) nin0))).ext R119).keep R133 (ninS (Ne.symm ne346) (ninS (Ne.symm ne345) nin0))).ext R149).keep R163 (ninS (Ne.symm ne346) (ninS (Ne.symm ne345) nin0)))
            have B2 : own_subat Z T163.heap cl329 a mc nn sz (2 : Int32) := ⟨sl2, o2, _, H329.at (inb_of S329 ⟨by decide, by decide⟩) rfl, ho2, rfl, Q344, Q347, Q348, Q349, Q350⟩
            have Q351 : Exa Z T163.heap sl3 "java/util/ArrayList$SubList" := (((P121.keep R133).ext R149).keep R163)
            have ne352 : dd_39 ≠ sl3 := Nat.ne_of_lt (Nat.lt_of_lt_of_le (Nat.lt_of_lt_of_le P108.lt (Nat.le_refl _)) P126)
            have ne353 : b3 ≠ sl3 := Nat.ne_of_lt (Nat.lt_of_lt_of_le (Nat.lt_of_lt_of_le P105.lt (Nat.le_refl _)) P126)
            have Q354 : Fld Z T163.heap sl3 "java/util/ArrayList$SubList" "root" "Ljava/util/ArrayList;" (.ref a) := (((P122.keep R133 (ninS (Ne.symm ne353) (ninS (Ne.symm ne352) nin0))).ext R149).keep R163 (ninS (Ne.symm ne353) (ninS (Ne.symm ne352) nin0)))
            have Q355 : Fld Z T163.heap sl3 "java/util/ArrayList$SubList" "offset" "I" (.int o3) := (((P123.keep R133 (ninS (Ne.symm ne353) (ninS (Ne.symm ne352) nin0))).ext R149).keep R163 (ninS (Ne.symm ne353) (ninS (Ne.symm ne352) nin0)))
            have Q356 : Fld Z T163.heap sl3 "java/util/ArrayList$SubList" "size" "I" (.int ((own_min nn (o3 + sz)) - o3)) := (((P124.keep R133 (ninS (Ne.symm ne353) (ninS (Ne.symm ne352) nin0))).ext R149).keep R163 (ninS (Ne.symm ne353) (ninS (Ne.symm ne352) nin0)))
            have Q357 : Fld Z T163.heap sl3 "java/util/AbstractList" "modCount" "I" (.int mc) := (((P125.keep R133 (ninS (Ne.symm ne353) (ninS (Ne.symm ne352) nin0))).ext R149).keep R163 (ninS (Ne.symm ne353) (ninS (Ne.symm ne352) nin0)))
            have B3 : own_subat Z T163.heap cl329 a mc nn sz (3 : Int32) := ⟨sl3, o3, _, H329.at (inb_of S329 ⟨by decide, by decide⟩) rfl, ho3, rfl, Q351, Q354, Q355, Q356, Q357⟩
            have Q358 : Exa Z T163.heap sl4 "java/util/ArrayList$SubList" := (P151.keep R163)
            have ne359 : dd_39 ≠ sl4 := Nat.ne_of_lt (Nat.lt_of_lt_of_le (Nat.lt_of_lt_of_le P138.lt (Nat.le_refl _)) P156)
            have ne360 : b3 ≠ sl4 := Nat.ne_of_lt (Nat.lt_of_lt_of_le (Nat.lt_of_lt_of_le P135.lt (Nat.le_refl _)) P156)
            have Q361 : Fld Z T163.heap sl4 "java/util/ArrayList$SubList" "root" "Ljava/util/ArrayList;" (.ref a) := (P152.keep R163 (ninS (Ne.symm ne360) (ninS (Ne.symm ne359) nin0)))
            have Q362 : Fld Z T163.heap sl4 "java/util/ArrayList$SubList" "offset" "I" (.int o4) := (P153.keep R163 (ninS (Ne.symm ne360) (ninS (Ne.symm ne359) nin0)))
            have Q363 : Fld Z T163.heap sl4 "java/util/ArrayList$SubList" "size" "I" (.int ((own_min nn (o4 + sz)) - o4)) := (P154.keep R163 (ninS (Ne.symm ne360) (ninS (Ne.symm ne359) nin0)))
            have Q364 : Fld Z T163.heap sl4 "java/util/AbstractList" "modCount" "I" (.int mc) := (P155.keep R163 (ninS (Ne.symm ne360) (ninS (Ne.symm ne359) nin0)))
            have B4 : own_subat Z T163.heap cl329 a mc nn sz (4 : Int32) := ⟨sl4, o4, _, H329.at (inb_of S329 ⟨by decide, by decide⟩) rfl, ho4, rfl, Q358, Q361, Q362, Q363, Q364⟩
            have Q365 : Exa Z T163.heap b3 "java/util/ArrayList" := (Q158.keep R163)
            exact ownRet X171 (v := some (.ref b3)) Bd.notSynchronized (fun h => by rw [Bd.returns] at h; cases h) (fun _ hr => retOut X171 hx (t := (.object "java/util/List")) Bd.returns rfl (Or.inr (Or.inr (Or.inr (Or.inr ⟨rfl, rfl, rfl⟩)))) (hb hby own_split_d70) hr) (by rw [R171]; exact ⟨b3, dd_39, cl329, (5 : Int32), sz, rfl, N171, (own_extOf KP169), Q365, P165, P166, Ar329, (S329.trans rfl), (own_all5 B0 B1 B2 B3 B4), hzp, (own_cntj hzp (i := (4 : Int32)) (by decide) (by decide) (by decide) ho4 hb4 ho5 hb5)⟩) (by decide) (by decide)
        · skip
          refine ownStep (fun _ k => XS.icmpYes X141.here hx rfl (pc0 := 29) (pc' := 69) rfl (hb hby own_split_d29) rfl (flt (hb4 : ¬ o4 < nn)).2.1 (by decide) (by decide) k) ?_
          refine ownStep (fun _ k => XS.aloadN X141.here hx rfl (hb hby own_split_d69) rfl rfl k) ?_
          show ownGo p.tables e below (T141.setTop (mkF m 70 #[.val (.ref a), .val (.int cc), .val (.int sz), .val (.ref b3), .val (.int o4)] [(.ref b3)])) _
          have Vo366 := P138
          obtain ⟨cl366, Ar366, q366, S366, N366, H366, G366⟩ := Vo366
          have Q367 : Exa Z T133.heap sl0 "java/util/ArrayList$SubList" := (((((((P27.keep R39).ext R57).keep R72).ext R89).keep R103).ext R119).keep R133)
          have ne368 : b3 ≠ sl0 := Nat.ne_of_lt (Nat.lt_of_lt_of_le (Nat.lt_of_lt_of_le P11.lt (Nat.le_refl _)) P32)
          have ne369 : sl0 ≠ dd_39 := Nat.ne_of_lt (Nat.lt_of_lt_of_le (Nat.lt_of_lt_of_le P27.lt (Nat.le_refl _)) P46)
          have Q370 : Fld Z T133.heap sl0 "java/util/ArrayList$SubList" "root" "Ljava/util/ArrayList;" (.ref a) := (((((((P28.keep R39 (ninS (Ne.symm ne368) nin0)).ext R57).keep R72 (ninS (Ne.symm ne368) (ninS ne369 nin0))).ext R89).keep R103 (ninS (Ne.symm ne368) (ninS ne369 nin0))).ext R119).keep R133 (ninS (Ne.symm ne368) (ninS ne369 nin0)))
          have Q371 : Fld Z T133.heap sl0 "java/util/ArrayList$SubList" "offset" "I" (.int o0) := (((((((P29.keep R39 (ninS (Ne.symm ne368) nin0)).ext R57).keep R72 (ninS (Ne.symm ne368) (ninS ne369 nin0))).ext R89).keep R103 (ninS (Ne.symm ne368) (ninS ne369 nin0))).ext R119).keep R133 (ninS (Ne.symm ne368) (ninS ne369 nin0)))
          have Q372 : Fld Z T133.heap sl0 "java/util/ArrayList$SubList" "size" "I" (.int ((own_min nn (o0 + sz)) - o0)) := (((((((P30.keep R39 (ninS (Ne.symm ne368) nin0)).ext R57).keep R72 (ninS (Ne.symm ne368) (ninS ne369 nin0))).ext R89).keep R103 (ninS (Ne.symm ne368) (ninS ne369 nin0))).ext R119).keep R133 (ninS (Ne.symm ne368) (ninS ne369 nin0)))
          have Q373 : Fld Z T133.heap sl0 "java/util/AbstractList" "modCount" "I" (.int mc) := (((((((P31.keep R39 (ninS (Ne.symm ne368) nin0)).ext R57).keep R72 (ninS (Ne.symm ne368) (ninS ne369 nin0))).ext R89).keep R103 (ninS (Ne.symm ne368) (ninS ne369 nin0))).ext R119).keep R133 (ninS (Ne.symm ne368) (ninS ne369 nin0)))
          have B0 : own_subat Z T133.heap cl366 a mc nn sz (0 : Int32) := ⟨sl0, o0, _, H366.at (inb_of S366 ⟨by decide, by decide⟩) rfl, ho0, rfl, Q367, Q370, Q371, Q372, Q373⟩
          have Q374 : Exa Z T133.heap sl1 "java/util/ArrayList$SubList" := (((((P59.keep R72).ext R89).keep R103).ext R119).keep R133)
          have ne375 : dd_39 ≠ sl1 := Nat.ne_of_lt (Nat.lt_of_lt_of_le (Nat.lt_of_lt_of_le P44.lt (Nat.le_refl _)) P64)
          have ne376 : b3 ≠ sl1 := Nat.ne_of_lt (Nat.lt_of_lt_of_le (Nat.lt_of_lt_of_le P41.lt (Nat.le_refl _)) P64)
          have Q377 : Fld Z T133.heap sl1 "java/util/ArrayList$SubList" "root" "Ljava/util/ArrayList;" (.ref a) := (((((P60.keep R72 (ninS (Ne.symm ne376) (ninS (Ne.symm ne375) nin0))).ext R89).keep R103 (ninS (Ne.symm ne376) (ninS (Ne.symm ne375) nin0))).ext R119).keep R133 (ninS (Ne.symm ne376) (ninS (Ne.symm ne375) nin0)))
          have Q378 : Fld Z T133.heap sl1 "java/util/ArrayList$SubList" "offset" "I" (.int o1) := (((((P61.keep R72 (ninS (Ne.symm ne376) (ninS (Ne.symm ne375) nin0))).ext R89).keep R103 (ninS (Ne.symm ne376) (ninS (Ne.symm ne375) nin0))).ext R119).keep R133 (ninS (Ne.symm ne376) (ninS (Ne.symm ne375) nin0)))
          have Q379 : Fld Z T133.heap sl1 "java/util/ArrayList$SubList" "size" "I" (.int ((own_min nn (o1 + sz)) - o1)) := (((((P62.keep R72 (ninS (Ne.symm ne376) (ninS (Ne.symm ne375) nin0))).ext R89).keep R103 (ninS (Ne.symm ne376) (ninS (Ne.symm ne375) nin0))).ext R119).keep R133 (ninS (Ne.symm ne376) (ninS (Ne.symm ne375) nin0)))
          have Q380 : Fld Z T133.heap sl1 "java/util/AbstractList" "modCount" "I" (.int mc) := (((((P63.keep R72 (ninS (Ne.symm ne376) (ninS (Ne.symm ne375) nin0))).ext R89).keep R103 (ninS (Ne.symm ne376) (ninS (Ne.symm ne375) nin0))).ext R119).keep R133 (ninS (Ne.symm ne376) (ninS (Ne.symm ne375) nin0)))
          have B1 : own_subat Z T133.heap cl366 a mc nn sz (1 : Int32) := ⟨sl1, o1, _, H366.at (inb_of S366 ⟨by decide, by decide⟩) rfl, ho1, rfl, Q374, Q377, Q378, Q379, Q380⟩
          have Q381 : Exa Z T133.heap sl2 "java/util/ArrayList$SubList" := (((P91.keep R103).ext R119).keep R133)
          have ne382 : dd_39 ≠ sl2 := Nat.ne_of_lt (Nat.lt_of_lt_of_le (Nat.lt_of_lt_of_le P77.lt (Nat.le_refl _)) P96)
          have ne383 : b3 ≠ sl2 := Nat.ne_of_lt (Nat.lt_of_lt_of_le (Nat.lt_of_lt_of_le P74.lt (Nat.le_refl _)) P96)
          have Q384 : Fld Z T133.heap sl2 "java/util/ArrayList$SubList" "root" "Ljava/util/ArrayList;" (.ref a) := (((P92.keep R103 (ninS (Ne.symm ne383) (ninS (Ne.symm ne382) nin0))).ext R119).keep R133 (ninS (Ne.symm ne383) (ninS (Ne.symm ne382) nin0)))
          have Q385 : Fld Z T133.heap sl2 "java/util/ArrayList$SubList" "offset" "I" (.int o2) := (((P93.keep R103 (ninS (Ne.symm ne383) (ninS (Ne.symm ne382) nin0))).ext R119).keep R133 (ninS (Ne.symm ne383) (ninS (Ne.symm ne382) nin0)))
          have Q386 : Fld Z T133.heap sl2 "java/util/ArrayList$SubList" "size" "I" (.int ((own_min nn (o2 + sz)) - o2)) := (((P94.keep R103 (ninS (Ne.symm ne383) (ninS (Ne.symm ne382) nin0))).ext R119).keep R133 (ninS (Ne.symm ne383) (ninS (Ne.symm ne382) nin0)))
          have Q387 : Fld Z T133.heap sl2 "java/util/AbstractList" "modCount" "I" (.int mc) := (((P95.keep R103 (ninS (Ne.symm ne383) (ninS (Ne.symm ne382) nin0))).ext R119).keep R133 (ninS (Ne.symm ne383) (ninS (Ne.symm ne382) nin0)))
          have B2 : own_subat Z T133.heap cl366 a mc nn sz (2 : Int32) := ⟨sl2, o2, _, H366.at (inb_of S366 ⟨by decide, by decide⟩) rfl, ho2, rfl, Q381, Q384, Q385, Q386, Q387⟩
          have Q388 : Exa Z T133.heap sl3 "java/util/ArrayList$SubList" := (P121.keep R133)
          have ne389 : dd_39 ≠ sl3 := Nat.ne_of_lt (Nat.lt_of_lt_of_le (Nat.lt_of_lt_of_le P108.lt (Nat.le_refl _)) P126)
          have ne390 : b3 ≠ sl3 := Nat.ne_of_lt (Nat.lt_of_lt_of_le (Nat.lt_of_lt_of_le P105.lt (Nat.le_refl _)) P126)
          have Q391 : Fld Z T133.heap sl3 "java/util/ArrayList$SubList" "root" "Ljava/util/ArrayList;" (.ref a) := (P122.keep R133 (ninS (Ne.symm ne390) (ninS (Ne.symm ne389) nin0)))
          have Q392 : Fld Z T133.heap sl3 "java/util/ArrayList$SubList" "offset" "I" (.int o3) := (P123.keep R133 (ninS (Ne.symm ne390) (ninS (Ne.symm ne389) nin0)))
          have Q393 : Fld Z T133.heap sl3 "java/util/ArrayList$SubList" "size" "I" (.int ((own_min nn (o3 + sz)) - o3)) := (P124.keep R133 (ninS (Ne.symm ne390) (ninS (Ne.symm ne389) nin0)))
          have Q394 : Fld Z T133.heap sl3 "java/util/AbstractList" "modCount" "I" (.int mc) := (P125.keep R133 (ninS (Ne.symm ne390) (ninS (Ne.symm ne389) nin0)))
          have B3 : own_subat Z T133.heap cl366 a mc nn sz (3 : Int32) := ⟨sl3, o3, _, H366.at (inb_of S366 ⟨by decide, by decide⟩) rfl, ho3, rfl, Q388, Q391, Q392, Q393, Q394⟩
          have Q395 : Exa Z T133.heap b3 "java/util/ArrayList" := (Q128.keep R133)
          exact ownRet X141 (v := some (.ref b3)) Bd.notSynchronized (fun h => by rw [Bd.returns] at h; cases h) (fun _ hr => retOut X141 hx (t := (.object "java/util/List")) Bd.returns rfl (Or.inr (Or.inr (Or.inr (Or.inr ⟨rfl, rfl, rfl⟩)))) (hb hby own_split_d70) hr) (by rw [R141]; exact ⟨b3, dd_39, cl366, (4 : Int32), sz, rfl, N141, (own_extOf KP139), Q395, P135, P136, Ar366, (S366.trans rfl), (own_all4 B0 B1 B2 B3), hzp, (own_cntj hzp (i := (3 : Int32)) (by decide) (by decide) (by decide) ho3 hb3 ho4 hb4)⟩) (by decide) (by decide)
      · skip
        refine ownStep (fun _ k => XS.icmpYes X111.here hx rfl (pc0 := 29) (pc' := 69) rfl (hb hby own_split_d29) rfl (flt (hb3 : ¬ o3 < nn)).2.1 (by decide) (by decide) k) ?_
        refine ownStep (fun _ k => XS.aloadN X111.here hx rfl (hb hby own_split_d69) rfl rfl k) ?_
        show ownGo p.tables e below (T111.setTop (mkF m 70 #[.val (.ref a), .val (.int cc), .val (.int sz), .val (.ref b3), .val (.int o3)] [(.ref b3)])) _
        have Vo396 := P108
        obtain ⟨cl396, Ar396, q396, S396, N396, H396, G396⟩ := Vo396
        have Q397 : Exa Z T103.heap sl0 "java/util/ArrayList$SubList" := (((((P27.keep R39).ext R57).keep R72).ext R89).keep R103)
        have ne398 : b3 ≠ sl0 := Nat.ne_of_lt (Nat.lt_of_lt_of_le (Nat.lt_of_lt_of_le P11.lt (Nat.le_refl _)) P32)
        have ne399 : sl0 ≠ dd_39 := Nat.ne_of_lt (Nat.lt_of_lt_of_le (Nat.lt_of_lt_of_le P27.lt (Nat.le_refl _)) P46)
        have Q400 : Fld Z T103.heap sl0 "java/util/ArrayList$SubList" "root" "Ljava/util/ArrayList;" (.ref a) := (((((P28.keep R39 (ninS (Ne.symm ne398) nin0)).ext R57).keep R72 (ninS (Ne.symm ne398) (ninS ne399 nin0))).ext R89).keep R103 (ninS (Ne.symm ne398) (ninS ne399 nin0)))
        have Q401 : Fld Z T103.heap sl0 "java/util/ArrayList$SubList" "offset" "I" (.int o0) := (((((P29.keep R39 (ninS (Ne.symm ne398) nin0)).ext R57).keep R72 (ninS (Ne.symm ne398) (ninS ne399 nin0))).ext R89).keep R103 (ninS (Ne.symm ne398) (ninS ne399 nin0)))
        have Q402 : Fld Z T103.heap sl0 "java/util/ArrayList$SubList" "size" "I" (.int ((own_min nn (o0 + sz)) - o0)) := (((((P30.keep R39 (ninS (Ne.symm ne398) nin0)).ext R57).keep R72 (ninS (Ne.symm ne398) (ninS ne399 nin0))).ext R89).keep R103 (ninS (Ne.symm ne398) (ninS ne399 nin0)))
        have Q403 : Fld Z T103.heap sl0 "java/util/AbstractList" "modCount" "I" (.int mc) := (((((P31.keep R39 (ninS (Ne.symm ne398) nin0)).ext R57).keep R72 (ninS (Ne.symm ne398) (ninS ne399 nin0))).ext R89).keep R103 (ninS (Ne.symm ne398) (ninS ne399 nin0)))
        have B0 : own_subat Z T103.heap cl396 a mc nn sz (0 : Int32) := ⟨sl0, o0, _, H396.at (inb_of S396 ⟨by decide, by decide⟩) rfl, ho0, rfl, Q397, Q400, Q401, Q402, Q403⟩
        have Q404 : Exa Z T103.heap sl1 "java/util/ArrayList$SubList" := (((P59.keep R72).ext R89).keep R103)
        have ne405 : dd_39 ≠ sl1 := Nat.ne_of_lt (Nat.lt_of_lt_of_le (Nat.lt_of_lt_of_le P44.lt (Nat.le_refl _)) P64)
        have ne406 : b3 ≠ sl1 := Nat.ne_of_lt (Nat.lt_of_lt_of_le (Nat.lt_of_lt_of_le P41.lt (Nat.le_refl _)) P64)
        have Q407 : Fld Z T103.heap sl1 "java/util/ArrayList$SubList" "root" "Ljava/util/ArrayList;" (.ref a) := (((P60.keep R72 (ninS (Ne.symm ne406) (ninS (Ne.symm ne405) nin0))).ext R89).keep R103 (ninS (Ne.symm ne406) (ninS (Ne.symm ne405) nin0)))
        have Q408 : Fld Z T103.heap sl1 "java/util/ArrayList$SubList" "offset" "I" (.int o1) := (((P61.keep R72 (ninS (Ne.symm ne406) (ninS (Ne.symm ne405) nin0))).ext R89).keep R103 (ninS (Ne.symm ne406) (ninS (Ne.symm ne405) nin0)))
        have Q409 : Fld Z T103.heap sl1 "java/util/ArrayList$SubList" "size" "I" (.int ((own_min nn (o1 + sz)) - o1)) := (((P62.keep R72 (ninS (Ne.symm ne406) (ninS (Ne.symm ne405) nin0))).ext R89).keep R103 (ninS (Ne.symm ne406) (ninS (Ne.symm ne405) nin0)))
        have Q410 : Fld Z T103.heap sl1 "java/util/AbstractList" "modCount" "I" (.int mc) := (((P63.keep R72 (ninS (Ne.symm ne406) (ninS (Ne.symm ne405) nin0))).ext R89).keep R103 (ninS (Ne.symm ne406) (ninS (Ne.symm ne405) nin0)))
        have B1 : own_subat Z T103.heap cl396 a mc nn sz (1 : Int32) := ⟨sl1, o1, _, H396.at (inb_of S396 ⟨by decide, by decide⟩) rfl, ho1, rfl, Q404, Q407, Q408, Q409, Q410⟩
        have Q411 : Exa Z T103.heap sl2 "java/util/ArrayList$SubList" := (P91.keep R103)
        have ne412 : dd_39 ≠ sl2 := Nat.ne_of_lt (Nat.lt_of_lt_of_le (Nat.lt_of_lt_of_le P77.lt (Nat.le_refl _)) P96)
        have ne413 : b3 ≠ sl2 := Nat.ne_of_lt (Nat.lt_of_lt_of_le (Nat.lt_of_lt_of_le P74.lt (Nat.le_refl _)) P96)
        have Q414 : Fld Z T103.heap sl2 "java/util/ArrayList$SubList" "root" "Ljava/util/ArrayList;" (.ref a) := (P92.keep R103 (ninS (Ne.symm ne413) (ninS (Ne.symm ne412) nin0)))
        have Q415 : Fld Z T103.heap sl2 "java/util/ArrayList$SubList" "offset" "I" (.int o2) := (P93.keep R103 (ninS (Ne.symm ne413) (ninS (Ne.symm ne412) nin0)))
        have Q416 : Fld Z T103.heap sl2 "java/util/ArrayList$SubList" "size" "I" (.int ((own_min nn (o2 + sz)) - o2)) := (P94.keep R103 (ninS (Ne.symm ne413) (ninS (Ne.symm ne412) nin0)))
        have Q417 : Fld Z T103.heap sl2 "java/util/AbstractList" "modCount" "I" (.int mc) := (P95.keep R103 (ninS (Ne.symm ne413) (ninS (Ne.symm ne412) nin0)))
        have B2 : own_subat Z T103.heap cl396 a mc nn sz (2 : Int32) := ⟨sl2, o2, _, H396.at (inb_of S396 ⟨by decide, by decide⟩) rfl, ho2, rfl, Q411, Q414, Q415, Q416, Q417⟩
        have Q418 : Exa Z T103.heap b3 "java/util/ArrayList" := (Q98.keep R103)
        exact ownRet X111 (v := some (.ref b3)) Bd.notSynchronized (fun h => by rw [Bd.returns] at h; cases h) (fun _ hr => retOut X111 hx (t := (.object "java/util/List")) Bd.returns rfl (Or.inr (Or.inr (Or.inr (Or.inr ⟨rfl, rfl, rfl⟩)))) (hb hby own_split_d70) hr) (by rw [R111]; exact ⟨b3, dd_39, cl396, (3 : Int32), sz, rfl, N111, (own_extOf KP109), Q418, P105, P106, Ar396, (S396.trans rfl), (own_all3 B0 B1 B2), hzp, (own_cntj hzp (i := (2 : Int32)) (by decide) (by decide) (by decide) ho2 hb2 ho3 hb3)⟩) (by decide) (by decide)
    · skip
      refine ownStep (fun _ k => XS.icmpYes X81.here hx rfl (pc0 := 29) (pc' := 69) rfl (hb hby own_split_d29) rfl (flt (hb2 : ¬ o2 < nn)).2.1 (by decide) (by decide) k) ?_
      refine ownStep (fun _ k => XS.aloadN X81.here hx rfl (hb hby own_split_d69) rfl rfl k) ?_
      show ownGo p.tables e below (T81.setTop (mkF m 70 #[.val (.ref a), .val (.int cc), .val (.int sz), .val (.ref b3), .val (.int o2)] [(.ref b3)])) _
      have Vo419 := P77
      obtain ⟨cl419, Ar419, q419, S419, N419, H419, G419⟩ := Vo419
      have Q420 : Exa Z T72.heap sl0 "java/util/ArrayList$SubList" := (((P27.keep R39).ext R57).keep R72)
      have ne421 : b3 ≠ sl0 := Nat.ne_of_lt (Nat.lt_of_lt_of_le (Nat.lt_of_lt_of_le P11.lt (Nat.le_refl _)) P32)
      have ne422 : sl0 ≠ dd_39 := Nat.ne_of_lt (Nat.lt_of_lt_of_le (Nat.lt_of_lt_of_le P27.lt (Nat.le_refl _)) P46)
      have Q423 : Fld Z T72.heap sl0 "java/util/ArrayList$SubList" "root" "Ljava/util/ArrayList;" (.ref a) := (((P28.keep R39 (ninS (Ne.symm ne421) nin0)).ext R57).keep R72 (ninS (Ne.symm ne421) (ninS ne422 nin0)))
      have Q424 : Fld Z T72.heap sl0 "java/util/ArrayList$SubList" "offset" "I" (.int o0) := (((P29.keep R39 (ninS (Ne.symm ne421) nin0)).ext R57).keep R72 (ninS (Ne.symm ne421) (ninS ne422 nin0)))
      have Q425 : Fld Z T72.heap sl0 "java/util/ArrayList$SubList" "size" "I" (.int ((own_min nn (o0 + sz)) - o0)) := (((P30.keep R39 (ninS (Ne.symm ne421) nin0)).ext R57).keep R72 (ninS (Ne.symm ne421) (ninS ne422 nin0)))
      have Q426 : Fld Z T72.heap sl0 "java/util/AbstractList" "modCount" "I" (.int mc) := (((P31.keep R39 (ninS (Ne.symm ne421) nin0)).ext R57).keep R72 (ninS (Ne.symm ne421) (ninS ne422 nin0)))
      have B0 : own_subat Z T72.heap cl419 a mc nn sz (0 : Int32) := ⟨sl0, o0, _, H419.at (inb_of S419 ⟨by decide, by decide⟩) rfl, ho0, rfl, Q420, Q423, Q424, Q425, Q426⟩
      have Q427 : Exa Z T72.heap sl1 "java/util/ArrayList$SubList" := (P59.keep R72)
      have ne428 : dd_39 ≠ sl1 := Nat.ne_of_lt (Nat.lt_of_lt_of_le (Nat.lt_of_lt_of_le P44.lt (Nat.le_refl _)) P64)
      have ne429 : b3 ≠ sl1 := Nat.ne_of_lt (Nat.lt_of_lt_of_le (Nat.lt_of_lt_of_le P41.lt (Nat.le_refl _)) P64)
      have Q430 : Fld Z T72.heap sl1 "java/util/ArrayList$SubList" "root" "Ljava/util/ArrayList;" (.ref a) := (P60.keep R72 (ninS (Ne.symm ne429) (ninS (Ne.symm ne428) nin0)))
      have Q431 : Fld Z T72.heap sl1 "java/util/ArrayList$SubList" "offset" "I" (.int o1) := (P61.keep R72 (ninS (Ne.symm ne429) (ninS (Ne.symm ne428) nin0)))
      have Q432 : Fld Z T72.heap sl1 "java/util/ArrayList$SubList" "size" "I" (.int ((own_min nn (o1 + sz)) - o1)) := (P62.keep R72 (ninS (Ne.symm ne429) (ninS (Ne.symm ne428) nin0)))
      have Q433 : Fld Z T72.heap sl1 "java/util/AbstractList" "modCount" "I" (.int mc) := (P63.keep R72 (ninS (Ne.symm ne429) (ninS (Ne.symm ne428) nin0)))
      have B1 : own_subat Z T72.heap cl419 a mc nn sz (1 : Int32) := ⟨sl1, o1, _, H419.at (inb_of S419 ⟨by decide, by decide⟩) rfl, ho1, rfl, Q427, Q430, Q431, Q432, Q433⟩
      have Q434 : Exa Z T72.heap b3 "java/util/ArrayList" := (Q67.keep R72)
      exact ownRet X81 (v := some (.ref b3)) Bd.notSynchronized (fun h => by rw [Bd.returns] at h; cases h) (fun _ hr => retOut X81 hx (t := (.object "java/util/List")) Bd.returns rfl (Or.inr (Or.inr (Or.inr (Or.inr ⟨rfl, rfl, rfl⟩)))) (hb hby own_split_d70) hr) (by rw [R81]; exact ⟨b3, dd_39, cl419, (2 : Int32), sz, rfl, N81, (own_extOf KP78), Q434, P74, P75, Ar419, (S419.trans rfl), (own_all2 B0 B1), hzp, (own_cntj hzp (i := (1 : Int32)) (by decide) (by decide) (by decide) ho1 hb1 ho2 hb2)⟩) (by decide) (by decide)
  · skip
    refine ownStep (fun _ k => XS.icmpYes X49.here hx rfl (pc0 := 29) (pc' := 69) rfl (hb hby own_split_d29) rfl (flt (hb1 : ¬ o1 < nn)).2.1 (by decide) (by decide) k) ?_
    refine ownStep (fun _ k => XS.aloadN X49.here hx rfl (hb hby own_split_d69) rfl rfl k) ?_
    show ownGo p.tables e below (T49.setTop (mkF m 70 #[.val (.ref a), .val (.int cc), .val (.int sz), .val (.ref b3), .val (.int o1)] [(.ref b3)])) _
    have Vo435 := P44
    obtain ⟨cl435, Ar435, q435, S435, N435, H435, G435⟩ := Vo435
    have Q436 : Exa Z T39.heap sl0 "java/util/ArrayList$SubList" := (P27.keep R39)
    have ne437 : b3 ≠ sl0 := Nat.ne_of_lt (Nat.lt_of_lt_of_le (Nat.lt_of_lt_of_le P11.lt (Nat.le_refl _)) P32)
    have Q438 : Fld Z T39.heap sl0 "java/util/ArrayList$SubList" "root" "Ljava/util/ArrayList;" (.ref a) := (P28.keep R39 (ninS (Ne.symm ne437) nin0))
    have Q439 : Fld Z T39.heap sl0 "java/util/ArrayList$SubList" "offset" "I" (.int o0) := (P29.keep R39 (ninS (Ne.symm ne437) nin0))
    have Q440 : Fld Z T39.heap sl0 "java/util/ArrayList$SubList" "size" "I" (.int ((own_min nn (o0 + sz)) - o0)) := (P30.keep R39 (ninS (Ne.symm ne437) nin0))
    have Q441 : Fld Z T39.heap sl0 "java/util/AbstractList" "modCount" "I" (.int mc) := (P31.keep R39 (ninS (Ne.symm ne437) nin0))
    have B0 : own_subat Z T39.heap cl435 a mc nn sz (0 : Int32) := ⟨sl0, o0, _, H435.at (inb_of S435 ⟨by decide, by decide⟩) rfl, ho0, rfl, Q436, Q438, Q439, Q440, Q441⟩
    have Q442 : Exa Z T39.heap b3 "java/util/ArrayList" := (Q35.keep R39)
    exact ownRet X49 (v := some (.ref b3)) Bd.notSynchronized (fun h => by rw [Bd.returns] at h; cases h) (fun _ hr => retOut X49 hx (t := (.object "java/util/List")) Bd.returns rfl (Or.inr (Or.inr (Or.inr (Or.inr ⟨rfl, rfl, rfl⟩)))) (hb hby own_split_d70) hr) (by rw [R49]; exact ⟨b3, dd_39, cl435, (1 : Int32), sz, rfl, N49, (own_extOf KP47), Q442, P41, P42, Ar435, (S435.trans rfl), (own_all1 B0), hzp, (own_cntj hzp (i := (0 : Int32)) (by decide) (by decide) (by decide) ho0 hb0 ho1 hb1)⟩) (by decide) (by decide)
theorem own_split0_d0 : decode prog_17_method_2_code 0 = .ok (.iconst 1, 1) := by decide +kernel
theorem own_split0_d1 : decode prog_17_method_2_code 1 = .ok (.sipush 10000, 3) := by decide +kernel
theorem own_split0_d4 : decode prog_17_method_2_code 4 = .ok (.iload_n 1, 1) := by decide +kernel
theorem own_split0_d5 : decode prog_17_method_2_code 5 = .ok (.idiv, 1) := by decide +kernel
theorem own_split0_d6 : decode prog_17_method_2_code 6 = .ok (.invokestatic 9, 3) := by decide +kernel
theorem own_split0_d9 : decode prog_17_method_2_code 9 = .ok (.istore_n 2, 1) := by decide +kernel
theorem own_split0_d10 : decode prog_17_method_2_code 10 = .ok (.new 15, 3) := by decide +kernel
theorem own_split0_d13 : decode prog_17_method_2_code 13 = .ok (.dup, 1) := by decide +kernel
theorem own_split0_d14 : decode prog_17_method_2_code 14 = .ok (.invokespecial 17, 3) := by decide +kernel
theorem own_split0_d17 : decode prog_17_method_2_code 17 = .ok (.astore_n 3, 1) := by decide +kernel
theorem own_split0_d18 : decode prog_17_method_2_code 18 = .ok (.iconst 0, 1) := by decide +kernel
theorem own_split0_d19 : decode prog_17_method_2_code 19 = .ok (.istore 4, 2) := by decide +kernel
theorem own_split0_d21 : decode prog_17_method_2_code 21 = .ok (.iload 4, 2) := by decide +kernel
theorem own_split0_d23 : decode prog_17_method_2_code 23 = .ok (.aload_n 0, 1) := by decide +kernel
theorem own_split0_d24 : decode prog_17_method_2_code 24 = .ok (.invokeinterface 18 1, 5) := by decide +kernel
theorem own_split0_d29 : decode prog_17_method_2_code 29 = .ok (.if_icmp .ge 40, 3) := by decide +kernel
theorem own_split0_d69 : decode prog_17_method_2_code 69 = .ok (.aload_n 3, 1) := by decide +kernel
theorem own_split0_d70 : decode prog_17_method_2_code 70 = .ok (.areturn, 1) := by decide +kernel
theorem own_split0_pn : plainName "com/example/circuline/circuline/storage/Insert" = true := by first | (simp [plainName, overriddenIn]; done) | decide +kernel
theorem own_split0_pd0 : parseMethodDescriptor "(II)I" = some ⟨[.int, .int], some .int⟩ := by decide +kernel
theorem own_split0_pd1 : parseMethodDescriptor "()V" = some ⟨[], none⟩ := by decide +kernel
theorem own_split0_pd2 : parseMethodDescriptor "()I" = some ⟨[], some .int⟩ := by decide +kernel
theorem own_split0_ef (m : MethodId) (x0 : Addr) (x1 : Int32) : entryFrame m #[(.ref x0), (.int x1)] 5 = mkF m 0 #[.val (.ref x0), .val (.int x1), .unset, .unset, .unset] [] := by first | (simp [entryFrame, mkF, argsToLocals, Value.category]; done) | rfl
def own_split0_Q (Z : State) (ed : Addr) (kd : ClassId) (a : Addr) (mc : Int32) (cc : Int32) (h0 : Heap) (n0 : Nat) (vv_ : Option Value) (hh_ : Heap) (LL_ : List Loc) : Prop := ∃ r_ : Addr, vv_ = some (.ref r_) ∧ Fr n0 LL_ ∧ Ext h0 hh_ ∧ (Exa Z hh_ r_ "java/util/ArrayList") ∧ (Fld Z hh_ r_ "java/util/ArrayList" "size" "I" (.int (0 : Int32)))
set_option maxRecDepth 65536 in
set_option maxHeartbeats 40000000 in
theorem own_split0 (l : Launch) (Z : State) (a0 : Array Value) (hw : ∀ d ∈ tables_1, d.before a0 Z = true) (ws : List Jvm.Cond) (ed : Addr) (kd : ClassId) (a : Addr) (mc : Int32) (cc : Int32) (h0 : Heap) (n0 : Nat) (Z0 : n0 ≤ h0.size) (hOld : Old Z n0 h0) (S : Sta Z Z.heap "java/util/ArrayList" "DEFAULTCAPACITY_EMPTY_ELEMENTDATA" "[Ljava/lang/Object;" (.ref ed)) (Ea : Exa Z h0 a "java/util/ArrayList") (Fs : Fld Z h0 a "java/util/ArrayList" "size" "I" (.int (0 : Int32))) (hcc : 1 ≤ cc.toInt) :
    MetFree l (⟨"com/example/circuline/circuline/storage/Insert", "split", "(Ljava/util/List;I)Ljava/util/List;"⟩ : MethodName) (head1 (Jvm.Cond.code (⟨"com/example/circuline/circuline/storage/Insert", "split", "(Ljava/util/List;I)Ljava/util/List;"⟩ : MethodName) prog_17_method_2_code 5 (some (.object "java/util/List")) :: ws) ({ frames := 4, cells := 1, slots := 3, locals := 49 } : Room)) (fun aa_ UU_ => aa_ = #[(.ref a), (.int cc)] ∧ Z.Warmed39 UU_.vm ∧ UU_.heap = h0) (fun _ _ _ _ _ => True) (fun _ UU_ oo_ UV_ => ∃ vv_ LL_, oo_ = .returned vv_ ∧ own_split0_Q Z ed kd a mc cc h0 n0 vv_ UV_.heap LL_ ∧ FrameEnd UU_ oo_ UV_ LL_ ({ frames := 4, cells := 1, slots := 3, locals := 49 } : Room).cells ({ frames := 4, cells := 1, slots := 3, locals := 49 } : Room).slots) := by
  refine MetFree.of_bodySF (plainFor_of_name own_split0_pn) hisR ?_
  intro p e s m args below meth c s₁ Bd hml0 hP hK
  obtain ⟨rfl, hZ, hh⟩ := hP
  have hx := Bd.exec
  have hby := Bd.bytes
  have hml : c.maxLocals = 5 := hml0
  have hown : s.vm.findClass "com/example/circuline/circuline/storage/Insert" = some m.cls := findClass_of_methodNamed Bd.named
  have hnm := (name_of_methodNamed Bd.named Bd.method).1
  have X0 : Stand p l e ({ frames := 4, cells := 1, slots := 3, locals := 49 } : Room) s m #[(.ref a), (.int cc)] below meth c s₁ [] 0 0 := Stand.of_body Bd
  have e0 : s₁.heap = h0 := by rw [← hh, Bd.state]; rfl
  have N0 := Fr.nil n0
  have KP0 : Keep h0 h0 [] := Keep.refl _ _
  refine ownFin (Q := own_split0_Q Z ed kd a mc cc h0 n0) ?_
  refine ownStep (fun _ k => castTop (own_split0_ef m a cc) k) ?_
  show ownGo p.tables e below (s₁.setTop (mkF m 0 #[.val (.ref a), .val (.int cc), .unset, .unset, .unset] [])) _
  refine ownStep (fun _ k => XS.iconst X0.here hx rfl (hb hby own_split0_d0) k) ?_
  refine ownStep (fun _ k => XS.sipush X0.here hx rfl (hb hby own_split0_d1) k) ?_
  refine ownStep (fun _ k => XS.iloadN X0.here hx rfl (hb hby own_split0_d4) rfl  k) ?_
  refine ownStep (fun _ k => XS.idiv X0.here hx rfl (hb hby own_split0_d5) rfl (own_ne0 hcc) k) ?_
  show ownGo p.tables e below (s₁.setTop (mkF m 6 #[.val (.ref a), .val (.int cc), .unset, .unset, .unset] [(.int ((10000 : Int32) / cc)), (.int (1 : Int32))])) _
  have Zs2 : n0 ≤ h0.size := Nat.le_trans Z0 KP0.1
  obtain ⟨_, _, ⟨T1, L1, k1, n1⟩, -, X1, ⟨Lc1, hQ1, l1, y1, z1⟩, st1⟩ := Jvm.LawKit.callS X0 hx (y := (⟨"java/lang/Math", "max", "(II)I"⟩ : MethodName)) hown (mvT hZ (hw _ (List.mem_of_getElem? (i := 35) rfl))) (mvT hZ (hw _ (List.mem_of_getElem? (i := 2) rfl))) (mvT hZ (hw _ (List.mem_of_getElem? (i := 3) rfl))) (mvT hZ (hw _ (List.mem_of_getElem? (i := 4) rfl))) (by decide) (backOf (W := 0) (own_mmax l Z a0 hw [] (1 : Int32) ((10000 : Int32) / cc) h0 n0 Zs2 ) hZ (hw _ (List.mem_of_getElem? (i := 4) rfl)) (hw _ (List.mem_of_getElem? (i := 3) rfl)) (by decide) (by decide)) (g := (mkF m 6 #[.val (.ref a), .val (.int cc), .unset, .unset, .unset] [(.int ((10000 : Int32) / cc)), (.int (1 : Int32))])) rfl (by rw [hml]; rfl) (argsL := [(.int (1 : Int32)), (.int ((10000 : Int32) / cc))]) (rest := []) (lenOf own_split0_pd0 rfl) rfl (by show 2 * 0 + _ ≤ _; exact Nat.le_of_eq rfl) (hb hby own_split0_d6) (fun _ _ => ⟨rfl, e0, (by decide : 0 + 0 ≤ _), (by decide : 0 + 0 ≤ _)⟩)
  dsimp only [Pt.U, Pt.locs, Pt.cells, Pt.slots] at X1 l1 y1 z1 st1 hQ1
  obtain rfl : k1 = 0 := y1
  obtain rfl : n1 = 0 := z1
  obtain ⟨rfl, N1q, R1⟩ := hQ1
  have N1 : Fr n0 L1 := l1 ▸ Fr.app N0 N1q
  refine ownStep (fun _ k => st1 _ k) ?_
  show ownGo p.tables e below (T1.setTop (mkF m 9 #[.val (.ref a), .val (.int cc), .unset, .unset, .unset] [(.int (own_max (1 : Int32) ((10000 : Int32) / cc)))])) _
  obtain ⟨sz, h_sz, hzp⟩ := own_szv hcc
  rw [h_sz]
  refine ownStep (fun _ k => XS.istoreN X1.here hx rfl (hb hby own_split0_d9) rfl (l' := #[.val (.ref a), .val (.int cc), .val (.int sz), .unset, .unset]) rfl k) ?_
  show ownGo p.tables e below (T1.setTop (mkF m 10 #[.val (.ref a), .val (.int cc), .val (.int sz), .unset, .unset] [])) _
  obtain ⟨T3, h3, X3, e3, E3, A3, D3, U3, st3⟩ := newO X1 hx hZ hown (hw _ (List.mem_of_getElem? (i := 36) rfl)) (hw _ (List.mem_of_getElem? (i := 6) rfl)) (hw _ (List.mem_of_getElem? (i := 7) rfl)) R1 (g := (mkF m 10 #[.val (.ref a), .val (.int cc), .val (.int sz), .unset, .unset] [])) rfl (hb hby own_split0_d10) (by decide) (by decide)
  obtain ⟨b3, g3⟩ : ∃ z, z = h0.size := ⟨_, rfl⟩
  rw [← g3] at A3 D3 U3 st3
  have gh_b3 : h0.size ≤ b3 := Nat.le_trans KP0.1 (Nat.le_of_eq g3.symm)
  have gn_b3 : n0 ≤ b3 := Nat.le_trans Z0 gh_b3
  have KP4 : Keep h0 h3 [] := KP0.ext E3
  have F5 : Fld Z h3 b3 "java/util/AbstractList" "modCount" "I" (.int (0 : Int32)) := D3 (Or.inl (hw _ (List.mem_of_getElem? (i := 27) rfl))) (ty := .int) (by decide)
  have F6 : Fld Z h3 b3 "java/util/ArrayList" "elementData" "[Ljava/lang/Object;" .null := D3 (Or.inl (hw _ (List.mem_of_getElem? (i := 30) rfl))) (ty := (.array (.object "java/lang/Object"))) (by decide)
  have F7 : Fld Z h3 b3 "java/util/ArrayList" "size" "I" (.int (0 : Int32)) := D3 (Or.inl (hw _ (List.mem_of_getElem? (i := 48) rfl))) (ty := .int) (by decide)
  refine ownStep st3 ?_
  refine ownStep (fun _ k => XS.dup X3.here hx rfl (hb hby own_split0_d13) rfl rfl k) ?_
  show ownGo p.tables e below (T3.setTop (mkF m 14 #[.val (.ref a), .val (.int cc), .val (.int sz), .unset, .unset] [(.ref b3), (.ref b3)])) _
  have Q8 : Old Z n0 h3 := (hOld.ext E3)
  have Zs10 : n0 ≤ h3.size := Nat.le_trans Z0 KP4.1
  obtain ⟨_, _, ⟨T9, L9, k9, n9⟩, -, X9, ⟨Lc9, hQ9, l9, y9, z9⟩, st9⟩ := X3.specialBack hx (y := (⟨"java/util/ArrayList", "<init>", "()V"⟩ : MethodName)) rfl hown (mvT hZ (hw _ (List.mem_of_getElem? (i := 37) rfl))) (mvT hZ (hw _ (List.mem_of_getElem? (i := 9) rfl))) (mvT hZ (hw _ (List.mem_of_getElem? (i := 10) rfl))) (by decide) (backOf (W := 1) (own_al_init l Z a0 hw [] b3 ed h3 n0 Zs10 Q8 S A3 F6 F7 F5 gn_b3) hZ (hw _ (List.mem_of_getElem? (i := 10) rfl)) (hw _ (List.mem_of_getElem? (i := 7) rfl)) (by decide) (by decide)) (g := (mkF m 14 #[.val (.ref a), .val (.int cc), .val (.int sz), .unset, .unset] [(.ref b3), (.ref b3)])) rfl (by rw [hml]; rfl) (Steps.refl _) (a := b3) (argsL := []) (rest := [(.ref b3)]) (lenOf own_split0_pd1 rfl) rfl (by show 2 * 0 + _ ≤ _; exact Nat.le_of_eq rfl) (hb hby own_split0_d14) (fun _ _ => ⟨rfl, e3, (by decide : 1 + 0 ≤ _), (by decide : 3 + 0 ≤ _)⟩)
  dsimp only [Pt.U, Pt.locs, Pt.cells, Pt.slots] at X9 l9 y9 z9 st9 hQ9
  obtain rfl : k9 = 1 := y9
  obtain rfl : n9 = 3 := z9
  obtain ⟨rfl, N9q, R9, P11, P12, P13⟩ := hQ9
  have N9 : Fr n0 L9 := l9 ▸ Fr.app N1 N9q
  refine ownStep (fun _ k => st9.trans k) ?_
  have KP14 : Keep h0 T9.heap [] := KP4.trans R9 (allS (Or.inr gh_b3) all0)
  refine ownStep (fun _ k => XS.astoreN X9.here hx rfl (hb hby own_split0_d17) rfl rfl (l' := #[.val (.ref a), .val (.int cc), .val (.int sz), .val (.ref b3), .unset]) rfl k) ?_
  refine ownStep (fun _ k => XS.iconst X9.here hx rfl (hb hby own_split0_d18) k) ?_
  refine ownStep (fun _ k => XS.istore X9.here hx rfl (hb hby own_split0_d19) rfl (l' := #[.val (.ref a), .val (.int cc), .val (.int sz), .val (.ref b3), .val (.int (0 : Int32))]) rfl k) ?_
  refine ownStep (fun _ k => XS.iload X9.here hx rfl (hb hby own_split0_d21) rfl  k) ?_
  show ownGo p.tables e below (T9.setTop (mkF m 23 #[.val (.ref a), .val (.int cc), .val (.int sz), .val (.ref b3), .val (.int (0 : Int32))] [(.int (0 : Int32))])) _
  refine ownStep (fun _ k => XS.aloadN X9.here hx rfl (hb hby own_split0_d23) rfl rfl k) ?_
  show ownGo p.tables e below (T9.setTop (mkF m 24 #[.val (.ref a), .val (.int cc), .val (.int sz), .val (.ref b3), .val (.int (0 : Int32))] [(.ref a), (.int (0 : Int32))])) _
  have ne15 : a ≠ b3 := Nat.ne_of_lt (Nat.lt_of_lt_of_le (Nat.lt_of_lt_of_le Ea.lt (Nat.le_refl _)) (Nat.le_of_eq g3.symm))
  have Q16 : Fld Z T9.heap a "java/util/ArrayList" "size" "I" (.int (0 : Int32)) := ((Fs.ext E3).keep R9 (ninS ne15 nin0))
  have Zs18 : n0 ≤ T9.heap.size := Nat.le_trans Z0 KP14.1
  have Q19 : Exa Z T9.heap a "java/util/ArrayList" := ((Ea.ext E3).keep R9)
  obtain ⟨cq17, kq17, q17a, q17b, q17c⟩ := isOf hZ rfl Q19
  obtain ⟨_, _, ⟨T17, L17, k17, n17⟩, -, X17, ⟨Lc17, hQ17, l17, y17, z17⟩, st17⟩ := X9.interfaceBack hx (xi := (⟨"java/util/List", "size", "()I"⟩ : MethodName)) (y := (⟨"java/util/ArrayList", "size", "()I"⟩ : MethodName)) hown (mvT hZ (hw _ (List.mem_of_getElem? (i := 38) rfl))) (mvT hZ (hw _ (List.mem_of_getElem? (i := 39) rfl))) (mvT hZ (hw _ (List.mem_of_getElem? (i := 40) rfl))) (mvT hZ (hw _ (List.mem_of_getElem? (i := 41) rfl))) (mvT hZ (hw _ (List.mem_of_getElem? (i := 42) rfl))) (mvT hZ (hw _ (List.mem_of_getElem? (i := 43) rfl))) (mvT hZ (hw _ (List.mem_of_getElem? (i := 44) rfl))) (mvT hZ (hw _ (List.mem_of_getElem? (i := 45) rfl))) (by decide) (backOf (W := 1) (own_asz l Z a0 hw [] a (0 : Int32) T9.heap n0 Zs18 Q16) hZ (hw _ (List.mem_of_getElem? (i := 46) rfl)) (hw _ (List.mem_of_getElem? (i := 7) rfl)) (by decide) (by decide)) q17a q17b q17c (g := (mkF m 24 #[.val (.ref a), .val (.int cc), .val (.int sz), .val (.ref b3), .val (.int (0 : Int32))] [(.ref a), (.int (0 : Int32))])) rfl (by rw [hml]; rfl) (Steps.refl _) (argsL := []) (rest := [(.int (0 : Int32))]) (lenOf own_split0_pd2 rfl) rfl (by show 2 * 0 + _ ≤ _; exact Nat.le_of_eq rfl) (hb hby own_split0_d24) (fun _ _ => ⟨rfl, rfl, (by decide : 1 + 0 ≤ _), (by decide : 3 + 0 ≤ _)⟩)
  dsimp only [Pt.U, Pt.locs, Pt.cells, Pt.slots] at X17 l17 y17 z17 st17 hQ17
  obtain rfl : k17 = 1 := y17
  obtain rfl : n17 = 3 := z17
  obtain ⟨rfl, N17q, R17⟩ := hQ17
  have N17 : Fr n0 L17 := l17 ▸ Fr.app N9 N17q
  refine ownStep (fun _ k => st17.trans k) ?_
  refine ownStep (fun _ k => XS.icmpYes X17.here hx rfl (pc0 := 29) (pc' := 69) rfl (hb hby own_split0_d29) rfl (flt (by decide : ¬ (0 : Int32) < (0 : Int32))).2.1 (by decide) (by decide) k) ?_
  refine ownStep (fun _ k => XS.aloadN X17.here hx rfl (hb hby own_split0_d69) rfl rfl k) ?_
  show ownGo p.tables e below (T17.setTop (mkF m 70 #[.val (.ref a), .val (.int cc), .val (.int sz), .val (.ref b3), .val (.int (0 : Int32))] [(.ref b3)])) _
  have Q20 : Exa Z T9.heap b3 "java/util/ArrayList" := (A3.keep R9)
  exact ownRet X17 (v := some (.ref b3)) Bd.notSynchronized (fun h => by rw [Bd.returns] at h; cases h) (fun _ hr => retOut X17 hx (t := (.object "java/util/List")) Bd.returns rfl (Or.inr (Or.inr (Or.inr (Or.inr ⟨rfl, rfl, rfl⟩)))) (hb hby own_split0_d70) hr) (by rw [R17]; exact ⟨b3, rfl, N17, (own_extOf KP14), Q20, P12⟩) (by decide) (by decide)
theorem own_law_pn : plainName "com/example/circuline/circuline/storage/InsertSplitPinLaw" = true := by first | (simp [plainName, overriddenIn]; done) | decide +kernel
theorem own_law_pd0 : parseMethodDescriptor "(Ljava/util/List;I)Ljava/util/List;" = some ⟨[(.object "java/util/List"), .int], some (.object "java/util/List")⟩ := by decide +kernel
theorem own_law_pd1 : parseMethodDescriptor "()I" = some ⟨[], some .int⟩ := by decide +kernel
theorem own_law_pd2 : parseMethodDescriptor "(Ljava/util/List;IIIII)I" = some ⟨[(.object "java/util/List"), .int, .int, .int, .int, .int], some .int⟩ := by decide +kernel
theorem own_law_pd3 : parseMethodDescriptor "()V" = some ⟨[], none⟩ := by decide +kernel
theorem own_law_pd4 : parseMethodDescriptor "(I)Ljava/lang/Integer;" = some ⟨[.int], some (.object "java/lang/Integer")⟩ := by decide +kernel
theorem own_law_pd5 : parseMethodDescriptor "(Ljava/lang/Object;)Z" = some ⟨[(.object "java/lang/Object")], some .boolean⟩ := by decide +kernel
theorem own_law_pd6 : parseMethodDescriptor "(II)I" = some ⟨[.int, .int], some .int⟩ := by decide +kernel
theorem own_law_ef (m : MethodId) (x0 : Int32) (x1 : Int32) (x2 : Int32) : entryFrame m #[(.int x0), (.int x1), (.int x2)] maxLocals = mkF m 0 #[.val (.int x0), .val (.int x1), .val (.int x2), .unset, .unset, .unset, .unset, .unset, .unset, .unset, .unset] [] := by first | (simp [entryFrame, mkF, argsToLocals, Value.category, maxLocals]; done) | rfl
def own_law_Q (Z : State) (pa : Int32) (pb : Int32) (pq : Int32) (ed : Addr) (kd : ClassId) (ca : Addr) (clc : Cell) (h0 : Heap) (n0 : Nat) (vv_ : Option Value) (hh_ : Heap) (LL_ : List Loc) : Prop := vv_ = some (.int (1 : Int32)) ∧ Fr n0 LL_ ∧ Ext h0 hh_
set_option maxRecDepth 65536 in
set_option maxHeartbeats 40000000 in
theorem own_law (l : Launch) (Z : State) (a0 : Array Value) (hw : ∀ d ∈ tables_1, d.before a0 Z = true) (ws : List Jvm.Cond) (pa : Int32) (pb : Int32) (pq : Int32) (ed : Addr) (kd : ClassId) (ca : Addr) (clc : Cell) (h0 : Heap) (n0 : Nat) (Z0 : n0 ≤ h0.size) (hOld : Old Z n0 h0) (S : Sta Z Z.heap "java/util/ArrayList" "DEFAULTCAPACITY_EMPTY_ELEMENTDATA" "[Ljava/lang/Object;" (.ref ed)) (V : Arv Z Z.heap ed kd (.object "java/lang/Object") (0 : Int32) [] .null) (Sh : Sta Z Z.heap "java/lang/Integer$IntegerCache" "high" "I" (.int (127 : Int32))) (Sc : Sta Z Z.heap "java/lang/Integer$IntegerCache" "cache" "[Ljava/lang/Integer;" (.ref ca)) (BX : Bxs Z ca clc "java/lang/Integer" "I" (256 : Int32) (fun j => .int (j - (128 : Int32)))) :
    MetFree l x (head1 (Jvm.Cond.code x code maxLocals ret :: ws) room_1) (fun aa_ UU_ => aa_ = #[(.int pa), (.int pb), (.int pq)] ∧ Z.Warmed39 UU_.vm ∧ UU_.heap = h0) (fun _ _ _ _ _ => True) (fun _ UU_ oo_ UV_ => ∃ vv_ LL_, oo_ = .returned vv_ ∧ own_law_Q Z pa pb pq ed kd ca clc h0 n0 vv_ UV_.heap LL_ ∧ FrameEnd UU_ oo_ UV_ LL_ room_1.cells room_1.slots) := by
  refine MetFree.of_bodySF (plainFor_of_name own_law_pn) hisR ?_
  intro p e s m args below meth c s₁ Bd hml0 hP hK
  obtain ⟨rfl, hZ, hh⟩ := hP
  have hx := Bd.exec
  have hby := Bd.bytes
  have hml : c.maxLocals = 11 := hml0
  have hown : s.vm.findClass "com/example/circuline/circuline/storage/InsertSplitPinLaw" = some m.cls := findClass_of_methodNamed Bd.named
  have hnm := (name_of_methodNamed Bd.named Bd.method).1
  have X0 : Stand p l e room_1 s m #[(.int pa), (.int pb), (.int pq)] below meth c s₁ [] 0 0 := Stand.of_body Bd
  have e0 : s₁.heap = h0 := by rw [← hh, Bd.state]; rfl
  have N0 := Fr.nil n0
  have KP0 : Keep h0 h0 [] := Keep.refl _ _
  refine ownFin (Q := own_law_Q Z pa pb pq ed kd ca clc h0 n0) ?_
  refine ownStep (fun _ k => castTop (own_law_ef m pa pb pq) k) ?_
  show ownGo p.tables e below (s₁.setTop (mkF m 0 #[.val (.int pa), .val (.int pb), .val (.int pq), .unset, .unset, .unset, .unset, .unset, .unset, .unset, .unset] [])) _
  refine ownStep (fun _ k => XS.iloadN X0.here hx rfl (hb hby at_0) rfl  k) ?_
  refine ownStep (fun _ k => XS.bipush X0.here hx rfl (hb hby at_1) k) ?_
  refine ownStep (fun _ k => XS.iand X0.here hx rfl (hb hby at_3) rfl k) ?_
  show ownGo p.tables e below (s₁.setTop (mkF m 4 #[.val (.int pa), .val (.int pb), .val (.int pq), .unset, .unset, .unset, .unset, .unset, .unset, .unset, .unset] [(.int (pa &&& (7 : Int32)))])) _
  obtain ⟨nn, h_nn, hn7, hn0⟩ := own_n7 pa
  rw [h_nn]
  refine ownStep (fun _ k => XS.istoreN X0.here hx rfl (hb hby at_4) rfl (l' := #[.val (.int pa), .val (.int pb), .val (.int pq), .val (.int nn), .unset, .unset, .unset, .unset, .unset, .unset, .unset]) rfl k) ?_
  show ownGo p.tables e below (s₁.setTop (mkF m 5 #[.val (.int pa), .val (.int pb), .val (.int pq), .val (.int nn), .unset, .unset, .unset, .unset, .unset, .unset, .unset] [])) _
  have J45 : ∀ (Tj : State) (Lj : List Loc) (Xj : Stand p l e room_1 s m #[(.int pa), (.int pb), (.int pq)] below meth c Tj Lj 0 0) (ej : Tj.heap = h0) (Nj : Fr n0 Lj) (sm : Int32) (cc : Int32) (hcc : 1 ≤ cc.toInt), ownGo p.tables e below (Tj.setTop (mkF m 45 #[.val (.int pa), .val (.int pb), .val (.int pq), .val (.int nn), .val (.int sm), .val (.int pb), .unset, .unset, .unset, .unset, .unset] [(.int cc)])) (ownEnd below s (own_law_Q Z pa pb pq ed kd ca clc h0 n0) room_1.cells room_1.slots) := by
    intro Tj Lj Xj ej Nj sm cc hcc
    refine ownStep (fun _ k => XS.istore Xj.here hx rfl (hb hby at_45) rfl (l' := #[.val (.int pa), .val (.int pb), .val (.int pq), .val (.int nn), .val (.int sm), .val (.int pb), .val (.int cc), .unset, .unset, .unset, .unset]) rfl k) ?_
    show ownGo p.tables e below (Tj.setTop (mkF m 47 #[.val (.int pa), .val (.int pb), .val (.int pq), .val (.int nn), .val (.int sm), .val (.int pb), .val (.int cc), .unset, .unset, .unset, .unset] [])) _
    have J181 : ∀ (Tk : State) (Lk : List Loc) (hk_ : Heap) (Xk : Stand p l e room_1 s m #[(.int pa), (.int pb), (.int pq)] below meth c Tk Lk 16 90) (ek : Tk.heap = hk_) (Nk : Fr n0 Lk) (KPk : Keep h0 hk_ []) (la dd : Addr) (cl : Cell) (mc : Int32) (hn1 : 1 ≤ nn.toInt) (Ea : Exa Z hk_ la "java/util/ArrayList") (Fe : Fld Z hk_ la "java/util/ArrayList" "elementData" "[Ljava/lang/Object;" (.ref dd)) (Fs : Fld Z hk_ la "java/util/ArrayList" "size" "I" (.int nn)) (Fm : Fld Z hk_ la "java/util/AbstractList" "modCount" "I" (.int mc)) (A : Arr Z hk_ dd cl (.object "java/lang/Object")) (hsz : cl.slots.size = 10) (HB : own_boxes Z hk_ cl nn pb), ownGo p.tables e below (Tk.setTop (mkF m 181 #[.val (.int pa), .val (.int pb), .val (.int pq), .val (.int nn), .val (.int sm), .val (.int pb), .val (.int cc), .val (.ref la), .unset, .unset, .unset] [])) (ownEnd below s (own_law_Q Z pa pb pq ed kd ca clc h0 n0) room_1.cells room_1.slots) := by
      intro Tk Lk hk_ Xk ek Nk KPk la dd cl mc hn1 Ea Fe Fs Fm A hsz HB
      have EJ := own_extOf KPk
      have KP1 : Keep h0 hk_ [] := KP0.ext EJ
      refine ownStep (fun _ k => XS.aload Xk.here hx rfl (hb hby at_181) rfl rfl k) ?_
      refine ownStep (fun _ k => XS.iload Xk.here hx rfl (hb hby at_183) rfl  k) ?_
      show ownGo p.tables e below (Tk.setTop (mkF m 185 #[.val (.int pa), .val (.int pb), .val (.int pq), .val (.int nn), .val (.int sm), .val (.int pb), .val (.int cc), .val (.ref la), .unset, .unset, .unset] [(.int cc), (.ref la)])) _
      have Q2 : Old Z n0 hk_ := (hOld.ext EJ)
      have Zs4 : n0 ≤ hk_.size := Nat.le_trans Z0 KP1.1
      obtain ⟨_, _, ⟨T3, L3, k3, n3⟩, -, X3, ⟨Lc3, hQ3, l3, y3, z3⟩, st3⟩ := Jvm.LawKit.callS Xk hx (y := (⟨"com/example/circuline/circuline/storage/Insert", "split", "(Ljava/util/List;I)Ljava/util/List;"⟩ : MethodName)) hown (mvT hZ (hw _ (List.mem_of_getElem? (i := 31) rfl))) (mvT hZ (hw _ (List.mem_of_getElem? (i := 32) rfl))) (mvT hZ (hw _ (List.mem_of_getElem? (i := 33) rfl))) (mvT hZ (hw _ (List.mem_of_getElem? (i := 34) rfl))) (by decide) (backOf (W := 0) (own_split l Z a0 hw [] ed kd la nn mc cc hk_ n0 Zs4 Q2 S V Ea Fs Fm hn1 hn7 hcc) hZ (hw _ (List.mem_of_getElem? (i := 34) rfl)) (hw _ (List.mem_of_getElem? (i := 33) rfl)) (by decide) (by decide)) (g := (mkF m 185 #[.val (.int pa), .val (.int pb), .val (.int pq), .val (.int nn), .val (.int sm), .val (.int pb), .val (.int cc), .val (.ref la), .unset, .unset, .unset] [(.int cc), (.ref la)])) rfl (by rw [hml]; rfl) (argsL := [(.ref la), (.int cc)]) (rest := []) (lenOf own_law_pd0 rfl) rfl (by show 2 * 0 + _ ≤ _; exact Nat.le_of_eq rfl) (hb hby at_185) (fun _ _ => ⟨rfl, ek, (by decide : 16 + 15 ≤ _), (by decide : 90 + 108 ≤ _)⟩)
      dsimp only [Pt.U, Pt.locs, Pt.cells, Pt.slots] at X3 l3 y3 z3 st3 hQ3
      obtain rfl : k3 = 31 := y3
      obtain rfl : n3 = 198 := z3
      obtain ⟨r_, dr, clr, mm, sz, rfl, N3q, R3, P5, P6, P7, P8, P9, P10, P11, P12⟩ := hQ3
      have N3 : Fr n0 L3 := l3 ▸ Fr.app Nk N3q
      refine ownStep (fun _ k => st3 _ k) ?_
      have KP13 : Keep h0 T3.heap [] := KP1.ext R3
      refine ownStep (fun _ k => XS.astore X3.here hx rfl (hb hby at_188) rfl rfl (l' := #[.val (.int pa), .val (.int pb), .val (.int pq), .val (.int nn), .val (.int sm), .val (.int pb), .val (.int cc), .val (.ref la), .val (.ref r_), .unset, .unset]) rfl k) ?_
      refine ownStep (fun _ k => XS.aload X3.here hx rfl (hb hby at_190) rfl rfl k) ?_
      show ownGo p.tables e below (T3.setTop (mkF m 192 #[.val (.int pa), .val (.int pb), .val (.int pq), .val (.int nn), .val (.int sm), .val (.int pb), .val (.int cc), .val (.ref la), .val (.ref r_), .unset, .unset] [(.ref r_)])) _
      have Zs15 : n0 ≤ T3.heap.size := Nat.le_trans Z0 KP13.1
      obtain ⟨cq14, kq14, q14a, q14b, q14c⟩ := isOf hZ rfl P5
      obtain ⟨_, _, ⟨T14, L14, k14, n14⟩, -, X14, ⟨Lc14, hQ14, l14, y14, z14⟩, st14⟩ := X3.interfaceBack hx (xi := (⟨"java/util/List", "size", "()I"⟩ : MethodName)) (y := (⟨"java/util/ArrayList", "size", "()I"⟩ : MethodName)) hown (mvT hZ (hw _ (List.mem_of_getElem? (i := 49) rfl))) (mvT hZ (hw _ (List.mem_of_getElem? (i := 39) rfl))) (mvT hZ (hw _ (List.mem_of_getElem? (i := 40) rfl))) (mvT hZ (hw _ (List.mem_of_getElem? (i := 41) rfl))) (mvT hZ (hw _ (List.mem_of_getElem? (i := 42) rfl))) (mvT hZ (hw _ (List.mem_of_getElem? (i := 43) rfl))) (mvT hZ (hw _ (List.mem_of_getElem? (i := 44) rfl))) (mvT hZ (hw _ (List.mem_of_getElem? (i := 45) rfl))) (by decide) (backOf (W := 0) (own_asz l Z a0 hw [] r_ mm T3.heap n0 Zs15 P7) hZ (hw _ (List.mem_of_getElem? (i := 46) rfl)) (hw _ (List.mem_of_getElem? (i := 7) rfl)) (by decide) (by decide)) q14a q14b q14c (g := (mkF m 192 #[.val (.int pa), .val (.int pb), .val (.int pq), .val (.int nn), .val (.int sm), .val (.int pb), .val (.int cc), .val (.ref la), .val (.ref r_), .unset, .unset] [(.ref r_)])) rfl (by rw [hml]; rfl) (Steps.refl _) (argsL := []) (rest := []) (lenOf own_law_pd1 rfl) rfl (by show 2 * 0 + _ ≤ _; exact Nat.le_of_eq rfl) (hb hby at_192) (fun _ _ => ⟨rfl, rfl, (by decide : 31 + 0 ≤ _), (by decide : 198 + 0 ≤ _)⟩)
      dsimp only [Pt.U, Pt.locs, Pt.cells, Pt.slots] at X14 l14 y14 z14 st14 hQ14
      obtain rfl : k14 = 31 := y14
      obtain rfl : n14 = 198 := z14
      obtain ⟨rfl, N14q, R14⟩ := hQ14
      have N14 : Fr n0 L14 := l14 ▸ Fr.app N3 N14q
      refine ownStep (fun _ k => st14.trans k) ?_
      refine ownStep (fun _ k => XS.istore X14.here hx rfl (hb hby at_197) rfl (l' := #[.val (.int pa), .val (.int pb), .val (.int pq), .val (.int nn), .val (.int sm), .val (.int pb), .val (.int cc), .val (.ref la), .val (.ref r_), .val (.int mm), .unset]) rfl k) ?_
      refine ownStep (fun _ k => XS.iload X14.here hx rfl (hb hby at_199) rfl  k) ?_
      refine ownStep (fun _ k => XS.bipush X14.here hx rfl (hb hby at_201) k) ?_
      refine ownStep (fun _ k => XS.icmpYes X14.here hx rfl (pc0 := 203) (pc' := 208) rfl (hb hby at_203) rfl (flt ((own_m8 P12) : ¬ (8 : Int32) < mm)).2.2.2 (by decide) (by decide) k) ?_
      show ownGo p.tables e below (T14.setTop (mkF m 208 #[.val (.int pa), .val (.int pb), .val (.int pq), .val (.int nn), .val (.int sm), .val (.int pb), .val (.int cc), .val (.ref la), .val (.ref r_), .val (.int mm), .unset] [])) _
      refine ownStep (fun _ k => XS.iloadN X14.here hx rfl (hb hby at_208) rfl  k) ?_
      refine ownStep (fun _ k => XS.ifYes X14.here hx rfl (pc0 := 209) (pc' := 223) rfl (hb hby at_209) rfl ((if0 _ _).trans (feq ((own_nz hn1) : ¬ nn = (0 : Int32))).2) (by decide) (by decide) k) ?_
      refine ownStep (fun _ k => XS.iconst X14.here hx rfl (hb hby at_223) k) ?_
      refine ownStep (fun _ k => XS.istore X14.here hx rfl (hb hby at_224) rfl (l' := #[.val (.int pa), .val (.int pb), .val (.int pq), .val (.int nn), .val (.int sm), .val (.int pb), .val (.int cc), .val (.ref la), .val (.ref r_), .val (.int mm), .val (.int (0 : Int32))]) rfl k) ?_
      refine ownStep (fun _ k => XS.aload X14.here hx rfl (hb hby at_226) rfl rfl k) ?_
      show ownGo p.tables e below (T14.setTop (mkF m 228 #[.val (.int pa), .val (.int pb), .val (.int pq), .val (.int nn), .val (.int sm), .val (.int pb), .val (.int cc), .val (.ref la), .val (.ref r_), .val (.int mm), .val (.int (0 : Int32))] [(.ref r_)])) _
      refine ownStep (fun _ k => XS.iconst X14.here hx rfl (hb hby at_228) k) ?_
      refine ownStep (fun _ k => XS.iload X14.here hx rfl (hb hby at_229) rfl  k) ?_
      refine ownStep (fun _ k => XS.iload X14.here hx rfl (hb hby at_231) rfl  k) ?_
      refine ownStep (fun _ k => XS.iload X14.here hx rfl (hb hby at_233) rfl  k) ?_
      refine ownStep (fun _ k => XS.iload X14.here hx rfl (hb hby at_235) rfl  k) ?_
      show ownGo p.tables e below (T14.setTop (mkF m 237 #[.val (.int pa), .val (.int pb), .val (.int pq), .val (.int nn), .val (.int sm), .val (.int pb), .val (.int cc), .val (.ref la), .val (.ref r_), .val (.int mm), .val (.int (0 : Int32))] [(.int cc), (.int pb), (.int (0 : Int32)), (.int mm), (.int (0 : Int32)), (.ref r_)])) _
      have Q16 : Exa Z T3.heap la "java/util/ArrayList" := (Ea.ext R3)
      have Q17 : Fld Z T3.heap la "java/util/ArrayList" "elementData" "[Ljava/lang/Object;" (.ref dd) := (Fe.ext R3)
      have Q18 : Fld Z T3.heap la "java/util/AbstractList" "modCount" "I" (.int mc) := (Fm.ext R3)
      have Q19 : Arr Z T3.heap dd cl (.object "java/lang/Object") := (A.ext R3)
      have Q20 : own_boxes Z T3.heap cl nn pb := (HB.ext R3)
      have Zs22 : n0 ≤ T3.heap.size := Nat.le_trans Z0 KP13.1
      obtain ⟨_, _, ⟨T21, L21, k21, n21⟩, -, X21, ⟨Lc21, hQ21, l21, y21, z21⟩, st21⟩ := Jvm.LawKit.callS X14 hx (y := (⟨"com/example/circuline/circuline/storage/InsertSplitPinLaw", "step", "(Ljava/util/List;IIIII)I"⟩ : MethodName)) hown (mvT hZ (hw _ (List.mem_of_getElem? (i := 127) rfl))) (mvT hZ (hw _ (List.mem_of_getElem? (i := 128) rfl))) (mvT hZ (hw _ (List.mem_of_getElem? (i := 129) rfl))) (mvT hZ (hw _ (List.mem_of_getElem? (i := 130) rfl))) (by decide) (backOf (W := 0) (own_step l Z a0 hw [] r_ dr clr mm la mc nn sz dd cl pb cc (0 : Int32) (0 : Int32) T3.heap n0 Zs22 P5 P6 P7 P8 P9 P10 Q16 Q17 Q18 Q19 hsz Q20 P11 P12 hn1 hn7 hcc (by decide) (by decide) (own_pos0 P12)) hZ (hw _ (List.mem_of_getElem? (i := 130) rfl)) (hw _ (List.mem_of_getElem? (i := 129) rfl)) (by decide) (by decide)) (g := (mkF m 237 #[.val (.int pa), .val (.int pb), .val (.int pq), .val (.int nn), .val (.int sm), .val (.int pb), .val (.int cc), .val (.ref la), .val (.ref r_), .val (.int mm), .val (.int (0 : Int32))] [(.int cc), (.int pb), (.int (0 : Int32)), (.int mm), (.int (0 : Int32)), (.ref r_)])) rfl (by rw [hml]; rfl) (argsL := [(.ref r_), (.int (0 : Int32)), (.int mm), (.int (0 : Int32)), (.int pb), (.int cc)]) (rest := []) (lenOf own_law_pd2 rfl) rfl (by show 2 * 0 + _ ≤ _; exact Nat.le_of_eq rfl) (hb hby at_237) (fun _ _ => ⟨rfl, R14, (by decide : 31 + 0 ≤ _), (by decide : 198 + 0 ≤ _)⟩)
      dsimp only [Pt.U, Pt.locs, Pt.cells, Pt.slots] at X21 l21 y21 z21 st21 hQ21
      obtain rfl : k21 = 31 := y21
      obtain rfl : n21 = 198 := z21
      obtain ⟨po1, rfl, N21q, R21, P23⟩ := hQ21
      have N21 : Fr n0 L21 := l21 ▸ Fr.app N14 N21q
      refine ownStep (fun _ k => st21 _ k) ?_
      show ownGo p.tables e below (T21.setTop (mkF m 240 #[.val (.int pa), .val (.int pb), .val (.int pq), .val (.int nn), .val (.int sm), .val (.int pb), .val (.int cc), .val (.ref la), .val (.ref r_), .val (.int mm), .val (.int (0 : Int32))] [(.int po1)])) _
      have hp1 : own_pos mm nn sz (1 : Int32) po1 := P23
      refine ownStep (fun _ k => XS.istore X21.here hx rfl (hb hby at_240) rfl (l' := #[.val (.int pa), .val (.int pb), .val (.int pq), .val (.int nn), .val (.int sm), .val (.int pb), .val (.int cc), .val (.ref la), .val (.ref r_), .val (.int mm), .val (.int po1)]) rfl k) ?_
      refine ownStep (fun _ k => XS.aload X21.here hx rfl (hb hby at_242) rfl rfl k) ?_
      refine ownStep (fun _ k => XS.iconst X21.here hx rfl (hb hby at_244) k) ?_
      refine ownStep (fun _ k => XS.iload X21.here hx rfl (hb hby at_245) rfl  k) ?_
      show ownGo p.tables e below (T21.setTop (mkF m 247 #[.val (.int pa), .val (.int pb), .val (.int pq), .val (.int nn), .val (.int sm), .val (.int pb), .val (.int cc), .val (.ref la), .val (.ref r_), .val (.int mm), .val (.int po1)] [(.int mm), (.int (1 : Int32)), (.ref r_)])) _
      refine ownStep (fun _ k => XS.iload X21.here hx rfl (hb hby at_247) rfl  k) ?_
      refine ownStep (fun _ k => XS.iload X21.here hx rfl (hb hby at_249) rfl  k) ?_
      refine ownStep (fun _ k => XS.iload X21.here hx rfl (hb hby at_251) rfl  k) ?_
      show ownGo p.tables e below (T21.setTop (mkF m 253 #[.val (.int pa), .val (.int pb), .val (.int pq), .val (.int nn), .val (.int sm), .val (.int pb), .val (.int cc), .val (.ref la), .val (.ref r_), .val (.int mm), .val (.int po1)] [(.int cc), (.int pb), (.int po1), (.int mm), (.int (1 : Int32)), (.ref r_)])) _
      have Zs25 : n0 ≤ T3.heap.size := Nat.le_trans Z0 KP13.1
      obtain ⟨_, _, ⟨T24, L24, k24, n24⟩, -, X24, ⟨Lc24, hQ24, l24, y24, z24⟩, st24⟩ := Jvm.LawKit.callS X21 hx (y := (⟨"com/example/circuline/circuline/storage/InsertSplitPinLaw", "step", "(Ljava/util/List;IIIII)I"⟩ : MethodName)) hown (mvT hZ (hw _ (List.mem_of_getElem? (i := 127) rfl))) (mvT hZ (hw _ (List.mem_of_getElem? (i := 128) rfl))) (mvT hZ (hw _ (List.mem_of_getElem? (i := 129) rfl))) (mvT hZ (hw _ (List.mem_of_getElem? (i := 130) rfl))) (by decide) (backOf (W := 0) (own_step l Z a0 hw [] r_ dr clr mm la mc nn sz dd cl pb cc (1 : Int32) po1 T3.heap n0 Zs25 P5 P6 P7 P8 P9 P10 Q16 Q17 Q18 Q19 hsz Q20 P11 P12 hn1 hn7 hcc (by decide) (by decide) hp1) hZ (hw _ (List.mem_of_getElem? (i := 130) rfl)) (hw _ (List.mem_of_getElem? (i := 129) rfl)) (by decide) (by decide)) (g := (mkF m 253 #[.val (.int pa), .val (.int pb), .val (.int pq), .val (.int nn), .val (.int sm), .val (.int pb), .val (.int cc), .val (.ref la), .val (.ref r_), .val (.int mm), .val (.int po1)] [(.int cc), (.int pb), (.int po1), (.int mm), (.int (1 : Int32)), (.ref r_)])) rfl (by rw [hml]; rfl) (argsL := [(.ref r_), (.int (1 : Int32)), (.int mm), (.int po1), (.int pb), (.int cc)]) (rest := []) (lenOf own_law_pd2 rfl) rfl (by show 2 * 0 + _ ≤ _; exact Nat.le_of_eq rfl) (hb hby at_253) (fun _ _ => ⟨rfl, R21, (by decide : 31 + 0 ≤ _), (by decide : 198 + 0 ≤ _)⟩)
      dsimp only [Pt.U, Pt.locs, Pt.cells, Pt.slots] at X24 l24 y24 z24 st24 hQ24
      obtain rfl : k24 = 31 := y24
      obtain rfl : n24 = 198 := z24
      obtain ⟨po2, rfl, N24q, R24, P26⟩ := hQ24
      have N24 : Fr n0 L24 := l24 ▸ Fr.app N21 N24q
      refine ownStep (fun _ k => st24 _ k) ?_
      show ownGo p.tables e below (T24.setTop (mkF m 256 #[.val (.int pa), .val (.int pb), .val (.int pq), .val (.int nn), .val (.int sm), .val (.int pb), .val (.int cc), .val (.ref la), .val (.ref r_), .val (.int mm), .val (.int po1)] [(.int po2)])) _
      have hp2 : own_pos mm nn sz (2 : Int32) po2 := P26
      refine ownStep (fun _ k => XS.istore X24.here hx rfl (hb hby at_256) rfl (l' := #[.val (.int pa), .val (.int pb), .val (.int pq), .val (.int nn), .val (.int sm), .val (.int pb), .val (.int cc), .val (.ref la), .val (.ref r_), .val (.int mm), .val (.int po2)]) rfl k) ?_
      refine ownStep (fun _ k => XS.aload X24.here hx rfl (hb hby at_258) rfl rfl k) ?_
      refine ownStep (fun _ k => XS.iconst X24.here hx rfl (hb hby at_260) k) ?_
      refine ownStep (fun _ k => XS.iload X24.here hx rfl (hb hby at_261) rfl  k) ?_
      show ownGo p.tables e below (T24.setTop (mkF m 263 #[.val (.int pa), .val (.int pb), .val (.int pq), .val (.int nn), .val (.int sm), .val (.int pb), .val (.int cc), .val (.ref la), .val (.ref r_), .val (.int mm), .val (.int po2)] [(.int mm), (.int (2 : Int32)), (.ref r_)])) _
      refine ownStep (fun _ k => XS.iload X24.here hx rfl (hb hby at_263) rfl  k) ?_
      refine ownStep (fun _ k => XS.iload X24.here hx rfl (hb hby at_265) rfl  k) ?_
      refine ownStep (fun _ k => XS.iload X24.here hx rfl (hb hby at_267) rfl  k) ?_
      show ownGo p.tables e below (T24.setTop (mkF m 269 #[.val (.int pa), .val (.int pb), .val (.int pq), .val (.int nn), .val (.int sm), .val (.int pb), .val (.int cc), .val (.ref la), .val (.ref r_), .val (.int mm), .val (.int po2)] [(.int cc), (.int pb), (.int po2), (.int mm), (.int (2 : Int32)), (.ref r_)])) _
      have Zs28 : n0 ≤ T3.heap.size := Nat.le_trans Z0 KP13.1
      obtain ⟨_, _, ⟨T27, L27, k27, n27⟩, -, X27, ⟨Lc27, hQ27, l27, y27, z27⟩, st27⟩ := Jvm.LawKit.callS X24 hx (y := (⟨"com/example/circuline/circuline/storage/InsertSplitPinLaw", "step", "(Ljava/util/List;IIIII)I"⟩ : MethodName)) hown (mvT hZ (hw _ (List.mem_of_getElem? (i := 127) rfl))) (mvT hZ (hw _ (List.mem_of_getElem? (i := 128) rfl))) (mvT hZ (hw _ (List.mem_of_getElem? (i := 129) rfl))) (mvT hZ (hw _ (List.mem_of_getElem? (i := 130) rfl))) (by decide) (backOf (W := 0) (own_step l Z a0 hw [] r_ dr clr mm la mc nn sz dd cl pb cc (2 : Int32) po2 T3.heap n0 Zs28 P5 P6 P7 P8 P9 P10 Q16 Q17 Q18 Q19 hsz Q20 P11 P12 hn1 hn7 hcc (by decide) (by decide) hp2) hZ (hw _ (List.mem_of_getElem? (i := 130) rfl)) (hw _ (List.mem_of_getElem? (i := 129) rfl)) (by decide) (by decide)) (g := (mkF m 269 #[.val (.int pa), .val (.int pb), .val (.int pq), .val (.int nn), .val (.int sm), .val (.int pb), .val (.int cc), .val (.ref la), .val (.ref r_), .val (.int mm), .val (.int po2)] [(.int cc), (.int pb), (.int po2), (.int mm), (.int (2 : Int32)), (.ref r_)])) rfl (by rw [hml]; rfl) (argsL := [(.ref r_), (.int (2 : Int32)), (.int mm), (.int po2), (.int pb), (.int cc)]) (rest := []) (lenOf own_law_pd2 rfl) rfl (by show 2 * 0 + _ ≤ _; exact Nat.le_of_eq rfl) (hb hby at_269) (fun _ _ => ⟨rfl, R24, (by decide : 31 + 0 ≤ _), (by decide : 198 + 0 ≤ _)⟩)
      dsimp only [Pt.U, Pt.locs, Pt.cells, Pt.slots] at X27 l27 y27 z27 st27 hQ27
      obtain rfl : k27 = 31 := y27
      obtain rfl : n27 = 198 := z27
      obtain ⟨po3, rfl, N27q, R27, P29⟩ := hQ27
      have N27 : Fr n0 L27 := l27 ▸ Fr.app N24 N27q
      refine ownStep (fun _ k => st27 _ k) ?_
      show ownGo p.tables e below (T27.setTop (mkF m 272 #[.val (.int pa), .val (.int pb), .val (.int pq), .val (.int nn), .val (.int sm), .val (.int pb), .val (.int cc), .val (.ref la), .val (.ref r_), .val (.int mm), .val (.int po2)] [(.int po3)])) _
      have hp3 : own_pos mm nn sz (3 : Int32) po3 := P29
      refine ownStep (fun _ k => XS.istore X27.here hx rfl (hb hby at_272) rfl (l' := #[.val (.int pa), .val (.int pb), .val (.int pq), .val (.int nn), .val (.int sm), .val (.int pb), .val (.int cc), .val (.ref la), .val (.ref r_), .val (.int mm), .val (.int po3)]) rfl k) ?_
      refine ownStep (fun _ k => XS.aload X27.here hx rfl (hb hby at_274) rfl rfl k) ?_
      refine ownStep (fun _ k => XS.iconst X27.here hx rfl (hb hby at_276) k) ?_
      refine ownStep (fun _ k => XS.iload X27.here hx rfl (hb hby at_277) rfl  k) ?_
      show ownGo p.tables e below (T27.setTop (mkF m 279 #[.val (.int pa), .val (.int pb), .val (.int pq), .val (.int nn), .val (.int sm), .val (.int pb), .val (.int cc), .val (.ref la), .val (.ref r_), .val (.int mm), .val (.int po3)] [(.int mm), (.int (3 : Int32)), (.ref r_)])) _
      refine ownStep (fun _ k => XS.iload X27.here hx rfl (hb hby at_279) rfl  k) ?_
      refine ownStep (fun _ k => XS.iload X27.here hx rfl (hb hby at_281) rfl  k) ?_
      refine ownStep (fun _ k => XS.iload X27.here hx rfl (hb hby at_283) rfl  k) ?_
      show ownGo p.tables e below (T27.setTop (mkF m 285 #[.val (.int pa), .val (.int pb), .val (.int pq), .val (.int nn), .val (.int sm), .val (.int pb), .val (.int cc), .val (.ref la), .val (.ref r_), .val (.int mm), .val (.int po3)] [(.int cc), (.int pb), (.int po3), (.int mm), (.int (3 : Int32)), (.ref r_)])) _
      have Zs31 : n0 ≤ T3.heap.size := Nat.le_trans Z0 KP13.1
      obtain ⟨_, _, ⟨T30, L30, k30, n30⟩, -, X30, ⟨Lc30, hQ30, l30, y30, z30⟩, st30⟩ := Jvm.LawKit.callS X27 hx (y := (⟨"com/example/circuline/circuline/storage/InsertSplitPinLaw", "step", "(Ljava/util/List;IIIII)I"⟩ : MethodName)) hown (mvT hZ (hw _ (List.mem_of_getElem? (i := 127) rfl))) (mvT hZ (hw _ (List.mem_of_getElem? (i := 128) rfl))) (mvT hZ (hw _ (List.mem_of_getElem? (i := 129) rfl))) (mvT hZ (hw _ (List.mem_of_getElem? (i := 130) rfl))) (by decide) (backOf (W := 0) (own_step l Z a0 hw [] r_ dr clr mm la mc nn sz dd cl pb cc (3 : Int32) po3 T3.heap n0 Zs31 P5 P6 P7 P8 P9 P10 Q16 Q17 Q18 Q19 hsz Q20 P11 P12 hn1 hn7 hcc (by decide) (by decide) hp3) hZ (hw _ (List.mem_of_getElem? (i := 130) rfl)) (hw _ (List.mem_of_getElem? (i := 129) rfl)) (by decide) (by decide)) (g := (mkF m 285 #[.val (.int pa), .val (.int pb), .val (.int pq), .val (.int nn), .val (.int sm), .val (.int pb), .val (.int cc), .val (.ref la), .val (.ref r_), .val (.int mm), .val (.int po3)] [(.int cc), (.int pb), (.int po3), (.int mm), (.int (3 : Int32)), (.ref r_)])) rfl (by rw [hml]; rfl) (argsL := [(.ref r_), (.int (3 : Int32)), (.int mm), (.int po3), (.int pb), (.int cc)]) (rest := []) (lenOf own_law_pd2 rfl) rfl (by show 2 * 0 + _ ≤ _; exact Nat.le_of_eq rfl) (hb hby at_285) (fun _ _ => ⟨rfl, R27, (by decide : 31 + 0 ≤ _), (by decide : 198 + 0 ≤ _)⟩)
      dsimp only [Pt.U, Pt.locs, Pt.cells, Pt.slots] at X30 l30 y30 z30 st30 hQ30
      obtain rfl : k30 = 31 := y30
      obtain rfl : n30 = 198 := z30
      obtain ⟨po4, rfl, N30q, R30, P32⟩ := hQ30
      have N30 : Fr n0 L30 := l30 ▸ Fr.app N27 N30q
      refine ownStep (fun _ k => st30 _ k) ?_
      show ownGo p.tables e below (T30.setTop (mkF m 288 #[.val (.int pa), .val (.int pb), .val (.int pq), .val (.int nn), .val (.int sm), .val (.int pb), .val (.int cc), .val (.ref la), .val (.ref r_), .val (.int mm), .val (.int po3)] [(.int po4)])) _
      have hp4 : own_pos mm nn sz (4 : Int32) po4 := P32
      refine ownStep (fun _ k => XS.istore X30.here hx rfl (hb hby at_288) rfl (l' := #[.val (.int pa), .val (.int pb), .val (.int pq), .val (.int nn), .val (.int sm), .val (.int pb), .val (.int cc), .val (.ref la), .val (.ref r_), .val (.int mm), .val (.int po4)]) rfl k) ?_
      refine ownStep (fun _ k => XS.aload X30.here hx rfl (hb hby at_290) rfl rfl k) ?_
      refine ownStep (fun _ k => XS.iconst X30.here hx rfl (hb hby at_292) k) ?_
      refine ownStep (fun _ k => XS.iload X30.here hx rfl (hb hby at_293) rfl  k) ?_
      show ownGo p.tables e below (T30.setTop (mkF m 295 #[.val (.int pa), .val (.int pb), .val (.int pq), .val (.int nn), .val (.int sm), .val (.int pb), .val (.int cc), .val (.ref la), .val (.ref r_), .val (.int mm), .val (.int po4)] [(.int mm), (.int (4 : Int32)), (.ref r_)])) _
      refine ownStep (fun _ k => XS.iload X30.here hx rfl (hb hby at_295) rfl  k) ?_
      refine ownStep (fun _ k => XS.iload X30.here hx rfl (hb hby at_297) rfl  k) ?_
      refine ownStep (fun _ k => XS.iload X30.here hx rfl (hb hby at_299) rfl  k) ?_
      show ownGo p.tables e below (T30.setTop (mkF m 301 #[.val (.int pa), .val (.int pb), .val (.int pq), .val (.int nn), .val (.int sm), .val (.int pb), .val (.int cc), .val (.ref la), .val (.ref r_), .val (.int mm), .val (.int po4)] [(.int cc), (.int pb), (.int po4), (.int mm), (.int (4 : Int32)), (.ref r_)])) _
      have Zs34 : n0 ≤ T3.heap.size := Nat.le_trans Z0 KP13.1
      obtain ⟨_, _, ⟨T33, L33, k33, n33⟩, -, X33, ⟨Lc33, hQ33, l33, y33, z33⟩, st33⟩ := Jvm.LawKit.callS X30 hx (y := (⟨"com/example/circuline/circuline/storage/InsertSplitPinLaw", "step", "(Ljava/util/List;IIIII)I"⟩ : MethodName)) hown (mvT hZ (hw _ (List.mem_of_getElem? (i := 127) rfl))) (mvT hZ (hw _ (List.mem_of_getElem? (i := 128) rfl))) (mvT hZ (hw _ (List.mem_of_getElem? (i := 129) rfl))) (mvT hZ (hw _ (List.mem_of_getElem? (i := 130) rfl))) (by decide) (backOf (W := 0) (own_step l Z a0 hw [] r_ dr clr mm la mc nn sz dd cl pb cc (4 : Int32) po4 T3.heap n0 Zs34 P5 P6 P7 P8 P9 P10 Q16 Q17 Q18 Q19 hsz Q20 P11 P12 hn1 hn7 hcc (by decide) (by decide) hp4) hZ (hw _ (List.mem_of_getElem? (i := 130) rfl)) (hw _ (List.mem_of_getElem? (i := 129) rfl)) (by decide) (by decide)) (g := (mkF m 301 #[.val (.int pa), .val (.int pb), .val (.int pq), .val (.int nn), .val (.int sm), .val (.int pb), .val (.int cc), .val (.ref la), .val (.ref r_), .val (.int mm), .val (.int po4)] [(.int cc), (.int pb), (.int po4), (.int mm), (.int (4 : Int32)), (.ref r_)])) rfl (by rw [hml]; rfl) (argsL := [(.ref r_), (.int (4 : Int32)), (.int mm), (.int po4), (.int pb), (.int cc)]) (rest := []) (lenOf own_law_pd2 rfl) rfl (by show 2 * 0 + _ ≤ _; exact Nat.le_of_eq rfl) (hb hby at_301) (fun _ _ => ⟨rfl, R30, (by decide : 31 + 0 ≤ _), (by decide : 198 + 0 ≤ _)⟩)
      dsimp only [Pt.U, Pt.locs, Pt.cells, Pt.slots] at X33 l33 y33 z33 st33 hQ33
      obtain rfl : k33 = 31 := y33
      obtain rfl : n33 = 198 := z33
      obtain ⟨po5, rfl, N33q, R33, P35⟩ := hQ33
      have N33 : Fr n0 L33 := l33 ▸ Fr.app N30 N33q
      refine ownStep (fun _ k => st33 _ k) ?_
      show ownGo p.tables e below (T33.setTop (mkF m 304 #[.val (.int pa), .val (.int pb), .val (.int pq), .val (.int nn), .val (.int sm), .val (.int pb), .val (.int cc), .val (.ref la), .val (.ref r_), .val (.int mm), .val (.int po4)] [(.int po5)])) _
      have hp5 : own_pos mm nn sz (5 : Int32) po5 := P35
      refine ownStep (fun _ k => XS.istore X33.here hx rfl (hb hby at_304) rfl (l' := #[.val (.int pa), .val (.int pb), .val (.int pq), .val (.int nn), .val (.int sm), .val (.int pb), .val (.int cc), .val (.ref la), .val (.ref r_), .val (.int mm), .val (.int po5)]) rfl k) ?_
      refine ownStep (fun _ k => XS.aload X33.here hx rfl (hb hby at_306) rfl rfl k) ?_
      refine ownStep (fun _ k => XS.iconst X33.here hx rfl (hb hby at_308) k) ?_
      refine ownStep (fun _ k => XS.iload X33.here hx rfl (hb hby at_309) rfl  k) ?_
      show ownGo p.tables e below (T33.setTop (mkF m 311 #[.val (.int pa), .val (.int pb), .val (.int pq), .val (.int nn), .val (.int sm), .val (.int pb), .val (.int cc), .val (.ref la), .val (.ref r_), .val (.int mm), .val (.int po5)] [(.int mm), (.int (5 : Int32)), (.ref r_)])) _
      refine ownStep (fun _ k => XS.iload X33.here hx rfl (hb hby at_311) rfl  k) ?_
      refine ownStep (fun _ k => XS.iload X33.here hx rfl (hb hby at_313) rfl  k) ?_
      refine ownStep (fun _ k => XS.iload X33.here hx rfl (hb hby at_315) rfl  k) ?_
      show ownGo p.tables e below (T33.setTop (mkF m 317 #[.val (.int pa), .val (.int pb), .val (.int pq), .val (.int nn), .val (.int sm), .val (.int pb), .val (.int cc), .val (.ref la), .val (.ref r_), .val (.int mm), .val (.int po5)] [(.int cc), (.int pb), (.int po5), (.int mm), (.int (5 : Int32)), (.ref r_)])) _
      have Zs37 : n0 ≤ T3.heap.size := Nat.le_trans Z0 KP13.1
      obtain ⟨_, _, ⟨T36, L36, k36, n36⟩, -, X36, ⟨Lc36, hQ36, l36, y36, z36⟩, st36⟩ := Jvm.LawKit.callS X33 hx (y := (⟨"com/example/circuline/circuline/storage/InsertSplitPinLaw", "step", "(Ljava/util/List;IIIII)I"⟩ : MethodName)) hown (mvT hZ (hw _ (List.mem_of_getElem? (i := 127) rfl))) (mvT hZ (hw _ (List.mem_of_getElem? (i := 128) rfl))) (mvT hZ (hw _ (List.mem_of_getElem? (i := 129) rfl))) (mvT hZ (hw _ (List.mem_of_getElem? (i := 130) rfl))) (by decide) (backOf (W := 0) (own_step l Z a0 hw [] r_ dr clr mm la mc nn sz dd cl pb cc (5 : Int32) po5 T3.heap n0 Zs37 P5 P6 P7 P8 P9 P10 Q16 Q17 Q18 Q19 hsz Q20 P11 P12 hn1 hn7 hcc (by decide) (by decide) hp5) hZ (hw _ (List.mem_of_getElem? (i := 130) rfl)) (hw _ (List.mem_of_getElem? (i := 129) rfl)) (by decide) (by decide)) (g := (mkF m 317 #[.val (.int pa), .val (.int pb), .val (.int pq), .val (.int nn), .val (.int sm), .val (.int pb), .val (.int cc), .val (.ref la), .val (.ref r_), .val (.int mm), .val (.int po5)] [(.int cc), (.int pb), (.int po5), (.int mm), (.int (5 : Int32)), (.ref r_)])) rfl (by rw [hml]; rfl) (argsL := [(.ref r_), (.int (5 : Int32)), (.int mm), (.int po5), (.int pb), (.int cc)]) (rest := []) (lenOf own_law_pd2 rfl) rfl (by show 2 * 0 + _ ≤ _; exact Nat.le_of_eq rfl) (hb hby at_317) (fun _ _ => ⟨rfl, R33, (by decide : 31 + 0 ≤ _), (by decide : 198 + 0 ≤ _)⟩)
      dsimp only [Pt.U, Pt.locs, Pt.cells, Pt.slots] at X36 l36 y36 z36 st36 hQ36
      obtain rfl : k36 = 31 := y36
      obtain rfl : n36 = 198 := z36
      obtain ⟨po6, rfl, N36q, R36, P38⟩ := hQ36
      have N36 : Fr n0 L36 := l36 ▸ Fr.app N33 N36q
      refine ownStep (fun _ k => st36 _ k) ?_
      show ownGo p.tables e below (T36.setTop (mkF m 320 #[.val (.int pa), .val (.int pb), .val (.int pq), .val (.int nn), .val (.int sm), .val (.int pb), .val (.int cc), .val (.ref la), .val (.ref r_), .val (.int mm), .val (.int po5)] [(.int po6)])) _
      have hp6 : own_pos mm nn sz (6 : Int32) po6 := P38
      refine ownStep (fun _ k => XS.istore X36.here hx rfl (hb hby at_320) rfl (l' := #[.val (.int pa), .val (.int pb), .val (.int pq), .val (.int nn), .val (.int sm), .val (.int pb), .val (.int cc), .val (.ref la), .val (.ref r_), .val (.int mm), .val (.int po6)]) rfl k) ?_
      refine ownStep (fun _ k => XS.aload X36.here hx rfl (hb hby at_322) rfl rfl k) ?_
      refine ownStep (fun _ k => XS.bipush X36.here hx rfl (hb hby at_324) k) ?_
      refine ownStep (fun _ k => XS.iload X36.here hx rfl (hb hby at_326) rfl  k) ?_
      show ownGo p.tables e below (T36.setTop (mkF m 328 #[.val (.int pa), .val (.int pb), .val (.int pq), .val (.int nn), .val (.int sm), .val (.int pb), .val (.int cc), .val (.ref la), .val (.ref r_), .val (.int mm), .val (.int po6)] [(.int mm), (.int (6 : Int32)), (.ref r_)])) _
      refine ownStep (fun _ k => XS.iload X36.here hx rfl (hb hby at_328) rfl  k) ?_
      refine ownStep (fun _ k => XS.iload X36.here hx rfl (hb hby at_330) rfl  k) ?_
      refine ownStep (fun _ k => XS.iload X36.here hx rfl (hb hby at_332) rfl  k) ?_
      show ownGo p.tables e below (T36.setTop (mkF m 334 #[.val (.int pa), .val (.int pb), .val (.int pq), .val (.int nn), .val (.int sm), .val (.int pb), .val (.int cc), .val (.ref la), .val (.ref r_), .val (.int mm), .val (.int po6)] [(.int cc), (.int pb), (.int po6), (.int mm), (.int (6 : Int32)), (.ref r_)])) _
      have Zs40 : n0 ≤ T3.heap.size := Nat.le_trans Z0 KP13.1
      obtain ⟨_, _, ⟨T39, L39, k39, n39⟩, -, X39, ⟨Lc39, hQ39, l39, y39, z39⟩, st39⟩ := Jvm.LawKit.callS X36 hx (y := (⟨"com/example/circuline/circuline/storage/InsertSplitPinLaw", "step", "(Ljava/util/List;IIIII)I"⟩ : MethodName)) hown (mvT hZ (hw _ (List.mem_of_getElem? (i := 127) rfl))) (mvT hZ (hw _ (List.mem_of_getElem? (i := 128) rfl))) (mvT hZ (hw _ (List.mem_of_getElem? (i := 129) rfl))) (mvT hZ (hw _ (List.mem_of_getElem? (i := 130) rfl))) (by decide) (backOf (W := 0) (own_step l Z a0 hw [] r_ dr clr mm la mc nn sz dd cl pb cc (6 : Int32) po6 T3.heap n0 Zs40 P5 P6 P7 P8 P9 P10 Q16 Q17 Q18 Q19 hsz Q20 P11 P12 hn1 hn7 hcc (by decide) (by decide) hp6) hZ (hw _ (List.mem_of_getElem? (i := 130) rfl)) (hw _ (List.mem_of_getElem? (i := 129) rfl)) (by decide) (by decide)) (g := (mkF m 334 #[.val (.int pa), .val (.int pb), .val (.int pq), .val (.int nn), .val (.int sm), .val (.int pb), .val (.int cc), .val (.ref la), .val (.ref r_), .val (.int mm), .val (.int po6)] [(.int cc), (.int pb), (.int po6), (.int mm), (.int (6 : Int32)), (.ref r_)])) rfl (by rw [hml]; rfl) (argsL := [(.ref r_), (.int (6 : Int32)), (.int mm), (.int po6), (.int pb), (.int cc)]) (rest := []) (lenOf own_law_pd2 rfl) rfl (by show 2 * 0 + _ ≤ _; exact Nat.le_of_eq rfl) (hb hby at_334) (fun _ _ => ⟨rfl, R36, (by decide : 31 + 0 ≤ _), (by decide : 198 + 0 ≤ _)⟩)
      dsimp only [Pt.U, Pt.locs, Pt.cells, Pt.slots] at X39 l39 y39 z39 st39 hQ39
      obtain rfl : k39 = 31 := y39
      obtain rfl : n39 = 198 := z39
      obtain ⟨po7, rfl, N39q, R39, P41⟩ := hQ39
      have N39 : Fr n0 L39 := l39 ▸ Fr.app N36 N39q
      refine ownStep (fun _ k => st39 _ k) ?_
      show ownGo p.tables e below (T39.setTop (mkF m 337 #[.val (.int pa), .val (.int pb), .val (.int pq), .val (.int nn), .val (.int sm), .val (.int pb), .val (.int cc), .val (.ref la), .val (.ref r_), .val (.int mm), .val (.int po6)] [(.int po7)])) _
      have hp7 : own_pos mm nn sz (7 : Int32) po7 := P41
      refine ownStep (fun _ k => XS.istore X39.here hx rfl (hb hby at_337) rfl (l' := #[.val (.int pa), .val (.int pb), .val (.int pq), .val (.int nn), .val (.int sm), .val (.int pb), .val (.int cc), .val (.ref la), .val (.ref r_), .val (.int mm), .val (.int po7)]) rfl k) ?_
      refine ownStep (fun _ k => XS.aload X39.here hx rfl (hb hby at_339) rfl rfl k) ?_
      refine ownStep (fun _ k => XS.bipush X39.here hx rfl (hb hby at_341) k) ?_
      refine ownStep (fun _ k => XS.iload X39.here hx rfl (hb hby at_343) rfl  k) ?_
      show ownGo p.tables e below (T39.setTop (mkF m 345 #[.val (.int pa), .val (.int pb), .val (.int pq), .val (.int nn), .val (.int sm), .val (.int pb), .val (.int cc), .val (.ref la), .val (.ref r_), .val (.int mm), .val (.int po7)] [(.int mm), (.int (7 : Int32)), (.ref r_)])) _
      refine ownStep (fun _ k => XS.iload X39.here hx rfl (hb hby at_345) rfl  k) ?_
      refine ownStep (fun _ k => XS.iload X39.here hx rfl (hb hby at_347) rfl  k) ?_
      refine ownStep (fun _ k => XS.iload X39.here hx rfl (hb hby at_349) rfl  k) ?_
      show ownGo p.tables e below (T39.setTop (mkF m 351 #[.val (.int pa), .val (.int pb), .val (.int pq), .val (.int nn), .val (.int sm), .val (.int pb), .val (.int cc), .val (.ref la), .val (.ref r_), .val (.int mm), .val (.int po7)] [(.int cc), (.int pb), (.int po7), (.int mm), (.int (7 : Int32)), (.ref r_)])) _
      have Zs43 : n0 ≤ T3.heap.size := Nat.le_trans Z0 KP13.1
      obtain ⟨_, _, ⟨T42, L42, k42, n42⟩, -, X42, ⟨Lc42, hQ42, l42, y42, z42⟩, st42⟩ := Jvm.LawKit.callS X39 hx (y := (⟨"com/example/circuline/circuline/storage/InsertSplitPinLaw", "step", "(Ljava/util/List;IIIII)I"⟩ : MethodName)) hown (mvT hZ (hw _ (List.mem_of_getElem? (i := 127) rfl))) (mvT hZ (hw _ (List.mem_of_getElem? (i := 128) rfl))) (mvT hZ (hw _ (List.mem_of_getElem? (i := 129) rfl))) (mvT hZ (hw _ (List.mem_of_getElem? (i := 130) rfl))) (by decide) (backOf (W := 0) (own_step l Z a0 hw [] r_ dr clr mm la mc nn sz dd cl pb cc (7 : Int32) po7 T3.heap n0 Zs43 P5 P6 P7 P8 P9 P10 Q16 Q17 Q18 Q19 hsz Q20 P11 P12 hn1 hn7 hcc (by decide) (by decide) hp7) hZ (hw _ (List.mem_of_getElem? (i := 130) rfl)) (hw _ (List.mem_of_getElem? (i := 129) rfl)) (by decide) (by decide)) (g := (mkF m 351 #[.val (.int pa), .val (.int pb), .val (.int pq), .val (.int nn), .val (.int sm), .val (.int pb), .val (.int cc), .val (.ref la), .val (.ref r_), .val (.int mm), .val (.int po7)] [(.int cc), (.int pb), (.int po7), (.int mm), (.int (7 : Int32)), (.ref r_)])) rfl (by rw [hml]; rfl) (argsL := [(.ref r_), (.int (7 : Int32)), (.int mm), (.int po7), (.int pb), (.int cc)]) (rest := []) (lenOf own_law_pd2 rfl) rfl (by show 2 * 0 + _ ≤ _; exact Nat.le_of_eq rfl) (hb hby at_351) (fun _ _ => ⟨rfl, R39, (by decide : 31 + 0 ≤ _), (by decide : 198 + 0 ≤ _)⟩)
      dsimp only [Pt.U, Pt.locs, Pt.cells, Pt.slots] at X42 l42 y42 z42 st42 hQ42
      obtain rfl : k42 = 31 := y42
      obtain rfl : n42 = 198 := z42
      obtain ⟨po8, rfl, N42q, R42, P44⟩ := hQ42
      have N42 : Fr n0 L42 := l42 ▸ Fr.app N39 N42q
      refine ownStep (fun _ k => st42 _ k) ?_
      show ownGo p.tables e below (T42.setTop (mkF m 354 #[.val (.int pa), .val (.int pb), .val (.int pq), .val (.int nn), .val (.int sm), .val (.int pb), .val (.int cc), .val (.ref la), .val (.ref r_), .val (.int mm), .val (.int po7)] [(.int po8)])) _
      have hp8 : own_pos mm nn sz (8 : Int32) po8 := P44
      refine ownStep (fun _ k => XS.istore X42.here hx rfl (hb hby at_354) rfl (l' := #[.val (.int pa), .val (.int pb), .val (.int pq), .val (.int nn), .val (.int sm), .val (.int pb), .val (.int cc), .val (.ref la), .val (.ref r_), .val (.int mm), .val (.int po8)]) rfl k) ?_
      refine ownStep (fun _ k => XS.iload X42.here hx rfl (hb hby at_356) rfl  k) ?_
      refine ownStep (fun _ k => XS.iloadN X42.here hx rfl (hb hby at_358) rfl  k) ?_
      refine ownStep (fun _ k => XS.icmpNo X42.here hx rfl (hb hby at_359) rfl (teq ((own_pos8 P12 hp8) : po8 = nn)).2 k) ?_
      show ownGo p.tables e below (T42.setTop (mkF m 362 #[.val (.int pa), .val (.int pb), .val (.int pq), .val (.int nn), .val (.int sm), .val (.int pb), .val (.int cc), .val (.ref la), .val (.ref r_), .val (.int mm), .val (.int po8)] [])) _
      refine ownStep (fun _ k => XS.iconst X42.here hx rfl (hb hby at_362) k) ?_
      refine ownStep (fun _ k => XS.goto X42.here hx rfl (pc0 := 363) (pc' := 367) rfl (hb hby at_363) (by decide) (by decide) k) ?_
      show ownGo p.tables e below (T42.setTop (mkF m 367 #[.val (.int pa), .val (.int pb), .val (.int pq), .val (.int nn), .val (.int sm), .val (.int pb), .val (.int cc), .val (.ref la), .val (.ref r_), .val (.int mm), .val (.int po8)] [(.int (1 : Int32))])) _
      exact ownRet X42 (v := some (.int (1 : Int32))) Bd.notSynchronized (fun h => by rw [Bd.returns] at h; cases h) (fun _ hr => retN X42 hx (t := .boolean) Bd.returns (by simp) (hb hby at_367) hr) (by rw [R42]; exact ⟨rfl, N42, (own_extOf KP13)⟩) (by decide) (by decide)
    show ownGo p.tables e below (Tj.setTop (mkF m 47 #[.val (.int pa), .val (.int pb), .val (.int pq), .val (.int nn), .val (.int sm), .val (.int pb), .val (.int cc), .unset, .unset, .unset, .unset] [])) _
    obtain ⟨T45, h45, X45, e45, E45, A45, D45, U45, st45⟩ := newO Xj hx hZ hown (hw _ (List.mem_of_getElem? (i := 5) rfl)) (hw _ (List.mem_of_getElem? (i := 6) rfl)) (hw _ (List.mem_of_getElem? (i := 7) rfl)) ej (g := (mkF m 47 #[.val (.int pa), .val (.int pb), .val (.int pq), .val (.int nn), .val (.int sm), .val (.int pb), .val (.int cc), .unset, .unset, .unset, .unset] [])) rfl (hb hby at_47) (by decide) (by decide)
    obtain ⟨b45, g45⟩ : ∃ z, z = h0.size := ⟨_, rfl⟩
    rw [← g45] at A45 D45 U45 st45
    have gh_b45 : h0.size ≤ b45 := Nat.le_trans KP0.1 (Nat.le_of_eq g45.symm)
    have gn_b45 : n0 ≤ b45 := Nat.le_trans Z0 gh_b45
    have KP46 : Keep h0 h45 [] := KP0.ext E45
    have F47 : Fld Z h45 b45 "java/util/AbstractList" "modCount" "I" (.int (0 : Int32)) := D45 (Or.inl (hw _ (List.mem_of_getElem? (i := 27) rfl))) (ty := .int) (by decide)
    have F48 : Fld Z h45 b45 "java/util/ArrayList" "elementData" "[Ljava/lang/Object;" .null := D45 (Or.inl (hw _ (List.mem_of_getElem? (i := 30) rfl))) (ty := (.array (.object "java/lang/Object"))) (by decide)
    have F49 : Fld Z h45 b45 "java/util/ArrayList" "size" "I" (.int (0 : Int32)) := D45 (Or.inl (hw _ (List.mem_of_getElem? (i := 48) rfl))) (ty := .int) (by decide)
    refine ownStep st45 ?_
    refine ownStep (fun _ k => XS.dup X45.here hx rfl (hb hby at_50) rfl rfl k) ?_
    show ownGo p.tables e below (T45.setTop (mkF m 51 #[.val (.int pa), .val (.int pb), .val (.int pq), .val (.int nn), .val (.int sm), .val (.int pb), .val (.int cc), .unset, .unset, .unset, .unset] [(.ref b45), (.ref b45)])) _
    have Q50 : Old Z n0 h45 := (hOld.ext E45)
    have Zs52 : n0 ≤ h45.size := Nat.le_trans Z0 KP46.1
    obtain ⟨_, _, ⟨T51, L51, k51, n51⟩, -, X51, ⟨Lc51, hQ51, l51, y51, z51⟩, st51⟩ := X45.specialBack hx (y := (⟨"java/util/ArrayList", "<init>", "()V"⟩ : MethodName)) rfl hown (mvT hZ (hw _ (List.mem_of_getElem? (i := 8) rfl))) (mvT hZ (hw _ (List.mem_of_getElem? (i := 9) rfl))) (mvT hZ (hw _ (List.mem_of_getElem? (i := 10) rfl))) (by decide) (backOf (W := 1) (own_al_init l Z a0 hw [] b45 ed h45 n0 Zs52 Q50 S A45 F48 F49 F47 gn_b45) hZ (hw _ (List.mem_of_getElem? (i := 10) rfl)) (hw _ (List.mem_of_getElem? (i := 7) rfl)) (by decide) (by decide)) (g := (mkF m 51 #[.val (.int pa), .val (.int pb), .val (.int pq), .val (.int nn), .val (.int sm), .val (.int pb), .val (.int cc), .unset, .unset, .unset, .unset] [(.ref b45), (.ref b45)])) rfl (by rw [hml]; rfl) (Steps.refl _) (a := b45) (argsL := []) (rest := [(.ref b45)]) (lenOf own_law_pd3 rfl) rfl (by show 2 * 0 + _ ≤ _; exact Nat.le_of_eq rfl) (hb hby at_51) (fun _ _ => ⟨rfl, e45, (by decide : 1 + 0 ≤ _), (by decide : 3 + 0 ≤ _)⟩)
    dsimp only [Pt.U, Pt.locs, Pt.cells, Pt.slots] at X51 l51 y51 z51 st51 hQ51
    obtain rfl : k51 = 1 := y51
    obtain rfl : n51 = 3 := z51
    obtain ⟨rfl, N51q, R51, P53, P54, P55⟩ := hQ51
    have N51 : Fr n0 L51 := l51 ▸ Fr.app Nj N51q
    refine ownStep (fun _ k => st51.trans k) ?_
    have KP56 : Keep h0 T51.heap [] := KP46.trans R51 (allS (Or.inr gh_b45) all0)
    refine ownStep (fun _ k => XS.astore X51.here hx rfl (hb hby at_54) rfl rfl (l' := #[.val (.int pa), .val (.int pb), .val (.int pq), .val (.int nn), .val (.int sm), .val (.int pb), .val (.int cc), .val (.ref b45), .unset, .unset, .unset]) rfl k) ?_
    refine ownStep (fun _ k => XS.iloadN X51.here hx rfl (hb hby at_56) rfl  k) ?_
    show ownGo p.tables e below (T51.setTop (mkF m 57 #[.val (.int pa), .val (.int pb), .val (.int pq), .val (.int nn), .val (.int sm), .val (.int pb), .val (.int cc), .val (.ref b45), .unset, .unset, .unset] [(.int nn)])) _
    by_cases hq0 : (0 : Int32) < nn
    · skip
      refine ownStep (fun _ k => XS.ifNo X51.here hx rfl (hb hby at_57) rfl ((if0 _ _).trans (tlt (hq0 : (0 : Int32) < nn)).2.2.2) k) ?_
      refine ownStep (fun _ k => XS.aload X51.here hx rfl (hb hby at_60) rfl rfl k) ?_
      refine ownStep (fun _ k => XS.iload X51.here hx rfl (hb hby at_62) rfl  k) ?_
      show ownGo p.tables e below (T51.setTop (mkF m 64 #[.val (.int pa), .val (.int pb), .val (.int pq), .val (.int nn), .val (.int sm), .val (.int pb), .val (.int cc), .val (.ref b45), .unset, .unset, .unset] [(.int pb), (.ref b45)])) _
      have Q57 : Exa Z T51.heap b45 "java/util/ArrayList" := (A45.keep R51)
      have Q58 : Old Z n0 T51.heap := (Q50.keep R51 (allS gn_b45 all0))
      have Zs60 : n0 ≤ T51.heap.size := Nat.le_trans Z0 KP56.1
      obtain ⟨_, _, ⟨T59, L59, k59, n59⟩, -, X59, ⟨Lc59, hQ59, l59, y59, z59⟩, st59⟩ := Jvm.LawKit.callS X51 hx (y := (⟨"java/lang/Integer", "valueOf", "(I)Ljava/lang/Integer;"⟩ : MethodName)) hown (mvT hZ (hw _ (List.mem_of_getElem? (i := 50) rfl))) (mvT hZ (hw _ (List.mem_of_getElem? (i := 51) rfl))) (mvT hZ (hw _ (List.mem_of_getElem? (i := 52) rfl))) (mvT hZ (hw _ (List.mem_of_getElem? (i := 53) rfl))) (by decide) (backOf (W := 1) (own_val l Z a0 hw [] ed kd ca clc pb T51.heap n0 Zs60 Q58 S V Sh Sc BX) hZ (hw _ (List.mem_of_getElem? (i := 53) rfl)) (hw _ (List.mem_of_getElem? (i := 52) rfl)) (by decide) (by decide)) (g := (mkF m 64 #[.val (.int pa), .val (.int pb), .val (.int pq), .val (.int nn), .val (.int sm), .val (.int pb), .val (.int cc), .val (.ref b45), .unset, .unset, .unset] [(.int pb), (.ref b45)])) rfl (by rw [hml]; rfl) (argsL := [(.int pb)]) (rest := [(.ref b45)]) (lenOf own_law_pd4 rfl) rfl (by show 2 * 0 + _ ≤ _; exact Nat.le_of_eq rfl) (hb hby at_64) (fun _ _ => ⟨rfl, rfl, (by decide : 1 + 1 ≤ _), (by decide : 3 + 1 ≤ _)⟩)
      dsimp only [Pt.U, Pt.locs, Pt.cells, Pt.slots] at X59 l59 y59 z59 st59 hQ59
      obtain rfl : k59 = 2 := y59
      obtain rfl : n59 = 4 := z59
      obtain ⟨rb0, rfl, N59q, R59, P61, P62, P63⟩ := hQ59
      have N59 : Fr n0 L59 := l59 ▸ Fr.app N51 N59q
      refine ownStep (fun _ k => st59 _ k) ?_
      have KP64 : Keep h0 T59.heap [] := KP56.ext R59
      show ownGo p.tables e below (T59.setTop (mkF m 67 #[.val (.int pa), .val (.int pb), .val (.int pq), .val (.int nn), .val (.int sm), .val (.int pb), .val (.int cc), .val (.ref b45), .unset, .unset, .unset] [(.ref rb0), (.ref b45)])) _
      have nl0 : rb0 ≠ b45 := own_neq P63 gn_b45 Q57.lt
      show ownGo p.tables e below (T59.setTop (mkF m 67 #[.val (.int pa), .val (.int pb), .val (.int pq), .val (.int nn), .val (.int sm), .val (.int pb), .val (.int cc), .val (.ref b45), .unset, .unset, .unset] [(.ref rb0), (.ref b45)])) _
      have Q65 : Old Z n0 T59.heap := (Q58.ext R59)
      have Q66 : Exa Z T59.heap b45 "java/util/ArrayList" := (Q57.ext R59)
      have Q67 : Fld Z T59.heap b45 "java/util/ArrayList" "elementData" "[Ljava/lang/Object;" (.ref ed) := (P53.ext R59)
      have Q68 : Fld Z T59.heap b45 "java/util/ArrayList" "size" "I" (.int (0 : Int32)) := (P54.ext R59)
      have Q69 : Fld Z T59.heap b45 "java/util/AbstractList" "modCount" "I" (.int (0 : Int32)) := (P55.ext R59)
      have Zs71 : n0 ≤ T59.heap.size := Nat.le_trans Z0 KP64.1
      obtain ⟨cq70, kq70, q70a, q70b, q70c⟩ := isOf hZ rfl Q66
      obtain ⟨_, _, ⟨T70, L70, k70, n70⟩, -, X70, ⟨Lc70, hQ70, l70, y70, z70⟩, st70⟩ := X59.virtualBack hx (y := (⟨"java/util/ArrayList", "add", "(Ljava/lang/Object;)Z"⟩ : MethodName)) (z := (⟨"java/util/ArrayList", "add", "(Ljava/lang/Object;)Z"⟩ : MethodName)) hown (mvT hZ (hw _ (List.mem_of_getElem? (i := 57) rfl))) (mvT hZ (hw _ (List.mem_of_getElem? (i := 58) rfl))) (notFace_of_selects (args := #[]) (mvT hZ (hw _ (List.mem_of_getElem? (i := 60) rfl)))) (mvT hZ (hw _ (List.mem_of_getElem? (i := 60) rfl))) (mvT hZ (hw _ (List.mem_of_getElem? (i := 59) rfl))) (by decide) (backOf (W := 0) (own_al_add_0 l Z a0 hw [] b45 ed kd (0 : Int32) rb0 T59.heap n0 Zs71 Q65 S V Q66 Q67 Q68 Q69 gn_b45 (Ins.of_exa P61 (hw _ (List.mem_of_getElem? (i := 82) rfl)))) hZ (hw _ (List.mem_of_getElem? (i := 61) rfl)) (hw _ (List.mem_of_getElem? (i := 7) rfl)) (by decide) (by decide)) q70a q70c (g := (mkF m 67 #[.val (.int pa), .val (.int pb), .val (.int pq), .val (.int nn), .val (.int sm), .val (.int pb), .val (.int cc), .val (.ref b45), .unset, .unset, .unset] [(.ref rb0), (.ref b45)])) rfl (by rw [hml]; rfl) (Steps.refl _) (argsL := [(.ref rb0)]) (rest := []) (lenOf own_law_pd5 rfl) rfl (by show 2 * 0 + _ ≤ _; exact Nat.le_of_eq rfl) (hb hby at_67) (fun _ _ => ⟨rfl, rfl, (by decide : 2 + 1 ≤ _), (by decide : 4 + 10 ≤ _)⟩)
      dsimp only [Pt.U, Pt.locs, Pt.cells, Pt.slots] at X70 l70 y70 z70 st70 hQ70
      obtain rfl : k70 = 3 := y70
      obtain rfl : n70 = 14 := z70
      obtain ⟨dd_70, kk_70, rfl, N70q, R70, P72, P73, P74, P75, P76, P77⟩ := hQ70
      have N70 : Fr n0 L70 := l70 ▸ Fr.app N59 N70q
      have gh_dd_70 : h0.size ≤ dd_70 := Nat.le_trans KP64.1 P77
      have gn_dd_70 : n0 ≤ dd_70 := Nat.le_trans Z0 gh_dd_70
      refine ownStep (fun _ k => st70.trans k) ?_
      have KP78 : Keep h0 T70.heap [] := KP64.trans R70 (allS (Or.inr gh_b45) all0)
      refine ownStep (fun _ k => XS.pop X70.here hx rfl (hb hby at_70) rfl rfl k) ?_
      refine ownStep (fun _ k => XS.iloadN X70.here hx rfl (hb hby at_71) rfl  k) ?_
      refine ownStep (fun _ k => XS.iconst X70.here hx rfl (hb hby at_72) k) ?_
      show ownGo p.tables e below (T70.setTop (mkF m 73 #[.val (.int pa), .val (.int pb), .val (.int pq), .val (.int nn), .val (.int sm), .val (.int pb), .val (.int cc), .val (.ref b45), .unset, .unset, .unset] [(.int (1 : Int32)), (.int nn)])) _
      by_cases hq1 : (1 : Int32) < nn
      · skip
        refine ownStep (fun _ k => XS.icmpNo X70.here hx rfl (hb hby at_73) rfl (tlt (hq1 : (1 : Int32) < nn)).2.2.2 k) ?_
        refine ownStep (fun _ k => XS.aload X70.here hx rfl (hb hby at_76) rfl rfl k) ?_
        refine ownStep (fun _ k => XS.iload X70.here hx rfl (hb hby at_78) rfl  k) ?_
        refine ownStep (fun _ k => XS.iconst X70.here hx rfl (hb hby at_80) k) ?_
        refine ownStep (fun _ k => XS.iadd X70.here hx rfl (hb hby at_81) rfl k) ?_
        show ownGo p.tables e below (T70.setTop (mkF m 82 #[.val (.int pa), .val (.int pb), .val (.int pq), .val (.int nn), .val (.int sm), .val (.int pb), .val (.int cc), .val (.ref b45), .unset, .unset, .unset] [(.int (pb + (1 : Int32))), (.ref b45)])) _
        have Q79 : Exa Z T70.heap b45 "java/util/ArrayList" := (Q66.keep R70)
        have Q80 : Old Z n0 T70.heap := (Q65.keep R70 (allS gn_b45 all0))
        have Zs82 : n0 ≤ T70.heap.size := Nat.le_trans Z0 KP78.1
        obtain ⟨_, _, ⟨T81, L81, k81, n81⟩, -, X81, ⟨Lc81, hQ81, l81, y81, z81⟩, st81⟩ := Jvm.LawKit.callS X70 hx (y := (⟨"java/lang/Integer", "valueOf", "(I)Ljava/lang/Integer;"⟩ : MethodName)) hown (mvT hZ (hw _ (List.mem_of_getElem? (i := 50) rfl))) (mvT hZ (hw _ (List.mem_of_getElem? (i := 51) rfl))) (mvT hZ (hw _ (List.mem_of_getElem? (i := 52) rfl))) (mvT hZ (hw _ (List.mem_of_getElem? (i := 53) rfl))) (by decide) (backOf (W := 1) (own_val l Z a0 hw [] ed kd ca clc (pb + (1 : Int32)) T70.heap n0 Zs82 Q80 S V Sh Sc BX) hZ (hw _ (List.mem_of_getElem? (i := 53) rfl)) (hw _ (List.mem_of_getElem? (i := 52) rfl)) (by decide) (by decide)) (g := (mkF m 82 #[.val (.int pa), .val (.int pb), .val (.int pq), .val (.int nn), .val (.int sm), .val (.int pb), .val (.int cc), .val (.ref b45), .unset, .unset, .unset] [(.int (pb + (1 : Int32))), (.ref b45)])) rfl (by rw [hml]; rfl) (argsL := [(.int (pb + (1 : Int32)))]) (rest := [(.ref b45)]) (lenOf own_law_pd4 rfl) rfl (by show 2 * 0 + _ ≤ _; exact Nat.le_of_eq rfl) (hb hby at_82) (fun _ _ => ⟨rfl, rfl, (by decide : 3 + 1 ≤ _), (by decide : 14 + 1 ≤ _)⟩)
        dsimp only [Pt.U, Pt.locs, Pt.cells, Pt.slots] at X81 l81 y81 z81 st81 hQ81
        obtain rfl : k81 = 4 := y81
        obtain rfl : n81 = 15 := z81
        obtain ⟨rb1, rfl, N81q, R81, P83, P84, P85⟩ := hQ81
        have N81 : Fr n0 L81 := l81 ▸ Fr.app N70 N81q
        refine ownStep (fun _ k => st81 _ k) ?_
        have KP86 : Keep h0 T81.heap [] := KP78.ext R81
        show ownGo p.tables e below (T81.setTop (mkF m 85 #[.val (.int pa), .val (.int pb), .val (.int pq), .val (.int nn), .val (.int sm), .val (.int pb), .val (.int cc), .val (.ref b45), .unset, .unset, .unset] [(.ref rb1), (.ref b45)])) _
        have nl1 : rb1 ≠ b45 := own_neq P85 gn_b45 Q79.lt
        have nd1 : rb1 ≠ dd_70 := own_neq P85 gn_dd_70 P75.lt
        show ownGo p.tables e below (T81.setTop (mkF m 85 #[.val (.int pa), .val (.int pb), .val (.int pq), .val (.int nn), .val (.int sm), .val (.int pb), .val (.int cc), .val (.ref b45), .unset, .unset, .unset] [(.ref rb1), (.ref b45)])) _
        have ne87 : b45 ≠ dd_70 := Nat.ne_of_lt (Nat.lt_of_lt_of_le (Nat.lt_of_lt_of_le Q66.lt (Nat.le_refl _)) P77)
        have Q88 : Exa Z T81.heap b45 "java/util/ArrayList" := (Q79.ext R81)
        have Q89 : Fld Z T81.heap b45 "java/util/ArrayList" "elementData" "[Ljava/lang/Object;" (.ref dd_70) := (P72.ext R81)
        have Q90 : Fld Z T81.heap b45 "java/util/ArrayList" "size" "I" (.int (1 : Int32)) := (P73.ext R81)
        have Q91 : Fld Z T81.heap b45 "java/util/AbstractList" "modCount" "I" (.int ((0 : Int32) + (1 : Int32))) := (P74.ext R81)
        have Q92 : Arv Z T81.heap dd_70 kk_70 (.object "java/lang/Object") (10 : Int32) [(.ref rb0), .null, .null, .null, .null, .null, .null, .null, .null, .null] .null := (P75.ext R81)
        have Zs94 : n0 ≤ T81.heap.size := Nat.le_trans Z0 KP86.1
        obtain ⟨cq93, kq93, q93a, q93b, q93c⟩ := isOf hZ rfl Q88
        obtain ⟨_, _, ⟨T93, L93, k93, n93⟩, -, X93, ⟨Lc93, hQ93, l93, y93, z93⟩, st93⟩ := X81.virtualBack hx (y := (⟨"java/util/ArrayList", "add", "(Ljava/lang/Object;)Z"⟩ : MethodName)) (z := (⟨"java/util/ArrayList", "add", "(Ljava/lang/Object;)Z"⟩ : MethodName)) hown (mvT hZ (hw _ (List.mem_of_getElem? (i := 57) rfl))) (mvT hZ (hw _ (List.mem_of_getElem? (i := 58) rfl))) (notFace_of_selects (args := #[]) (mvT hZ (hw _ (List.mem_of_getElem? (i := 60) rfl)))) (mvT hZ (hw _ (List.mem_of_getElem? (i := 60) rfl))) (mvT hZ (hw _ (List.mem_of_getElem? (i := 59) rfl))) (by decide) (backOf (W := 0) (own_al_add_1 l Z a0 hw [] b45 dd_70 kk_70 ((0 : Int32) + (1 : Int32)) (.ref rb0) rb1 T81.heap n0 Zs94 Q88 Q89 Q90 Q91 Q92 P76 gn_b45 gn_dd_70 ne87 (Ins.of_exa P83 (hw _ (List.mem_of_getElem? (i := 82) rfl)))) hZ (hw _ (List.mem_of_getElem? (i := 61) rfl)) (hw _ (List.mem_of_getElem? (i := 7) rfl)) (by decide) (by decide)) q93a q93c (g := (mkF m 85 #[.val (.int pa), .val (.int pb), .val (.int pq), .val (.int nn), .val (.int sm), .val (.int pb), .val (.int cc), .val (.ref b45), .unset, .unset, .unset] [(.ref rb1), (.ref b45)])) rfl (by rw [hml]; rfl) (Steps.refl _) (argsL := [(.ref rb1)]) (rest := []) (lenOf own_law_pd5 rfl) rfl (by show 2 * 0 + _ ≤ _; exact Nat.le_of_eq rfl) (hb hby at_85) (fun _ _ => ⟨rfl, rfl, (by decide : 4 + 1 ≤ _), (by decide : 15 + 10 ≤ _)⟩)
        dsimp only [Pt.U, Pt.locs, Pt.cells, Pt.slots] at X93 l93 y93 z93 st93 hQ93
        obtain rfl : k93 = 5 := y93
        obtain rfl : n93 = 25 := z93
        obtain ⟨rfl, N93q, R93, P95, P96, P97, P98⟩ := hQ93
        have N93 : Fr n0 L93 := l93 ▸ Fr.app N81 N93q
        refine ownStep (fun _ k => st93.trans k) ?_
        have KP99 : Keep h0 T93.heap [] := KP86.trans R93 (allS (Or.inr gh_b45) (allS (Or.inr gh_dd_70) all0))
        refine ownStep (fun _ k => XS.pop X93.here hx rfl (hb hby at_88) rfl rfl k) ?_
        refine ownStep (fun _ k => XS.iloadN X93.here hx rfl (hb hby at_89) rfl  k) ?_
        refine ownStep (fun _ k => XS.iconst X93.here hx rfl (hb hby at_90) k) ?_
        show ownGo p.tables e below (T93.setTop (mkF m 91 #[.val (.int pa), .val (.int pb), .val (.int pq), .val (.int nn), .val (.int sm), .val (.int pb), .val (.int cc), .val (.ref b45), .unset, .unset, .unset] [(.int (2 : Int32)), (.int nn)])) _
        by_cases hq2 : (2 : Int32) < nn
        · skip
          refine ownStep (fun _ k => XS.icmpNo X93.here hx rfl (hb hby at_91) rfl (tlt (hq2 : (2 : Int32) < nn)).2.2.2 k) ?_
          refine ownStep (fun _ k => XS.aload X93.here hx rfl (hb hby at_94) rfl rfl k) ?_
          refine ownStep (fun _ k => XS.iload X93.here hx rfl (hb hby at_96) rfl  k) ?_
          refine ownStep (fun _ k => XS.iconst X93.here hx rfl (hb hby at_98) k) ?_
          refine ownStep (fun _ k => XS.iadd X93.here hx rfl (hb hby at_99) rfl k) ?_
          show ownGo p.tables e below (T93.setTop (mkF m 100 #[.val (.int pa), .val (.int pb), .val (.int pq), .val (.int nn), .val (.int sm), .val (.int pb), .val (.int cc), .val (.ref b45), .unset, .unset, .unset] [(.int (pb + (2 : Int32))), (.ref b45)])) _
          have Q100 : Exa Z T93.heap b45 "java/util/ArrayList" := (Q88.keep R93)
          have Q101 : Old Z n0 T93.heap := ((Q80.ext R81).keep R93 (allS gn_b45 (allS gn_dd_70 all0)))
          have Zs103 : n0 ≤ T93.heap.size := Nat.le_trans Z0 KP99.1
          obtain ⟨_, _, ⟨T102, L102, k102, n102⟩, -, X102, ⟨Lc102, hQ102, l102, y102, z102⟩, st102⟩ := Jvm.LawKit.callS X93 hx (y := (⟨"java/lang/Integer", "valueOf", "(I)Ljava/lang/Integer;"⟩ : MethodName)) hown (mvT hZ (hw _ (List.mem_of_getElem? (i := 50) rfl))) (mvT hZ (hw _ (List.mem_of_getElem? (i := 51) rfl))) (mvT hZ (hw _ (List.mem_of_getElem? (i := 52) rfl))) (mvT hZ (hw _ (List.mem_of_getElem? (i := 53) rfl))) (by decide) (backOf (W := 1) (own_val l Z a0 hw [] ed kd ca clc (pb + (2 : Int32)) T93.heap n0 Zs103 Q101 S V Sh Sc BX) hZ (hw _ (List.mem_of_getElem? (i := 53) rfl)) (hw _ (List.mem_of_getElem? (i := 52) rfl)) (by decide) (by decide)) (g := (mkF m 100 #[.val (.int pa), .val (.int pb), .val (.int pq), .val (.int nn), .val (.int sm), .val (.int pb), .val (.int cc), .val (.ref b45), .unset, .unset, .unset] [(.int (pb + (2 : Int32))), (.ref b45)])) rfl (by rw [hml]; rfl) (argsL := [(.int (pb + (2 : Int32)))]) (rest := [(.ref b45)]) (lenOf own_law_pd4 rfl) rfl (by show 2 * 0 + _ ≤ _; exact Nat.le_of_eq rfl) (hb hby at_100) (fun _ _ => ⟨rfl, rfl, (by decide : 5 + 1 ≤ _), (by decide : 25 + 1 ≤ _)⟩)
          dsimp only [Pt.U, Pt.locs, Pt.cells, Pt.slots] at X102 l102 y102 z102 st102 hQ102
          obtain rfl : k102 = 6 := y102
          obtain rfl : n102 = 26 := z102
          obtain ⟨rb2, rfl, N102q, R102, P104, P105, P106⟩ := hQ102
          have N102 : Fr n0 L102 := l102 ▸ Fr.app N93 N102q
          refine ownStep (fun _ k => st102 _ k) ?_
          have KP107 : Keep h0 T102.heap [] := KP99.ext R102
          show ownGo p.tables e below (T102.setTop (mkF m 103 #[.val (.int pa), .val (.int pb), .val (.int pq), .val (.int nn), .val (.int sm), .val (.int pb), .val (.int cc), .val (.ref b45), .unset, .unset, .unset] [(.ref rb2), (.ref b45)])) _
          have nl2 : rb2 ≠ b45 := own_neq P106 gn_b45 Q100.lt
          have nd2 : rb2 ≠ dd_70 := own_neq P106 gn_dd_70 P98.lt
          show ownGo p.tables e below (T102.setTop (mkF m 103 #[.val (.int pa), .val (.int pb), .val (.int pq), .val (.int nn), .val (.int sm), .val (.int pb), .val (.int cc), .val (.ref b45), .unset, .unset, .unset] [(.ref rb2), (.ref b45)])) _
          have Q108 : Exa Z T102.heap b45 "java/util/ArrayList" := (Q100.ext R102)
          have Q109 : Fld Z T102.heap b45 "java/util/ArrayList" "elementData" "[Ljava/lang/Object;" (.ref dd_70) := (P95.ext R102)
          have Q110 : Fld Z T102.heap b45 "java/util/ArrayList" "size" "I" (.int (2 : Int32)) := (P96.ext R102)
          have Q111 : Fld Z T102.heap b45 "java/util/AbstractList" "modCount" "I" (.int (((0 : Int32) + (1 : Int32)) + (1 : Int32))) := (P97.ext R102)
          have Q112 : Arv Z T102.heap dd_70 kk_70 (.object "java/lang/Object") (10 : Int32) [(.ref rb0), (.ref rb1), .null, .null, .null, .null, .null, .null, .null, .null] .null := (P98.ext R102)
          have Zs114 : n0 ≤ T102.heap.size := Nat.le_trans Z0 KP107.1
          obtain ⟨cq113, kq113, q113a, q113b, q113c⟩ := isOf hZ rfl Q108
          obtain ⟨_, _, ⟨T113, L113, k113, n113⟩, -, X113, ⟨Lc113, hQ113, l113, y113, z113⟩, st113⟩ := X102.virtualBack hx (y := (⟨"java/util/ArrayList", "add", "(Ljava/lang/Object;)Z"⟩ : MethodName)) (z := (⟨"java/util/ArrayList", "add", "(Ljava/lang/Object;)Z"⟩ : MethodName)) hown (mvT hZ (hw _ (List.mem_of_getElem? (i := 57) rfl))) (mvT hZ (hw _ (List.mem_of_getElem? (i := 58) rfl))) (notFace_of_selects (args := #[]) (mvT hZ (hw _ (List.mem_of_getElem? (i := 60) rfl)))) (mvT hZ (hw _ (List.mem_of_getElem? (i := 60) rfl))) (mvT hZ (hw _ (List.mem_of_getElem? (i := 59) rfl))) (by decide) (backOf (W := 0) (own_al_add_2 l Z a0 hw [] b45 dd_70 kk_70 (((0 : Int32) + (1 : Int32)) + (1 : Int32)) (.ref rb0) (.ref rb1) rb2 T102.heap n0 Zs114 Q108 Q109 Q110 Q111 Q112 P76 gn_b45 gn_dd_70 ne87 (Ins.of_exa P104 (hw _ (List.mem_of_getElem? (i := 82) rfl)))) hZ (hw _ (List.mem_of_getElem? (i := 61) rfl)) (hw _ (List.mem_of_getElem? (i := 7) rfl)) (by decide) (by decide)) q113a q113c (g := (mkF m 103 #[.val (.int pa), .val (.int pb), .val (.int pq), .val (.int nn), .val (.int sm), .val (.int pb), .val (.int cc), .val (.ref b45), .unset, .unset, .unset] [(.ref rb2), (.ref b45)])) rfl (by rw [hml]; rfl) (Steps.refl _) (argsL := [(.ref rb2)]) (rest := []) (lenOf own_law_pd5 rfl) rfl (by show 2 * 0 + _ ≤ _; exact Nat.le_of_eq rfl) (hb hby at_103) (fun _ _ => ⟨rfl, rfl, (by decide : 6 + 1 ≤ _), (by decide : 26 + 10 ≤ _)⟩)
          dsimp only [Pt.U, Pt.locs, Pt.cells, Pt.slots] at X113 l113 y113 z113 st113 hQ113
          obtain rfl : k113 = 7 := y113
          obtain rfl : n113 = 36 := z113
          obtain ⟨rfl, N113q, R113, P115, P116, P117, P118⟩ := hQ113
          have N113 : Fr n0 L113 := l113 ▸ Fr.app N102 N113q
          refine ownStep (fun _ k => st113.trans k) ?_
          have KP119 : Keep h0 T113.heap [] := KP107.trans R113 (allS (Or.inr gh_b45) (allS (Or.inr gh_dd_70) all0))
          refine ownStep (fun _ k => XS.pop X113.here hx rfl (hb hby at_106) rfl rfl k) ?_
          refine ownStep (fun _ k => XS.iloadN X113.here hx rfl (hb hby at_107) rfl  k) ?_
          refine ownStep (fun _ k => XS.iconst X113.here hx rfl (hb hby at_108) k) ?_
          show ownGo p.tables e below (T113.setTop (mkF m 109 #[.val (.int pa), .val (.int pb), .val (.int pq), .val (.int nn), .val (.int sm), .val (.int pb), .val (.int cc), .val (.ref b45), .unset, .unset, .unset] [(.int (3 : Int32)), (.int nn)])) _
          by_cases hq3 : (3 : Int32) < nn
          · skip
            refine ownStep (fun _ k => XS.icmpNo X113.here hx rfl (hb hby at_109) rfl (tlt (hq3 : (3 : Int32) < nn)).2.2.2 k) ?_
            refine ownStep (fun _ k => XS.aload X113.here hx rfl (hb hby at_112) rfl rfl k) ?_
            refine ownStep (fun _ k => XS.iload X113.here hx rfl (hb hby at_114) rfl  k) ?_
            refine ownStep (fun _ k => XS.iconst X113.here hx rfl (hb hby at_116) k) ?_
            refine ownStep (fun _ k => XS.iadd X113.here hx rfl (hb hby at_117) rfl k) ?_
            show ownGo p.tables e below (T113.setTop (mkF m 118 #[.val (.int pa), .val (.int pb), .val (.int pq), .val (.int nn), .val (.int sm), .val (.int pb), .val (.int cc), .val (.ref b45), .unset, .unset, .unset] [(.int (pb + (3 : Int32))), (.ref b45)])) _
            have Q120 : Exa Z T113.heap b45 "java/util/ArrayList" := (Q108.keep R113)
            have Q121 : Old Z n0 T113.heap := ((Q101.ext R102).keep R113 (allS gn_b45 (allS gn_dd_70 all0)))
            have Zs123 : n0 ≤ T113.heap.size := Nat.le_trans Z0 KP119.1
            obtain ⟨_, _, ⟨T122, L122, k122, n122⟩, -, X122, ⟨Lc122, hQ122, l122, y122, z122⟩, st122⟩ := Jvm.LawKit.callS X113 hx (y := (⟨"java/lang/Integer", "valueOf", "(I)Ljava/lang/Integer;"⟩ : MethodName)) hown (mvT hZ (hw _ (List.mem_of_getElem? (i := 50) rfl))) (mvT hZ (hw _ (List.mem_of_getElem? (i := 51) rfl))) (mvT hZ (hw _ (List.mem_of_getElem? (i := 52) rfl))) (mvT hZ (hw _ (List.mem_of_getElem? (i := 53) rfl))) (by decide) (backOf (W := 1) (own_val l Z a0 hw [] ed kd ca clc (pb + (3 : Int32)) T113.heap n0 Zs123 Q121 S V Sh Sc BX) hZ (hw _ (List.mem_of_getElem? (i := 53) rfl)) (hw _ (List.mem_of_getElem? (i := 52) rfl)) (by decide) (by decide)) (g := (mkF m 118 #[.val (.int pa), .val (.int pb), .val (.int pq), .val (.int nn), .val (.int sm), .val (.int pb), .val (.int cc), .val (.ref b45), .unset, .unset, .unset] [(.int (pb + (3 : Int32))), (.ref b45)])) rfl (by rw [hml]; rfl) (argsL := [(.int (pb + (3 : Int32)))]) (rest := [(.ref b45)]) (lenOf own_law_pd4 rfl) rfl (by show 2 * 0 + _ ≤ _; exact Nat.le_of_eq rfl) (hb hby at_118) (fun _ _ => ⟨rfl, rfl, (by decide : 7 + 1 ≤ _), (by decide : 36 + 1 ≤ _)⟩)
            dsimp only [Pt.U, Pt.locs, Pt.cells, Pt.slots] at X122 l122 y122 z122 st122 hQ122
            obtain rfl : k122 = 8 := y122
            obtain rfl : n122 = 37 := z122
            obtain ⟨rb3, rfl, N122q, R122, P124, P125, P126⟩ := hQ122
            have N122 : Fr n0 L122 := l122 ▸ Fr.app N113 N122q
            refine ownStep (fun _ k => st122 _ k) ?_
            have KP127 : Keep h0 T122.heap [] := KP119.ext R122
            show ownGo p.tables e below (T122.setTop (mkF m 121 #[.val (.int pa), .val (.int pb), .val (.int pq), .val (.int nn), .val (.int sm), .val (.int pb), .val (.int cc), .val (.ref b45), .unset, .unset, .unset] [(.ref rb3), (.ref b45)])) _
            have nl3 : rb3 ≠ b45 := own_neq P126 gn_b45 Q120.lt
            have nd3 : rb3 ≠ dd_70 := own_neq P126 gn_dd_70 P118.lt
            show ownGo p.tables e below (T122.setTop (mkF m 121 #[.val (.int pa), .val (.int pb), .val (.int pq), .val (.int nn), .val (.int sm), .val (.int pb), .val (.int cc), .val (.ref b45), .unset, .unset, .unset] [(.ref rb3), (.ref b45)])) _
            have Q128 : Exa Z T122.heap b45 "java/util/ArrayList" := (Q120.ext R122)
            have Q129 : Fld Z T122.heap b45 "java/util/ArrayList" "elementData" "[Ljava/lang/Object;" (.ref dd_70) := (P115.ext R122)
            have Q130 : Fld Z T122.heap b45 "java/util/ArrayList" "size" "I" (.int (3 : Int32)) := (P116.ext R122)
            have Q131 : Fld Z T122.heap b45 "java/util/AbstractList" "modCount" "I" (.int ((((0 : Int32) + (1 : Int32)) + (1 : Int32)) + (1 : Int32))) := (P117.ext R122)
            have Q132 : Arv Z T122.heap dd_70 kk_70 (.object "java/lang/Object") (10 : Int32) [(.ref rb0), (.ref rb1), (.ref rb2), .null, .null, .null, .null, .null, .null, .null] .null := (P118.ext R122)
            have Zs134 : n0 ≤ T122.heap.size := Nat.le_trans Z0 KP127.1
            obtain ⟨cq133, kq133, q133a, q133b, q133c⟩ := isOf hZ rfl Q128
            obtain ⟨_, _, ⟨T133, L133, k133, n133⟩, -, X133, ⟨Lc133, hQ133, l133, y133, z133⟩, st133⟩ := X122.virtualBack hx (y := (⟨"java/util/ArrayList", "add", "(Ljava/lang/Object;)Z"⟩ : MethodName)) (z := (⟨"java/util/ArrayList", "add", "(Ljava/lang/Object;)Z"⟩ : MethodName)) hown (mvT hZ (hw _ (List.mem_of_getElem? (i := 57) rfl))) (mvT hZ (hw _ (List.mem_of_getElem? (i := 58) rfl))) (notFace_of_selects (args := #[]) (mvT hZ (hw _ (List.mem_of_getElem? (i := 60) rfl)))) (mvT hZ (hw _ (List.mem_of_getElem? (i := 60) rfl))) (mvT hZ (hw _ (List.mem_of_getElem? (i := 59) rfl))) (by decide) (backOf (W := 0) (own_al_add_3 l Z a0 hw [] b45 dd_70 kk_70 ((((0 : Int32) + (1 : Int32)) + (1 : Int32)) + (1 : Int32)) (.ref rb0) (.ref rb1) (.ref rb2) rb3 T122.heap n0 Zs134 Q128 Q129 Q130 Q131 Q132 P76 gn_b45 gn_dd_70 ne87 (Ins.of_exa P124 (hw _ (List.mem_of_getElem? (i := 82) rfl)))) hZ (hw _ (List.mem_of_getElem? (i := 61) rfl)) (hw _ (List.mem_of_getElem? (i := 7) rfl)) (by decide) (by decide)) q133a q133c (g := (mkF m 121 #[.val (.int pa), .val (.int pb), .val (.int pq), .val (.int nn), .val (.int sm), .val (.int pb), .val (.int cc), .val (.ref b45), .unset, .unset, .unset] [(.ref rb3), (.ref b45)])) rfl (by rw [hml]; rfl) (Steps.refl _) (argsL := [(.ref rb3)]) (rest := []) (lenOf own_law_pd5 rfl) rfl (by show 2 * 0 + _ ≤ _; exact Nat.le_of_eq rfl) (hb hby at_121) (fun _ _ => ⟨rfl, rfl, (by decide : 8 + 1 ≤ _), (by decide : 37 + 10 ≤ _)⟩)
            dsimp only [Pt.U, Pt.locs, Pt.cells, Pt.slots] at X133 l133 y133 z133 st133 hQ133
            obtain rfl : k133 = 9 := y133
            obtain rfl : n133 = 47 := z133
            obtain ⟨rfl, N133q, R133, P135, P136, P137, P138⟩ := hQ133
            have N133 : Fr n0 L133 := l133 ▸ Fr.app N122 N133q
            refine ownStep (fun _ k => st133.trans k) ?_
            have KP139 : Keep h0 T133.heap [] := KP127.trans R133 (allS (Or.inr gh_b45) (allS (Or.inr gh_dd_70) all0))
            refine ownStep (fun _ k => XS.pop X133.here hx rfl (hb hby at_124) rfl rfl k) ?_
            refine ownStep (fun _ k => XS.iloadN X133.here hx rfl (hb hby at_125) rfl  k) ?_
            refine ownStep (fun _ k => XS.iconst X133.here hx rfl (hb hby at_126) k) ?_
            show ownGo p.tables e below (T133.setTop (mkF m 127 #[.val (.int pa), .val (.int pb), .val (.int pq), .val (.int nn), .val (.int sm), .val (.int pb), .val (.int cc), .val (.ref b45), .unset, .unset, .unset] [(.int (4 : Int32)), (.int nn)])) _
            by_cases hq4 : (4 : Int32) < nn
            · skip
              refine ownStep (fun _ k => XS.icmpNo X133.here hx rfl (hb hby at_127) rfl (tlt (hq4 : (4 : Int32) < nn)).2.2.2 k) ?_
              refine ownStep (fun _ k => XS.aload X133.here hx rfl (hb hby at_130) rfl rfl k) ?_
              refine ownStep (fun _ k => XS.iload X133.here hx rfl (hb hby at_132) rfl  k) ?_
              refine ownStep (fun _ k => XS.iconst X133.here hx rfl (hb hby at_134) k) ?_
              refine ownStep (fun _ k => XS.iadd X133.here hx rfl (hb hby at_135) rfl k) ?_
              show ownGo p.tables e below (T133.setTop (mkF m 136 #[.val (.int pa), .val (.int pb), .val (.int pq), .val (.int nn), .val (.int sm), .val (.int pb), .val (.int cc), .val (.ref b45), .unset, .unset, .unset] [(.int (pb + (4 : Int32))), (.ref b45)])) _
              have Q140 : Exa Z T133.heap b45 "java/util/ArrayList" := (Q128.keep R133)
              have Q141 : Old Z n0 T133.heap := ((Q121.ext R122).keep R133 (allS gn_b45 (allS gn_dd_70 all0)))
              have Zs143 : n0 ≤ T133.heap.size := Nat.le_trans Z0 KP139.1
              obtain ⟨_, _, ⟨T142, L142, k142, n142⟩, -, X142, ⟨Lc142, hQ142, l142, y142, z142⟩, st142⟩ := Jvm.LawKit.callS X133 hx (y := (⟨"java/lang/Integer", "valueOf", "(I)Ljava/lang/Integer;"⟩ : MethodName)) hown (mvT hZ (hw _ (List.mem_of_getElem? (i := 50) rfl))) (mvT hZ (hw _ (List.mem_of_getElem? (i := 51) rfl))) (mvT hZ (hw _ (List.mem_of_getElem? (i := 52) rfl))) (mvT hZ (hw _ (List.mem_of_getElem? (i := 53) rfl))) (by decide) (backOf (W := 1) (own_val l Z a0 hw [] ed kd ca clc (pb + (4 : Int32)) T133.heap n0 Zs143 Q141 S V Sh Sc BX) hZ (hw _ (List.mem_of_getElem? (i := 53) rfl)) (hw _ (List.mem_of_getElem? (i := 52) rfl)) (by decide) (by decide)) (g := (mkF m 136 #[.val (.int pa), .val (.int pb), .val (.int pq), .val (.int nn), .val (.int sm), .val (.int pb), .val (.int cc), .val (.ref b45), .unset, .unset, .unset] [(.int (pb + (4 : Int32))), (.ref b45)])) rfl (by rw [hml]; rfl) (argsL := [(.int (pb + (4 : Int32)))]) (rest := [(.ref b45)]) (lenOf own_law_pd4 rfl) rfl (by show 2 * 0 + _ ≤ _; exact Nat.le_of_eq rfl) (hb hby at_136) (fun _ _ => ⟨rfl, rfl, (by decide : 9 + 1 ≤ _), (by decide : 47 + 1 ≤ _)⟩)
              dsimp only [Pt.U, Pt.locs, Pt.cells, Pt.slots] at X142 l142 y142 z142 st142 hQ142
              obtain rfl : k142 = 10 := y142
              obtain rfl : n142 = 48 := z142
              obtain ⟨rb4, rfl, N142q, R142, P144, P145, P146⟩ := hQ142
              have N142 : Fr n0 L142 := l142 ▸ Fr.app N133 N142q
              refine ownStep (fun _ k => st142 _ k) ?_
              have KP147 : Keep h0 T142.heap [] := KP139.ext R142
              show ownGo p.tables e below (T142.setTop (mkF m 139 #[.val (.int pa), .val (.int pb), .val (.int pq), .val (.int nn), .val (.int sm), .val (.int pb), .val (.int cc), .val (.ref b45), .unset, .unset, .unset] [(.ref rb4), (.ref b45)])) _
              have nl4 : rb4 ≠ b45 := own_neq P146 gn_b45 Q140.lt
              have nd4 : rb4 ≠ dd_70 := own_neq P146 gn_dd_70 P138.lt
              show ownGo p.tables e below (T142.setTop (mkF m 139 #[.val (.int pa), .val (.int pb), .val (.int pq), .val (.int nn), .val (.int sm), .val (.int pb), .val (.int cc), .val (.ref b45), .unset, .unset, .unset] [(.ref rb4), (.ref b45)])) _
              have Q148 : Exa Z T142.heap b45 "java/util/ArrayList" := (Q140.ext R142)
              have Q149 : Fld Z T142.heap b45 "java/util/ArrayList" "elementData" "[Ljava/lang/Object;" (.ref dd_70) := (P135.ext R142)
              have Q150 : Fld Z T142.heap b45 "java/util/ArrayList" "size" "I" (.int (4 : Int32)) := (P136.ext R142)
              have Q151 : Fld Z T142.heap b45 "java/util/AbstractList" "modCount" "I" (.int (((((0 : Int32) + (1 : Int32)) + (1 : Int32)) + (1 : Int32)) + (1 : Int32))) := (P137.ext R142)
              have Q152 : Arv Z T142.heap dd_70 kk_70 (.object "java/lang/Object") (10 : Int32) [(.ref rb0), (.ref rb1), (.ref rb2), (.ref rb3), .null, .null, .null, .null, .null, .null] .null := (P138.ext R142)
              have Zs154 : n0 ≤ T142.heap.size := Nat.le_trans Z0 KP147.1
              obtain ⟨cq153, kq153, q153a, q153b, q153c⟩ := isOf hZ rfl Q148
              obtain ⟨_, _, ⟨T153, L153, k153, n153⟩, -, X153, ⟨Lc153, hQ153, l153, y153, z153⟩, st153⟩ := X142.virtualBack hx (y := (⟨"java/util/ArrayList", "add", "(Ljava/lang/Object;)Z"⟩ : MethodName)) (z := (⟨"java/util/ArrayList", "add", "(Ljava/lang/Object;)Z"⟩ : MethodName)) hown (mvT hZ (hw _ (List.mem_of_getElem? (i := 57) rfl))) (mvT hZ (hw _ (List.mem_of_getElem? (i := 58) rfl))) (notFace_of_selects (args := #[]) (mvT hZ (hw _ (List.mem_of_getElem? (i := 60) rfl)))) (mvT hZ (hw _ (List.mem_of_getElem? (i := 60) rfl))) (mvT hZ (hw _ (List.mem_of_getElem? (i := 59) rfl))) (by decide) (backOf (W := 0) (own_al_add_4 l Z a0 hw [] b45 dd_70 kk_70 (((((0 : Int32) + (1 : Int32)) + (1 : Int32)) + (1 : Int32)) + (1 : Int32)) (.ref rb0) (.ref rb1) (.ref rb2) (.ref rb3) rb4 T142.heap n0 Zs154 Q148 Q149 Q150 Q151 Q152 P76 gn_b45 gn_dd_70 ne87 (Ins.of_exa P144 (hw _ (List.mem_of_getElem? (i := 82) rfl)))) hZ (hw _ (List.mem_of_getElem? (i := 61) rfl)) (hw _ (List.mem_of_getElem? (i := 7) rfl)) (by decide) (by decide)) q153a q153c (g := (mkF m 139 #[.val (.int pa), .val (.int pb), .val (.int pq), .val (.int nn), .val (.int sm), .val (.int pb), .val (.int cc), .val (.ref b45), .unset, .unset, .unset] [(.ref rb4), (.ref b45)])) rfl (by rw [hml]; rfl) (Steps.refl _) (argsL := [(.ref rb4)]) (rest := []) (lenOf own_law_pd5 rfl) rfl (by show 2 * 0 + _ ≤ _; exact Nat.le_of_eq rfl) (hb hby at_139) (fun _ _ => ⟨rfl, rfl, (by decide : 10 + 1 ≤ _), (by decide : 48 + 10 ≤ _)⟩)
              dsimp only [Pt.U, Pt.locs, Pt.cells, Pt.slots] at X153 l153 y153 z153 st153 hQ153
              obtain rfl : k153 = 11 := y153
              obtain rfl : n153 = 58 := z153
              obtain ⟨rfl, N153q, R153, P155, P156, P157, P158⟩ := hQ153
              have N153 : Fr n0 L153 := l153 ▸ Fr.app N142 N153q
              refine ownStep (fun _ k => st153.trans k) ?_
              have KP159 : Keep h0 T153.heap [] := KP147.trans R153 (allS (Or.inr gh_b45) (allS (Or.inr gh_dd_70) all0))
              refine ownStep (fun _ k => XS.pop X153.here hx rfl (hb hby at_142) rfl rfl k) ?_
              refine ownStep (fun _ k => XS.iloadN X153.here hx rfl (hb hby at_143) rfl  k) ?_
              refine ownStep (fun _ k => XS.iconst X153.here hx rfl (hb hby at_144) k) ?_
              show ownGo p.tables e below (T153.setTop (mkF m 145 #[.val (.int pa), .val (.int pb), .val (.int pq), .val (.int nn), .val (.int sm), .val (.int pb), .val (.int cc), .val (.ref b45), .unset, .unset, .unset] [(.int (5 : Int32)), (.int nn)])) _
              by_cases hq5 : (5 : Int32) < nn
              · skip
                refine ownStep (fun _ k => XS.icmpNo X153.here hx rfl (hb hby at_145) rfl (tlt (hq5 : (5 : Int32) < nn)).2.2.2 k) ?_
                refine ownStep (fun _ k => XS.aload X153.here hx rfl (hb hby at_148) rfl rfl k) ?_
                refine ownStep (fun _ k => XS.iload X153.here hx rfl (hb hby at_150) rfl  k) ?_
                refine ownStep (fun _ k => XS.iconst X153.here hx rfl (hb hby at_152) k) ?_
                refine ownStep (fun _ k => XS.iadd X153.here hx rfl (hb hby at_153) rfl k) ?_
                show ownGo p.tables e below (T153.setTop (mkF m 154 #[.val (.int pa), .val (.int pb), .val (.int pq), .val (.int nn), .val (.int sm), .val (.int pb), .val (.int cc), .val (.ref b45), .unset, .unset, .unset] [(.int (pb + (5 : Int32))), (.ref b45)])) _
                have Q160 : Exa Z T153.heap b45 "java/util/ArrayList" := (Q148.keep R153)
                have Q161 : Old Z n0 T153.heap := ((Q141.ext R142).keep R153 (allS gn_b45 (allS gn_dd_70 all0)))
                have Zs163 : n0 ≤ T153.heap.size := Nat.le_trans Z0 KP159.1
                obtain ⟨_, _, ⟨T162, L162, k162, n162⟩, -, X162, ⟨Lc162, hQ162, l162, y162, z162⟩, st162⟩ := Jvm.LawKit.callS X153 hx (y := (⟨"java/lang/Integer", "valueOf", "(I)Ljava/lang/Integer;"⟩ : MethodName)) hown (mvT hZ (hw _ (List.mem_of_getElem? (i := 50) rfl))) (mvT hZ (hw _ (List.mem_of_getElem? (i := 51) rfl))) (mvT hZ (hw _ (List.mem_of_getElem? (i := 52) rfl))) (mvT hZ (hw _ (List.mem_of_getElem? (i := 53) rfl))) (by decide) (backOf (W := 1) (own_val l Z a0 hw [] ed kd ca clc (pb + (5 : Int32)) T153.heap n0 Zs163 Q161 S V Sh Sc BX) hZ (hw _ (List.mem_of_getElem? (i := 53) rfl)) (hw _ (List.mem_of_getElem? (i := 52) rfl)) (by decide) (by decide)) (g := (mkF m 154 #[.val (.int pa), .val (.int pb), .val (.int pq), .val (.int nn), .val (.int sm), .val (.int pb), .val (.int cc), .val (.ref b45), .unset, .unset, .unset] [(.int (pb + (5 : Int32))), (.ref b45)])) rfl (by rw [hml]; rfl) (argsL := [(.int (pb + (5 : Int32)))]) (rest := [(.ref b45)]) (lenOf own_law_pd4 rfl) rfl (by show 2 * 0 + _ ≤ _; exact Nat.le_of_eq rfl) (hb hby at_154) (fun _ _ => ⟨rfl, rfl, (by decide : 11 + 1 ≤ _), (by decide : 58 + 1 ≤ _)⟩)
                dsimp only [Pt.U, Pt.locs, Pt.cells, Pt.slots] at X162 l162 y162 z162 st162 hQ162
                obtain rfl : k162 = 12 := y162
                obtain rfl : n162 = 59 := z162
                obtain ⟨rb5, rfl, N162q, R162, P164, P165, P166⟩ := hQ162
                have N162 : Fr n0 L162 := l162 ▸ Fr.app N153 N162q
                refine ownStep (fun _ k => st162 _ k) ?_
                have KP167 : Keep h0 T162.heap [] := KP159.ext R162
                show ownGo p.tables e below (T162.setTop (mkF m 157 #[.val (.int pa), .val (.int pb), .val (.int pq), .val (.int nn), .val (.int sm), .val (.int pb), .val (.int cc), .val (.ref b45), .unset, .unset, .unset] [(.ref rb5), (.ref b45)])) _
                have nl5 : rb5 ≠ b45 := own_neq P166 gn_b45 Q160.lt
                have nd5 : rb5 ≠ dd_70 := own_neq P166 gn_dd_70 P158.lt
                show ownGo p.tables e below (T162.setTop (mkF m 157 #[.val (.int pa), .val (.int pb), .val (.int pq), .val (.int nn), .val (.int sm), .val (.int pb), .val (.int cc), .val (.ref b45), .unset, .unset, .unset] [(.ref rb5), (.ref b45)])) _
                have Q168 : Exa Z T162.heap b45 "java/util/ArrayList" := (Q160.ext R162)
                have Q169 : Fld Z T162.heap b45 "java/util/ArrayList" "elementData" "[Ljava/lang/Object;" (.ref dd_70) := (P155.ext R162)
                have Q170 : Fld Z T162.heap b45 "java/util/ArrayList" "size" "I" (.int (5 : Int32)) := (P156.ext R162)
                have Q171 : Fld Z T162.heap b45 "java/util/AbstractList" "modCount" "I" (.int ((((((0 : Int32) + (1 : Int32)) + (1 : Int32)) + (1 : Int32)) + (1 : Int32)) + (1 : Int32))) := (P157.ext R162)
                have Q172 : Arv Z T162.heap dd_70 kk_70 (.object "java/lang/Object") (10 : Int32) [(.ref rb0), (.ref rb1), (.ref rb2), (.ref rb3), (.ref rb4), .null, .null, .null, .null, .null] .null := (P158.ext R162)
                have Zs174 : n0 ≤ T162.heap.size := Nat.le_trans Z0 KP167.1
                obtain ⟨cq173, kq173, q173a, q173b, q173c⟩ := isOf hZ rfl Q168
                obtain ⟨_, _, ⟨T173, L173, k173, n173⟩, -, X173, ⟨Lc173, hQ173, l173, y173, z173⟩, st173⟩ := X162.virtualBack hx (y := (⟨"java/util/ArrayList", "add", "(Ljava/lang/Object;)Z"⟩ : MethodName)) (z := (⟨"java/util/ArrayList", "add", "(Ljava/lang/Object;)Z"⟩ : MethodName)) hown (mvT hZ (hw _ (List.mem_of_getElem? (i := 57) rfl))) (mvT hZ (hw _ (List.mem_of_getElem? (i := 58) rfl))) (notFace_of_selects (args := #[]) (mvT hZ (hw _ (List.mem_of_getElem? (i := 60) rfl)))) (mvT hZ (hw _ (List.mem_of_getElem? (i := 60) rfl))) (mvT hZ (hw _ (List.mem_of_getElem? (i := 59) rfl))) (by decide) (backOf (W := 0) (own_al_add_5 l Z a0 hw [] b45 dd_70 kk_70 ((((((0 : Int32) + (1 : Int32)) + (1 : Int32)) + (1 : Int32)) + (1 : Int32)) + (1 : Int32)) (.ref rb0) (.ref rb1) (.ref rb2) (.ref rb3) (.ref rb4) rb5 T162.heap n0 Zs174 Q168 Q169 Q170 Q171 Q172 P76 gn_b45 gn_dd_70 ne87 (Ins.of_exa P164 (hw _ (List.mem_of_getElem? (i := 82) rfl)))) hZ (hw _ (List.mem_of_getElem? (i := 61) rfl)) (hw _ (List.mem_of_getElem? (i := 7) rfl)) (by decide) (by decide)) q173a q173c (g := (mkF m 157 #[.val (.int pa), .val (.int pb), .val (.int pq), .val (.int nn), .val (.int sm), .val (.int pb), .val (.int cc), .val (.ref b45), .unset, .unset, .unset] [(.ref rb5), (.ref b45)])) rfl (by rw [hml]; rfl) (Steps.refl _) (argsL := [(.ref rb5)]) (rest := []) (lenOf own_law_pd5 rfl) rfl (by show 2 * 0 + _ ≤ _; exact Nat.le_of_eq rfl) (hb hby at_157) (fun _ _ => ⟨rfl, rfl, (by decide : 12 + 1 ≤ _), (by decide : 59 + 10 ≤ _)⟩)
                dsimp only [Pt.U, Pt.locs, Pt.cells, Pt.slots] at X173 l173 y173 z173 st173 hQ173
                obtain rfl : k173 = 13 := y173
                obtain rfl : n173 = 69 := z173
                obtain ⟨rfl, N173q, R173, P175, P176, P177, P178⟩ := hQ173
                have N173 : Fr n0 L173 := l173 ▸ Fr.app N162 N173q
                refine ownStep (fun _ k => st173.trans k) ?_
                have KP179 : Keep h0 T173.heap [] := KP167.trans R173 (allS (Or.inr gh_b45) (allS (Or.inr gh_dd_70) all0))
                refine ownStep (fun _ k => XS.pop X173.here hx rfl (hb hby at_160) rfl rfl k) ?_
                refine ownStep (fun _ k => XS.iloadN X173.here hx rfl (hb hby at_161) rfl  k) ?_
                refine ownStep (fun _ k => XS.bipush X173.here hx rfl (hb hby at_162) k) ?_
                show ownGo p.tables e below (T173.setTop (mkF m 164 #[.val (.int pa), .val (.int pb), .val (.int pq), .val (.int nn), .val (.int sm), .val (.int pb), .val (.int cc), .val (.ref b45), .unset, .unset, .unset] [(.int (6 : Int32)), (.int nn)])) _
                by_cases hq6 : (6 : Int32) < nn
                · skip
                  refine ownStep (fun _ k => XS.icmpNo X173.here hx rfl (hb hby at_164) rfl (tlt (hq6 : (6 : Int32) < nn)).2.2.2 k) ?_
                  refine ownStep (fun _ k => XS.aload X173.here hx rfl (hb hby at_167) rfl rfl k) ?_
                  refine ownStep (fun _ k => XS.iload X173.here hx rfl (hb hby at_169) rfl  k) ?_
                  refine ownStep (fun _ k => XS.bipush X173.here hx rfl (hb hby at_171) k) ?_
                  refine ownStep (fun _ k => XS.iadd X173.here hx rfl (hb hby at_173) rfl k) ?_
                  show ownGo p.tables e below (T173.setTop (mkF m 174 #[.val (.int pa), .val (.int pb), .val (.int pq), .val (.int nn), .val (.int sm), .val (.int pb), .val (.int cc), .val (.ref b45), .unset, .unset, .unset] [(.int (pb + (6 : Int32))), (.ref b45)])) _
                  have Q180 : Exa Z T173.heap b45 "java/util/ArrayList" := (Q168.keep R173)
                  have Q181 : Old Z n0 T173.heap := ((Q161.ext R162).keep R173 (allS gn_b45 (allS gn_dd_70 all0)))
                  have Zs183 : n0 ≤ T173.heap.size := Nat.le_trans Z0 KP179.1
                  obtain ⟨_, _, ⟨T182, L182, k182, n182⟩, -, X182, ⟨Lc182, hQ182, l182, y182, z182⟩, st182⟩ := Jvm.LawKit.callS X173 hx (y := (⟨"java/lang/Integer", "valueOf", "(I)Ljava/lang/Integer;"⟩ : MethodName)) hown (mvT hZ (hw _ (List.mem_of_getElem? (i := 50) rfl))) (mvT hZ (hw _ (List.mem_of_getElem? (i := 51) rfl))) (mvT hZ (hw _ (List.mem_of_getElem? (i := 52) rfl))) (mvT hZ (hw _ (List.mem_of_getElem? (i := 53) rfl))) (by decide) (backOf (W := 1) (own_val l Z a0 hw [] ed kd ca clc (pb + (6 : Int32)) T173.heap n0 Zs183 Q181 S V Sh Sc BX) hZ (hw _ (List.mem_of_getElem? (i := 53) rfl)) (hw _ (List.mem_of_getElem? (i := 52) rfl)) (by decide) (by decide)) (g := (mkF m 174 #[.val (.int pa), .val (.int pb), .val (.int pq), .val (.int nn), .val (.int sm), .val (.int pb), .val (.int cc), .val (.ref b45), .unset, .unset, .unset] [(.int (pb + (6 : Int32))), (.ref b45)])) rfl (by rw [hml]; rfl) (argsL := [(.int (pb + (6 : Int32)))]) (rest := [(.ref b45)]) (lenOf own_law_pd4 rfl) rfl (by show 2 * 0 + _ ≤ _; exact Nat.le_of_eq rfl) (hb hby at_174) (fun _ _ => ⟨rfl, rfl, (by decide : 13 + 1 ≤ _), (by decide : 69 + 1 ≤ _)⟩)
                  dsimp only [Pt.U, Pt.locs, Pt.cells, Pt.slots] at X182 l182 y182 z182 st182 hQ182
                  obtain rfl : k182 = 14 := y182
                  obtain rfl : n182 = 70 := z182
                  obtain ⟨rb6, rfl, N182q, R182, P184, P185, P186⟩ := hQ182
                  have N182 : Fr n0 L182 := l182 ▸ Fr.app N173 N182q
                  refine ownStep (fun _ k => st182 _ k) ?_
                  have KP187 : Keep h0 T182.heap [] := KP179.ext R182
                  show ownGo p.tables e below (T182.setTop (mkF m 177 #[.val (.int pa), .val (.int pb), .val (.int pq), .val (.int nn), .val (.int sm), .val (.int pb), .val (.int cc), .val (.ref b45), .unset, .unset, .unset] [(.ref rb6), (.ref b45)])) _
                  have nl6 : rb6 ≠ b45 := own_neq P186 gn_b45 Q180.lt
                  have nd6 : rb6 ≠ dd_70 := own_neq P186 gn_dd_70 P178.lt
                  show ownGo p.tables e below (T182.setTop (mkF m 177 #[.val (.int pa), .val (.int pb), .val (.int pq), .val (.int nn), .val (.int sm), .val (.int pb), .val (.int cc), .val (.ref b45), .unset, .unset, .unset] [(.ref rb6), (.ref b45)])) _
                  have Q188 : Exa Z T182.heap b45 "java/util/ArrayList" := (Q180.ext R182)
                  have Q189 : Fld Z T182.heap b45 "java/util/ArrayList" "elementData" "[Ljava/lang/Object;" (.ref dd_70) := (P175.ext R182)
                  have Q190 : Fld Z T182.heap b45 "java/util/ArrayList" "size" "I" (.int (6 : Int32)) := (P176.ext R182)
                  have Q191 : Fld Z T182.heap b45 "java/util/AbstractList" "modCount" "I" (.int (((((((0 : Int32) + (1 : Int32)) + (1 : Int32)) + (1 : Int32)) + (1 : Int32)) + (1 : Int32)) + (1 : Int32))) := (P177.ext R182)
                  have Q192 : Arv Z T182.heap dd_70 kk_70 (.object "java/lang/Object") (10 : Int32) [(.ref rb0), (.ref rb1), (.ref rb2), (.ref rb3), (.ref rb4), (.ref rb5), .null, .null, .null, .null] .null := (P178.ext R182)
                  have Zs194 : n0 ≤ T182.heap.size := Nat.le_trans Z0 KP187.1
                  obtain ⟨cq193, kq193, q193a, q193b, q193c⟩ := isOf hZ rfl Q188
                  obtain ⟨_, _, ⟨T193, L193, k193, n193⟩, -, X193, ⟨Lc193, hQ193, l193, y193, z193⟩, st193⟩ := X182.virtualBack hx (y := (⟨"java/util/ArrayList", "add", "(Ljava/lang/Object;)Z"⟩ : MethodName)) (z := (⟨"java/util/ArrayList", "add", "(Ljava/lang/Object;)Z"⟩ : MethodName)) hown (mvT hZ (hw _ (List.mem_of_getElem? (i := 57) rfl))) (mvT hZ (hw _ (List.mem_of_getElem? (i := 58) rfl))) (notFace_of_selects (args := #[]) (mvT hZ (hw _ (List.mem_of_getElem? (i := 60) rfl)))) (mvT hZ (hw _ (List.mem_of_getElem? (i := 60) rfl))) (mvT hZ (hw _ (List.mem_of_getElem? (i := 59) rfl))) (by decide) (backOf (W := 0) (own_al_add_6 l Z a0 hw [] b45 dd_70 kk_70 (((((((0 : Int32) + (1 : Int32)) + (1 : Int32)) + (1 : Int32)) + (1 : Int32)) + (1 : Int32)) + (1 : Int32)) (.ref rb0) (.ref rb1) (.ref rb2) (.ref rb3) (.ref rb4) (.ref rb5) rb6 T182.heap n0 Zs194 Q188 Q189 Q190 Q191 Q192 P76 gn_b45 gn_dd_70 ne87 (Ins.of_exa P184 (hw _ (List.mem_of_getElem? (i := 82) rfl)))) hZ (hw _ (List.mem_of_getElem? (i := 61) rfl)) (hw _ (List.mem_of_getElem? (i := 7) rfl)) (by decide) (by decide)) q193a q193c (g := (mkF m 177 #[.val (.int pa), .val (.int pb), .val (.int pq), .val (.int nn), .val (.int sm), .val (.int pb), .val (.int cc), .val (.ref b45), .unset, .unset, .unset] [(.ref rb6), (.ref b45)])) rfl (by rw [hml]; rfl) (Steps.refl _) (argsL := [(.ref rb6)]) (rest := []) (lenOf own_law_pd5 rfl) rfl (by show 2 * 0 + _ ≤ _; exact Nat.le_of_eq rfl) (hb hby at_177) (fun _ _ => ⟨rfl, rfl, (by decide : 14 + 1 ≤ _), (by decide : 70 + 10 ≤ _)⟩)
                  dsimp only [Pt.U, Pt.locs, Pt.cells, Pt.slots] at X193 l193 y193 z193 st193 hQ193
                  obtain rfl : k193 = 15 := y193
                  obtain rfl : n193 = 80 := z193
                  obtain ⟨rfl, N193q, R193, P195, P196, P197, P198⟩ := hQ193
                  have N193 : Fr n0 L193 := l193 ▸ Fr.app N182 N193q
                  refine ownStep (fun _ k => st193.trans k) ?_
                  have KP199 : Keep h0 T193.heap [] := KP187.trans R193 (allS (Or.inr gh_b45) (allS (Or.inr gh_dd_70) all0))
                  refine ownStep (fun _ k => XS.pop X193.here hx rfl (hb hby at_180) rfl rfl k) ?_
                  show ownGo p.tables e below (T193.setTop (mkF m 181 #[.val (.int pa), .val (.int pb), .val (.int pq), .val (.int nn), .val (.int sm), .val (.int pb), .val (.int cc), .val (.ref b45), .unset, .unset, .unset] [])) _
                  obtain rfl : nn = (7 : Int32) := own_eqk hq6 hn7 (by decide)
                  show ownGo p.tables e below (T193.setTop (mkF m 181 #[.val (.int pa), .val (.int pb), .val (.int pq), .val (.int (7 : Int32)), .val (.int sm), .val (.int pb), .val (.int cc), .val (.ref b45), .unset, .unset, .unset] [])) _
                  have Vo200 := P198
                  obtain ⟨cl200, Ar200, q200, S200, N200, H200, G200⟩ := Vo200
                  have Q201 : Exa Z T193.heap rb0 "java/lang/Integer" := (((((((((((((P61.keep R70).ext R81).keep R93).ext R102).keep R113).ext R122).keep R133).ext R142).keep R153).ext R162).keep R173).ext R182).keep R193)
                  have ne202 : rb0 ≠ dd_70 := Nat.ne_of_lt (Nat.lt_of_lt_of_le (Nat.lt_of_lt_of_le P61.lt (Nat.le_refl _)) P77)
                  have Q203 : Fld Z T193.heap rb0 "java/lang/Integer" "value" "I" (.int pb) := (((((((((((((P62.keep R70 (ninS nl0 nin0)).ext R81).keep R93 (ninS nl0 (ninS ne202 nin0))).ext R102).keep R113 (ninS nl0 (ninS ne202 nin0))).ext R122).keep R133 (ninS nl0 (ninS ne202 nin0))).ext R142).keep R153 (ninS nl0 (ninS ne202 nin0))).ext R162).keep R173 (ninS nl0 (ninS ne202 nin0))).ext R182).keep R193 (ninS nl0 (ninS ne202 nin0)))
                  have B0 : own_box Z T193.heap cl200 pb (0 : Int32) := ⟨rb0, H200.at (inb_of S200 ⟨by decide, by decide⟩) rfl, Q201, (by rw [Int32.add_zero]; exact Q203)⟩
                  have Q204 : Exa Z T193.heap rb1 "java/lang/Integer" := (((((((((((P83.keep R93).ext R102).keep R113).ext R122).keep R133).ext R142).keep R153).ext R162).keep R173).ext R182).keep R193)
                  have Q205 : Fld Z T193.heap rb1 "java/lang/Integer" "value" "I" (.int (pb + (1 : Int32))) := (((((((((((P84.keep R93 (ninS nl1 (ninS nd1 nin0))).ext R102).keep R113 (ninS nl1 (ninS nd1 nin0))).ext R122).keep R133 (ninS nl1 (ninS nd1 nin0))).ext R142).keep R153 (ninS nl1 (ninS nd1 nin0))).ext R162).keep R173 (ninS nl1 (ninS nd1 nin0))).ext R182).keep R193 (ninS nl1 (ninS nd1 nin0)))
                  have B1 : own_box Z T193.heap cl200 pb (1 : Int32) := ⟨rb1, H200.at (inb_of S200 ⟨by decide, by decide⟩) rfl, Q204, Q205⟩
                  have Q206 : Exa Z T193.heap rb2 "java/lang/Integer" := (((((((((P104.keep R113).ext R122).keep R133).ext R142).keep R153).ext R162).keep R173).ext R182).keep R193)
                  have Q207 : Fld Z T193.heap rb2 "java/lang/Integer" "value" "I" (.int (pb + (2 : Int32))) := (((((((((P105.keep R113 (ninS nl2 (ninS nd2 nin0))).ext R122).keep R133 (ninS nl2 (ninS nd2 nin0))).ext R142).keep R153 (ninS nl2 (ninS nd2 nin0))).ext R162).keep R173 (ninS nl2 (ninS nd2 nin0))).ext R182).keep R193 (ninS nl2 (ninS nd2 nin0)))
                  have B2 : own_box Z T193.heap cl200 pb (2 : Int32) := ⟨rb2, H200.at (inb_of S200 ⟨by decide, by decide⟩) rfl, Q206, Q207⟩
                  have Q208 : Exa Z T193.heap rb3 "java/lang/Integer" := (((((((P124.keep R133).ext R142).keep R153).ext R162).keep R173).ext R182).keep R193)
                  have Q209 : Fld Z T193.heap rb3 "java/lang/Integer" "value" "I" (.int (pb + (3 : Int32))) := (((((((P125.keep R133 (ninS nl3 (ninS nd3 nin0))).ext R142).keep R153 (ninS nl3 (ninS nd3 nin0))).ext R162).keep R173 (ninS nl3 (ninS nd3 nin0))).ext R182).keep R193 (ninS nl3 (ninS nd3 nin0)))
                  have B3 : own_box Z T193.heap cl200 pb (3 : Int32) := ⟨rb3, H200.at (inb_of S200 ⟨by decide, by decide⟩) rfl, Q208, Q209⟩
                  have Q210 : Exa Z T193.heap rb4 "java/lang/Integer" := (((((P144.keep R153).ext R162).keep R173).ext R182).keep R193)
                  have Q211 : Fld Z T193.heap rb4 "java/lang/Integer" "value" "I" (.int (pb + (4 : Int32))) := (((((P145.keep R153 (ninS nl4 (ninS nd4 nin0))).ext R162).keep R173 (ninS nl4 (ninS nd4 nin0))).ext R182).keep R193 (ninS nl4 (ninS nd4 nin0)))
                  have B4 : own_box Z T193.heap cl200 pb (4 : Int32) := ⟨rb4, H200.at (inb_of S200 ⟨by decide, by decide⟩) rfl, Q210, Q211⟩
                  have Q212 : Exa Z T193.heap rb5 "java/lang/Integer" := (((P164.keep R173).ext R182).keep R193)
                  have Q213 : Fld Z T193.heap rb5 "java/lang/Integer" "value" "I" (.int (pb + (5 : Int32))) := (((P165.keep R173 (ninS nl5 (ninS nd5 nin0))).ext R182).keep R193 (ninS nl5 (ninS nd5 nin0)))
                  have B5 : own_box Z T193.heap cl200 pb (5 : Int32) := ⟨rb5, H200.at (inb_of S200 ⟨by decide, by decide⟩) rfl, Q212, Q213⟩
                  have Q214 : Exa Z T193.heap rb6 "java/lang/Integer" := (P184.keep R193)
                  have Q215 : Fld Z T193.heap rb6 "java/lang/Integer" "value" "I" (.int (pb + (6 : Int32))) := (P185.keep R193 (ninS nl6 (ninS nd6 nin0)))
                  have B6 : own_box Z T193.heap cl200 pb (6 : Int32) := ⟨rb6, H200.at (inb_of S200 ⟨by decide, by decide⟩) rfl, Q214, Q215⟩
                  have Q216 : Exa Z T193.heap b45 "java/util/ArrayList" := (Q188.keep R193)
                  exact J181 _ _ _ (X193.mono (by decide) (by decide)) rfl N193 KP199 _ _ _ _ (by decide) Q216 P195 P196 P197 Ar200 (S200.trans rfl) (own_all7 B0 B1 B2 B3 B4 B5 B6)
                · skip
                  refine ownStep (fun _ k => XS.icmpYes X173.here hx rfl (pc0 := 164) (pc' := 181) rfl (hb hby at_164) rfl (flt (hq6 : ¬ (6 : Int32) < nn)).2.2.2 (by decide) (by decide) k) ?_
                  show ownGo p.tables e below (T173.setTop (mkF m 181 #[.val (.int pa), .val (.int pb), .val (.int pq), .val (.int nn), .val (.int sm), .val (.int pb), .val (.int cc), .val (.ref b45), .unset, .unset, .unset] [])) _
                  obtain rfl : nn = (6 : Int32) := own_eqk hq5 hq6 (by decide)
                  show ownGo p.tables e below (T173.setTop (mkF m 181 #[.val (.int pa), .val (.int pb), .val (.int pq), .val (.int (6 : Int32)), .val (.int sm), .val (.int pb), .val (.int cc), .val (.ref b45), .unset, .unset, .unset] [])) _
                  have Vo217 := P178
                  obtain ⟨cl217, Ar217, q217, S217, N217, H217, G217⟩ := Vo217
                  have Q218 : Exa Z T173.heap rb0 "java/lang/Integer" := (((((((((((P61.keep R70).ext R81).keep R93).ext R102).keep R113).ext R122).keep R133).ext R142).keep R153).ext R162).keep R173)
                  have ne219 : rb0 ≠ dd_70 := Nat.ne_of_lt (Nat.lt_of_lt_of_le (Nat.lt_of_lt_of_le P61.lt (Nat.le_refl _)) P77)
                  have Q220 : Fld Z T173.heap rb0 "java/lang/Integer" "value" "I" (.int pb) := (((((((((((P62.keep R70 (ninS nl0 nin0)).ext R81).keep R93 (ninS nl0 (ninS ne219 nin0))).ext R102).keep R113 (ninS nl0 (ninS ne219 nin0))).ext R122).keep R133 (ninS nl0 (ninS ne219 nin0))).ext R142).keep R153 (ninS nl0 (ninS ne219 nin0))).ext R162).keep R173 (ninS nl0 (ninS ne219 nin0)))
                  have B0 : own_box Z T173.heap cl217 pb (0 : Int32) := ⟨rb0, H217.at (inb_of S217 ⟨by decide, by decide⟩) rfl, Q218, (by rw [Int32.add_zero]; exact Q220)⟩
                  have Q221 : Exa Z T173.heap rb1 "java/lang/Integer" := (((((((((P83.keep R93).ext R102).keep R113).ext R122).keep R133).ext R142).keep R153).ext R162).keep R173)
                  have Q222 : Fld Z T173.heap rb1 "java/lang/Integer" "value" "I" (.int (pb + (1 : Int32))) := (((((((((P84.keep R93 (ninS nl1 (ninS nd1 nin0))).ext R102).keep R113 (ninS nl1 (ninS nd1 nin0))).ext R122).keep R133 (ninS nl1 (ninS nd1 nin0))).ext R142).keep R153 (ninS nl1 (ninS nd1 nin0))).ext R162).keep R173 (ninS nl1 (ninS nd1 nin0)))
                  have B1 : own_box Z T173.heap cl217 pb (1 : Int32) := ⟨rb1, H217.at (inb_of S217 ⟨by decide, by decide⟩) rfl, Q221, Q222⟩
                  have Q223 : Exa Z T173.heap rb2 "java/lang/Integer" := (((((((P104.keep R113).ext R122).keep R133).ext R142).keep R153).ext R162).keep R173)
                  have Q224 : Fld Z T173.heap rb2 "java/lang/Integer" "value" "I" (.int (pb + (2 : Int32))) := (((((((P105.keep R113 (ninS nl2 (ninS nd2 nin0))).ext R122).keep R133 (ninS nl2 (ninS nd2 nin0))).ext R142).keep R153 (ninS nl2 (ninS nd2 nin0))).ext R162).keep R173 (ninS nl2 (ninS nd2 nin0)))
                  have B2 : own_box Z T173.heap cl217 pb (2 : Int32) := ⟨rb2, H217.at (inb_of S217 ⟨by decide, by decide⟩) rfl, Q223, Q224⟩
                  have Q225 : Exa Z T173.heap rb3 "java/lang/Integer" := (((((P124.keep R133).ext R142).keep R153).ext R162).keep R173)
                  have Q226 : Fld Z T173.heap rb3 "java/lang/Integer" "value" "I" (.int (pb + (3 : Int32))) := (((((P125.keep R133 (ninS nl3 (ninS nd3 nin0))).ext R142).keep R153 (ninS nl3 (ninS nd3 nin0))).ext R162).keep R173 (ninS nl3 (ninS nd3 nin0)))
                  have B3 : own_box Z T173.heap cl217 pb (3 : Int32) := ⟨rb3, H217.at (inb_of S217 ⟨by decide, by decide⟩) rfl, Q225, Q226⟩
                  have Q227 : Exa Z T173.heap rb4 "java/lang/Integer" := (((P144.keep R153).ext R162).keep R173)
                  have Q228 : Fld Z T173.heap rb4 "java/lang/Integer" "value" "I" (.int (pb + (4 : Int32))) := (((P145.keep R153 (ninS nl4 (ninS nd4 nin0))).ext R162).keep R173 (ninS nl4 (ninS nd4 nin0)))
                  have B4 : own_box Z T173.heap cl217 pb (4 : Int32) := ⟨rb4, H217.at (inb_of S217 ⟨by decide, by decide⟩) rfl, Q227, Q228⟩
                  have Q229 : Exa Z T173.heap rb5 "java/lang/Integer" := (P164.keep R173)
                  have Q230 : Fld Z T173.heap rb5 "java/lang/Integer" "value" "I" (.int (pb + (5 : Int32))) := (P165.keep R173 (ninS nl5 (ninS nd5 nin0)))
                  have B5 : own_box Z T173.heap cl217 pb (5 : Int32) := ⟨rb5, H217.at (inb_of S217 ⟨by decide, by decide⟩) rfl, Q229, Q230⟩
                  have Q231 : Exa Z T173.heap b45 "java/util/ArrayList" := (Q168.keep R173)
                  exact J181 _ _ _ (X173.mono (by decide) (by decide)) rfl N173 KP179 _ _ _ _ (by decide) Q231 P175 P176 P177 Ar217 (S217.trans rfl) (own_all6 B0 B1 B2 B3 B4 B5)
              · skip
                refine ownStep (fun _ k => XS.icmpYes X153.here hx rfl (pc0 := 145) (pc' := 161) rfl (hb hby at_145) rfl (flt (hq5 : ¬ (5 : Int32) < nn)).2.2.2 (by decide) (by decide) k) ?_
                show ownGo p.tables e below (T153.setTop (mkF m 161 #[.val (.int pa), .val (.int pb), .val (.int pq), .val (.int nn), .val (.int sm), .val (.int pb), .val (.int cc), .val (.ref b45), .unset, .unset, .unset] [])) _
                obtain rfl : nn = (5 : Int32) := own_eqk hq4 hq5 (by decide)
                refine ownStep (fun _ k => XS.iloadN X153.here hx rfl (hb hby at_161) rfl  k) ?_
                refine ownStep (fun _ k => XS.bipush X153.here hx rfl (hb hby at_162) k) ?_
                refine ownStep (fun _ k => XS.icmpYes X153.here hx rfl (pc0 := 164) (pc' := 181) rfl (hb hby at_164) rfl (flt (by decide : ¬ (6 : Int32) < (5 : Int32))).2.2.2 (by decide) (by decide) k) ?_
                show ownGo p.tables e below (T153.setTop (mkF m 181 #[.val (.int pa), .val (.int pb), .val (.int pq), .val (.int (5 : Int32)), .val (.int sm), .val (.int pb), .val (.int cc), .val (.ref b45), .unset, .unset, .unset] [])) _
                have Vo232 := P158
                obtain ⟨cl232, Ar232, q232, S232, N232, H232, G232⟩ := Vo232
                have Q233 : Exa Z T153.heap rb0 "java/lang/Integer" := (((((((((P61.keep R70).ext R81).keep R93).ext R102).keep R113).ext R122).keep R133).ext R142).keep R153)
                have ne234 : rb0 ≠ dd_70 := Nat.ne_of_lt (Nat.lt_of_lt_of_le (Nat.lt_of_lt_of_le P61.lt (Nat.le_refl _)) P77)
                have Q235 : Fld Z T153.heap rb0 "java/lang/Integer" "value" "I" (.int pb) := (((((((((P62.keep R70 (ninS nl0 nin0)).ext R81).keep R93 (ninS nl0 (ninS ne234 nin0))).ext R102).keep R113 (ninS nl0 (ninS ne234 nin0))).ext R122).keep R133 (ninS nl0 (ninS ne234 nin0))).ext R142).keep R153 (ninS nl0 (ninS ne234 nin0)))
                have B0 : own_box Z T153.heap cl232 pb (0 : Int32) := ⟨rb0, H232.at (inb_of S232 ⟨by decide, by decide⟩) rfl, Q233, (by rw [Int32.add_zero]; exact Q235)⟩
                have Q236 : Exa Z T153.heap rb1 "java/lang/Integer" := (((((((P83.keep R93).ext R102).keep R113).ext R122).keep R133).ext R142).keep R153)
                have Q237 : Fld Z T153.heap rb1 "java/lang/Integer" "value" "I" (.int (pb + (1 : Int32))) := (((((((P84.keep R93 (ninS nl1 (ninS nd1 nin0))).ext R102).keep R113 (ninS nl1 (ninS nd1 nin0))).ext R122).keep R133 (ninS nl1 (ninS nd1 nin0))).ext R142).keep R153 (ninS nl1 (ninS nd1 nin0)))
                have B1 : own_box Z T153.heap cl232 pb (1 : Int32) := ⟨rb1, H232.at (inb_of S232 ⟨by decide, by decide⟩) rfl, Q236, Q237⟩
                have Q238 : Exa Z T153.heap rb2 "java/lang/Integer" := (((((P104.keep R113).ext R122).keep R133).ext R142).keep R153)
                have Q239 : Fld Z T153.heap rb2 "java/lang/Integer" "value" "I" (.int (pb + (2 : Int32))) := (((((P105.keep R113 (ninS nl2 (ninS nd2 nin0))).ext R122).keep R133 (ninS nl2 (ninS nd2 nin0))).ext R142).keep R153 (ninS nl2 (ninS nd2 nin0)))
                have B2 : own_box Z T153.heap cl232 pb (2 : Int32) := ⟨rb2, H232.at (inb_of S232 ⟨by decide, by decide⟩) rfl, Q238, Q239⟩
                have Q240 : Exa Z T153.heap rb3 "java/lang/Integer" := (((P124.keep R133).ext R142).keep R153)
                have Q241 : Fld Z T153.heap rb3 "java/lang/Integer" "value" "I" (.int (pb + (3 : Int32))) := (((P125.keep R133 (ninS nl3 (ninS nd3 nin0))).ext R142).keep R153 (ninS nl3 (ninS nd3 nin0)))
                have B3 : own_box Z T153.heap cl232 pb (3 : Int32) := ⟨rb3, H232.at (inb_of S232 ⟨by decide, by decide⟩) rfl, Q240, Q241⟩
                have Q242 : Exa Z T153.heap rb4 "java/lang/Integer" := (P144.keep R153)
                have Q243 : Fld Z T153.heap rb4 "java/lang/Integer" "value" "I" (.int (pb + (4 : Int32))) := (P145.keep R153 (ninS nl4 (ninS nd4 nin0)))
                have B4 : own_box Z T153.heap cl232 pb (4 : Int32) := ⟨rb4, H232.at (inb_of S232 ⟨by decide, by decide⟩) rfl, Q242, Q243⟩
                have Q244 : Exa Z T153.heap b45 "java/util/ArrayList" := (Q148.keep R153)
                exact J181 _ _ _ (X153.mono (by decide) (by decide)) rfl N153 KP159 _ _ _ _ (by decide) Q244 P155 P156 P157 Ar232 (S232.trans rfl) (own_all5 B0 B1 B2 B3 B4)
            · skip
              refine ownStep (fun _ k => XS.icmpYes X133.here hx rfl (pc0 := 127) (pc' := 143) rfl (hb hby at_127) rfl (flt (hq4 : ¬ (4 : Int32) < nn)).2.2.2 (by decide) (by decide) k) ?_
              show ownGo p.tables e below (T133.setTop (mkF m 143 #[.val (.int pa), .val (.int pb), .val (.int pq), .val (.int nn), .val (.int sm), .val (.int pb), .val (.int cc), .val (.ref b45), .unset, .unset, .unset] [])) _
              obtain rfl : nn = (4 : Int32) := own_eqk hq3 hq4 (by decide)
              refine ownStep (fun _ k => XS.iloadN X133.here hx rfl (hb hby at_143) rfl  k) ?_
              refine ownStep (fun _ k => XS.iconst X133.here hx rfl (hb hby at_144) k) ?_
              refine ownStep (fun _ k => XS.icmpYes X133.here hx rfl (pc0 := 145) (pc' := 161) rfl (hb hby at_145) rfl (flt (by decide : ¬ (5 : Int32) < (4 : Int32))).2.2.2 (by decide) (by decide) k) ?_
              refine ownStep (fun _ k => XS.iloadN X133.here hx rfl (hb hby at_161) rfl  k) ?_
              show ownGo p.tables e below (T133.setTop (mkF m 162 #[.val (.int pa), .val (.int pb), .val (.int pq), .val (.int (4 : Int32)), .val (.int sm), .val (.int pb), .val (.int cc), .val (.ref b45), .unset, .unset, .unset] [(.int (4 : Int32))])) _
              refine ownStep (fun _ k => XS.bipush X133.here hx rfl (hb hby at_162) k) ?_
              refine ownStep (fun _ k => XS.icmpYes X133.here hx rfl (pc0 := 164) (pc' := 181) rfl (hb hby at_164) rfl (flt (by decide : ¬ (6 : Int32) < (4 : Int32))).2.2.2 (by decide) (by decide) k) ?_
              show ownGo p.tables e below (T133.setTop (mkF m 181 #[.val (.int pa), .val (.int pb), .val (.int pq), .val (.int (4 : Int32)), .val (.int sm), .val (.int pb), .val (.int cc), .val (.ref b45), .unset, .unset, .unset] [])) _
              have Vo245 := P138
              obtain ⟨cl245, Ar245, q245, S245, N245, H245, G245⟩ := Vo245
              have Q246 : Exa Z T133.heap rb0 "java/lang/Integer" := (((((((P61.keep R70).ext R81).keep R93).ext R102).keep R113).ext R122).keep R133)
              have ne247 : rb0 ≠ dd_70 := Nat.ne_of_lt (Nat.lt_of_lt_of_le (Nat.lt_of_lt_of_le P61.lt (Nat.le_refl _)) P77)
              have Q248 : Fld Z T133.heap rb0 "java/lang/Integer" "value" "I" (.int pb) := (((((((P62.keep R70 (ninS nl0 nin0)).ext R81).keep R93 (ninS nl0 (ninS ne247 nin0))).ext R102).keep R113 (ninS nl0 (ninS ne247 nin0))).ext R122).keep R133 (ninS nl0 (ninS ne247 nin0)))
              have B0 : own_box Z T133.heap cl245 pb (0 : Int32) := ⟨rb0, H245.at (inb_of S245 ⟨by decide, by decide⟩) rfl, Q246, (by rw [Int32.add_zero]; exact Q248)⟩
              have Q249 : Exa Z T133.heap rb1 "java/lang/Integer" := (((((P83.keep R93).ext R102).keep R113).ext R122).keep R133)
              have Q250 : Fld Z T133.heap rb1 "java/lang/Integer" "value" "I" (.int (pb + (1 : Int32))) := (((((P84.keep R93 (ninS nl1 (ninS nd1 nin0))).ext R102).keep R113 (ninS nl1 (ninS nd1 nin0))).ext R122).keep R133 (ninS nl1 (ninS nd1 nin0)))
              have B1 : own_box Z T133.heap cl245 pb (1 : Int32) := ⟨rb1, H245.at (inb_of S245 ⟨by decide, by decide⟩) rfl, Q249, Q250⟩
              have Q251 : Exa Z T133.heap rb2 "java/lang/Integer" := (((P104.keep R113).ext R122).keep R133)
              have Q252 : Fld Z T133.heap rb2 "java/lang/Integer" "value" "I" (.int (pb + (2 : Int32))) := (((P105.keep R113 (ninS nl2 (ninS nd2 nin0))).ext R122).keep R133 (ninS nl2 (ninS nd2 nin0)))
              have B2 : own_box Z T133.heap cl245 pb (2 : Int32) := ⟨rb2, H245.at (inb_of S245 ⟨by decide, by decide⟩) rfl, Q251, Q252⟩
              have Q253 : Exa Z T133.heap rb3 "java/lang/Integer" := (P124.keep R133)
              have Q254 : Fld Z T133.heap rb3 "java/lang/Integer" "value" "I" (.int (pb + (3 : Int32))) := (P125.keep R133 (ninS nl3 (ninS nd3 nin0)))
              have B3 : own_box Z T133.heap cl245 pb (3 : Int32) := ⟨rb3, H245.at (inb_of S245 ⟨by decide, by decide⟩) rfl, Q253, Q254⟩
              have Q255 : Exa Z T133.heap b45 "java/util/ArrayList" := (Q128.keep R133)
              exact J181 _ _ _ (X133.mono (by decide) (by decide)) rfl N133 KP139 _ _ _ _ (by decide) Q255 P135 P136 P137 Ar245 (S245.trans rfl) (own_all4 B0 B1 B2 B3)
          · skip
            refine ownStep (fun _ k => XS.icmpYes X113.here hx rfl (pc0 := 109) (pc' := 125) rfl (hb hby at_109) rfl (flt (hq3 : ¬ (3 : Int32) < nn)).2.2.2 (by decide) (by decide) k) ?_
            show ownGo p.tables e below (T113.setTop (mkF m 125 #[.val (.int pa), .val (.int pb), .val (.int pq), .val (.int nn), .val (.int sm), .val (.int pb), .val (.int cc), .val (.ref b45), .unset, .unset, .unset] [])) _
            obtain rfl : nn = (3 : Int32) := own_eqk hq2 hq3 (by decide)
            refine ownStep (fun _ k => XS.iloadN X113.here hx rfl (hb hby at_125) rfl  k) ?_
            refine ownStep (fun _ k => XS.iconst X113.here hx rfl (hb hby at_126) k) ?_
            refine ownStep (fun _ k => XS.icmpYes X113.here hx rfl (pc0 := 127) (pc' := 143) rfl (hb hby at_127) rfl (flt (by decide : ¬ (4 : Int32) < (3 : Int32))).2.2.2 (by decide) (by decide) k) ?_
            refine ownStep (fun _ k => XS.iloadN X113.here hx rfl (hb hby at_143) rfl  k) ?_
            show ownGo p.tables e below (T113.setTop (mkF m 144 #[.val (.int pa), .val (.int pb), .val (.int pq), .val (.int (3 : Int32)), .val (.int sm), .val (.int pb), .val (.int cc), .val (.ref b45), .unset, .unset, .unset] [(.int (3 : Int32))])) _
            refine ownStep (fun _ k => XS.iconst X113.here hx rfl (hb hby at_144) k) ?_
            refine ownStep (fun _ k => XS.icmpYes X113.here hx rfl (pc0 := 145) (pc' := 161) rfl (hb hby at_145) rfl (flt (by decide : ¬ (5 : Int32) < (3 : Int32))).2.2.2 (by decide) (by decide) k) ?_
            refine ownStep (fun _ k => XS.iloadN X113.here hx rfl (hb hby at_161) rfl  k) ?_
            refine ownStep (fun _ k => XS.bipush X113.here hx rfl (hb hby at_162) k) ?_
            refine ownStep (fun _ k => XS.icmpYes X113.here hx rfl (pc0 := 164) (pc' := 181) rfl (hb hby at_164) rfl (flt (by decide : ¬ (6 : Int32) < (3 : Int32))).2.2.2 (by decide) (by decide) k) ?_
            show ownGo p.tables e below (T113.setTop (mkF m 181 #[.val (.int pa), .val (.int pb), .val (.int pq), .val (.int (3 : Int32)), .val (.int sm), .val (.int pb), .val (.int cc), .val (.ref b45), .unset, .unset, .unset] [])) _
            have Vo256 := P118
            obtain ⟨cl256, Ar256, q256, S256, N256, H256, G256⟩ := Vo256
            have Q257 : Exa Z T113.heap rb0 "java/lang/Integer" := (((((P61.keep R70).ext R81).keep R93).ext R102).keep R113)
            have ne258 : rb0 ≠ dd_70 := Nat.ne_of_lt (Nat.lt_of_lt_of_le (Nat.lt_of_lt_of_le P61.lt (Nat.le_refl _)) P77)
            have Q259 : Fld Z T113.heap rb0 "java/lang/Integer" "value" "I" (.int pb) := (((((P62.keep R70 (ninS nl0 nin0)).ext R81).keep R93 (ninS nl0 (ninS ne258 nin0))).ext R102).keep R113 (ninS nl0 (ninS ne258 nin0)))
            have B0 : own_box Z T113.heap cl256 pb (0 : Int32) := ⟨rb0, H256.at (inb_of S256 ⟨by decide, by decide⟩) rfl, Q257, (by rw [Int32.add_zero]; exact Q259)⟩
            have Q260 : Exa Z T113.heap rb1 "java/lang/Integer" := (((P83.keep R93).ext R102).keep R113)
            have Q261 : Fld Z T113.heap rb1 "java/lang/Integer" "value" "I" (.int (pb + (1 : Int32))) := (((P84.keep R93 (ninS nl1 (ninS nd1 nin0))).ext R102).keep R113 (ninS nl1 (ninS nd1 nin0)))
            have B1 : own_box Z T113.heap cl256 pb (1 : Int32) := ⟨rb1, H256.at (inb_of S256 ⟨by decide, by decide⟩) rfl, Q260, Q261⟩
            have Q262 : Exa Z T113.heap rb2 "java/lang/Integer" := (P104.keep R113)
            have Q263 : Fld Z T113.heap rb2 "java/lang/Integer" "value" "I" (.int (pb + (2 : Int32))) := (P105.keep R113 (ninS nl2 (ninS nd2 nin0)))
            have B2 : own_box Z T113.heap cl256 pb (2 : Int32) := ⟨rb2, H256.at (inb_of S256 ⟨by decide, by decide⟩) rfl, Q262, Q263⟩
            have Q264 : Exa Z T113.heap b45 "java/util/ArrayList" := (Q108.keep R113)
            exact J181 _ _ _ (X113.mono (by decide) (by decide)) rfl N113 KP119 _ _ _ _ (by decide) Q264 P115 P116 P117 Ar256 (S256.trans rfl) (own_all3 B0 B1 B2)
        · skip
          refine ownStep (fun _ k => XS.icmpYes X93.here hx rfl (pc0 := 91) (pc' := 107) rfl (hb hby at_91) rfl (flt (hq2 : ¬ (2 : Int32) < nn)).2.2.2 (by decide) (by decide) k) ?_
          show ownGo p.tables e below (T93.setTop (mkF m 107 #[.val (.int pa), .val (.int pb), .val (.int pq), .val (.int nn), .val (.int sm), .val (.int pb), .val (.int cc), .val (.ref b45), .unset, .unset, .unset] [])) _
          obtain rfl : nn = (2 : Int32) := own_eqk hq1 hq2 (by decide)
          refine ownStep (fun _ k => XS.iloadN X93.here hx rfl (hb hby at_107) rfl  k) ?_
          refine ownStep (fun _ k => XS.iconst X93.here hx rfl (hb hby at_108) k) ?_
          refine ownStep (fun _ k => XS.icmpYes X93.here hx rfl (pc0 := 109) (pc' := 125) rfl (hb hby at_109) rfl (flt (by decide : ¬ (3 : Int32) < (2 : Int32))).2.2.2 (by decide) (by decide) k) ?_
          refine ownStep (fun _ k => XS.iloadN X93.here hx rfl (hb hby at_125) rfl  k) ?_
          show ownGo p.tables e below (T93.setTop (mkF m 126 #[.val (.int pa), .val (.int pb), .val (.int pq), .val (.int (2 : Int32)), .val (.int sm), .val (.int pb), .val (.int cc), .val (.ref b45), .unset, .unset, .unset] [(.int (2 : Int32))])) _
          refine ownStep (fun _ k => XS.iconst X93.here hx rfl (hb hby at_126) k) ?_
          refine ownStep (fun _ k => XS.icmpYes X93.here hx rfl (pc0 := 127) (pc' := 143) rfl (hb hby at_127) rfl (flt (by decide : ¬ (4 : Int32) < (2 : Int32))).2.2.2 (by decide) (by decide) k) ?_
          refine ownStep (fun _ k => XS.iloadN X93.here hx rfl (hb hby at_143) rfl  k) ?_
          refine ownStep (fun _ k => XS.iconst X93.here hx rfl (hb hby at_144) k) ?_
          refine ownStep (fun _ k => XS.icmpYes X93.here hx rfl (pc0 := 145) (pc' := 161) rfl (hb hby at_145) rfl (flt (by decide : ¬ (5 : Int32) < (2 : Int32))).2.2.2 (by decide) (by decide) k) ?_
          show ownGo p.tables e below (T93.setTop (mkF m 161 #[.val (.int pa), .val (.int pb), .val (.int pq), .val (.int (2 : Int32)), .val (.int sm), .val (.int pb), .val (.int cc), .val (.ref b45), .unset, .unset, .unset] [])) _
          refine ownStep (fun _ k => XS.iloadN X93.here hx rfl (hb hby at_161) rfl  k) ?_
          refine ownStep (fun _ k => XS.bipush X93.here hx rfl (hb hby at_162) k) ?_
          refine ownStep (fun _ k => XS.icmpYes X93.here hx rfl (pc0 := 164) (pc' := 181) rfl (hb hby at_164) rfl (flt (by decide : ¬ (6 : Int32) < (2 : Int32))).2.2.2 (by decide) (by decide) k) ?_
          show ownGo p.tables e below (T93.setTop (mkF m 181 #[.val (.int pa), .val (.int pb), .val (.int pq), .val (.int (2 : Int32)), .val (.int sm), .val (.int pb), .val (.int cc), .val (.ref b45), .unset, .unset, .unset] [])) _
          have Vo265 := P98
          obtain ⟨cl265, Ar265, q265, S265, N265, H265, G265⟩ := Vo265
          have Q266 : Exa Z T93.heap rb0 "java/lang/Integer" := (((P61.keep R70).ext R81).keep R93)
          have ne267 : rb0 ≠ dd_70 := Nat.ne_of_lt (Nat.lt_of_lt_of_le (Nat.lt_of_lt_of_le P61.lt (Nat.le_refl _)) P77)
          have Q268 : Fld Z T93.heap rb0 "java/lang/Integer" "value" "I" (.int pb) := (((P62.keep R70 (ninS nl0 nin0)).ext R81).keep R93 (ninS nl0 (ninS ne267 nin0)))
          have B0 : own_box Z T93.heap cl265 pb (0 : Int32) := ⟨rb0, H265.at (inb_of S265 ⟨by decide, by decide⟩) rfl, Q266, (by rw [Int32.add_zero]; exact Q268)⟩
          have Q269 : Exa Z T93.heap rb1 "java/lang/Integer" := (P83.keep R93)
          have Q270 : Fld Z T93.heap rb1 "java/lang/Integer" "value" "I" (.int (pb + (1 : Int32))) := (P84.keep R93 (ninS nl1 (ninS nd1 nin0)))
          have B1 : own_box Z T93.heap cl265 pb (1 : Int32) := ⟨rb1, H265.at (inb_of S265 ⟨by decide, by decide⟩) rfl, Q269, Q270⟩
          have Q271 : Exa Z T93.heap b45 "java/util/ArrayList" := (Q88.keep R93)
          exact J181 _ _ _ (X93.mono (by decide) (by decide)) rfl N93 KP99 _ _ _ _ (by decide) Q271 P95 P96 P97 Ar265 (S265.trans rfl) (own_all2 B0 B1)
      · skip
        refine ownStep (fun _ k => XS.icmpYes X70.here hx rfl (pc0 := 73) (pc' := 89) rfl (hb hby at_73) rfl (flt (hq1 : ¬ (1 : Int32) < nn)).2.2.2 (by decide) (by decide) k) ?_
        show ownGo p.tables e below (T70.setTop (mkF m 89 #[.val (.int pa), .val (.int pb), .val (.int pq), .val (.int nn), .val (.int sm), .val (.int pb), .val (.int cc), .val (.ref b45), .unset, .unset, .unset] [])) _
        obtain rfl : nn = (1 : Int32) := own_eqk hq0 hq1 (by decide)
        refine ownStep (fun _ k => XS.iloadN X70.here hx rfl (hb hby at_89) rfl  k) ?_
        refine ownStep (fun _ k => XS.iconst X70.here hx rfl (hb hby at_90) k) ?_
        refine ownStep (fun _ k => XS.icmpYes X70.here hx rfl (pc0 := 91) (pc' := 107) rfl (hb hby at_91) rfl (flt (by decide : ¬ (2 : Int32) < (1 : Int32))).2.2.2 (by decide) (by decide) k) ?_
        refine ownStep (fun _ k => XS.iloadN X70.here hx rfl (hb hby at_107) rfl  k) ?_
        show ownGo p.tables e below (T70.setTop (mkF m 108 #[.val (.int pa), .val (.int pb), .val (.int pq), .val (.int (1 : Int32)), .val (.int sm), .val (.int pb), .val (.int cc), .val (.ref b45), .unset, .unset, .unset] [(.int (1 : Int32))])) _
        refine ownStep (fun _ k => XS.iconst X70.here hx rfl (hb hby at_108) k) ?_
        refine ownStep (fun _ k => XS.icmpYes X70.here hx rfl (pc0 := 109) (pc' := 125) rfl (hb hby at_109) rfl (flt (by decide : ¬ (3 : Int32) < (1 : Int32))).2.2.2 (by decide) (by decide) k) ?_
        refine ownStep (fun _ k => XS.iloadN X70.here hx rfl (hb hby at_125) rfl  k) ?_
        refine ownStep (fun _ k => XS.iconst X70.here hx rfl (hb hby at_126) k) ?_
        refine ownStep (fun _ k => XS.icmpYes X70.here hx rfl (pc0 := 127) (pc' := 143) rfl (hb hby at_127) rfl (flt (by decide : ¬ (4 : Int32) < (1 : Int32))).2.2.2 (by decide) (by decide) k) ?_
        show ownGo p.tables e below (T70.setTop (mkF m 143 #[.val (.int pa), .val (.int pb), .val (.int pq), .val (.int (1 : Int32)), .val (.int sm), .val (.int pb), .val (.int cc), .val (.ref b45), .unset, .unset, .unset] [])) _
        refine ownStep (fun _ k => XS.iloadN X70.here hx rfl (hb hby at_143) rfl  k) ?_
        refine ownStep (fun _ k => XS.iconst X70.here hx rfl (hb hby at_144) k) ?_
        refine ownStep (fun _ k => XS.icmpYes X70.here hx rfl (pc0 := 145) (pc' := 161) rfl (hb hby at_145) rfl (flt (by decide : ¬ (5 : Int32) < (1 : Int32))).2.2.2 (by decide) (by decide) k) ?_
        refine ownStep (fun _ k => XS.iloadN X70.here hx rfl (hb hby at_161) rfl  k) ?_
        refine ownStep (fun _ k => XS.bipush X70.here hx rfl (hb hby at_162) k) ?_
        show ownGo p.tables e below (T70.setTop (mkF m 164 #[.val (.int pa), .val (.int pb), .val (.int pq), .val (.int (1 : Int32)), .val (.int sm), .val (.int pb), .val (.int cc), .val (.ref b45), .unset, .unset, .unset] [(.int (6 : Int32)), (.int (1 : Int32))])) _
        refine ownStep (fun _ k => XS.icmpYes X70.here hx rfl (pc0 := 164) (pc' := 181) rfl (hb hby at_164) rfl (flt (by decide : ¬ (6 : Int32) < (1 : Int32))).2.2.2 (by decide) (by decide) k) ?_
        show ownGo p.tables e below (T70.setTop (mkF m 181 #[.val (.int pa), .val (.int pb), .val (.int pq), .val (.int (1 : Int32)), .val (.int sm), .val (.int pb), .val (.int cc), .val (.ref b45), .unset, .unset, .unset] [])) _
        have Vo272 := P75
        obtain ⟨cl272, Ar272, q272, S272, N272, H272, G272⟩ := Vo272
        have Q273 : Exa Z T70.heap rb0 "java/lang/Integer" := (P61.keep R70)
        have Q274 : Fld Z T70.heap rb0 "java/lang/Integer" "value" "I" (.int pb) := (P62.keep R70 (ninS nl0 nin0))
        have B0 : own_box Z T70.heap cl272 pb (0 : Int32) := ⟨rb0, H272.at (inb_of S272 ⟨by decide, by decide⟩) rfl, Q273, (by rw [Int32.add_zero]; exact Q274)⟩
        have Q275 : Exa Z T70.heap b45 "java/util/ArrayList" := (Q66.keep R70)
        exact J181 _ _ _ (X70.mono (by decide) (by decide)) rfl N70 KP78 _ _ _ _ (by decide) Q275 P72 P73 P74 Ar272 (S272.trans rfl) (own_all1 B0)
    · skip
      refine ownStep (fun _ k => XS.ifYes X51.here hx rfl (pc0 := 57) (pc' := 71) rfl (hb hby at_57) rfl ((if0 _ _).trans (flt (hq0 : ¬ (0 : Int32) < nn)).2.2.2) (by decide) (by decide) k) ?_
      show ownGo p.tables e below (T51.setTop (mkF m 71 #[.val (.int pa), .val (.int pb), .val (.int pq), .val (.int nn), .val (.int sm), .val (.int pb), .val (.int cc), .val (.ref b45), .unset, .unset, .unset] [])) _
      obtain rfl : nn = (0 : Int32) := own_eq0 hn0 hq0
      refine ownStep (fun _ k => XS.iloadN X51.here hx rfl (hb hby at_71) rfl  k) ?_
      refine ownStep (fun _ k => XS.iconst X51.here hx rfl (hb hby at_72) k) ?_
      refine ownStep (fun _ k => XS.icmpYes X51.here hx rfl (pc0 := 73) (pc' := 89) rfl (hb hby at_73) rfl (flt (by decide : ¬ (1 : Int32) < (0 : Int32))).2.2.2 (by decide) (by decide) k) ?_
      refine ownStep (fun _ k => XS.iloadN X51.here hx rfl (hb hby at_89) rfl  k) ?_
      show ownGo p.tables e below (T51.setTop (mkF m 90 #[.val (.int pa), .val (.int pb), .val (.int pq), .val (.int (0 : Int32)), .val (.int sm), .val (.int pb), .val (.int cc), .val (.ref b45), .unset, .unset, .unset] [(.int (0 : Int32))])) _
      refine ownStep (fun _ k => XS.iconst X51.here hx rfl (hb hby at_90) k) ?_
      refine ownStep (fun _ k => XS.icmpYes X51.here hx rfl (pc0 := 91) (pc' := 107) rfl (hb hby at_91) rfl (flt (by decide : ¬ (2 : Int32) < (0 : Int32))).2.2.2 (by decide) (by decide) k) ?_
      refine ownStep (fun _ k => XS.iloadN X51.here hx rfl (hb hby at_107) rfl  k) ?_
      refine ownStep (fun _ k => XS.iconst X51.here hx rfl (hb hby at_108) k) ?_
      refine ownStep (fun _ k => XS.icmpYes X51.here hx rfl (pc0 := 109) (pc' := 125) rfl (hb hby at_109) rfl (flt (by decide : ¬ (3 : Int32) < (0 : Int32))).2.2.2 (by decide) (by decide) k) ?_
      show ownGo p.tables e below (T51.setTop (mkF m 125 #[.val (.int pa), .val (.int pb), .val (.int pq), .val (.int (0 : Int32)), .val (.int sm), .val (.int pb), .val (.int cc), .val (.ref b45), .unset, .unset, .unset] [])) _
      refine ownStep (fun _ k => XS.iloadN X51.here hx rfl (hb hby at_125) rfl  k) ?_
      refine ownStep (fun _ k => XS.iconst X51.here hx rfl (hb hby at_126) k) ?_
      refine ownStep (fun _ k => XS.icmpYes X51.here hx rfl (pc0 := 127) (pc' := 143) rfl (hb hby at_127) rfl (flt (by decide : ¬ (4 : Int32) < (0 : Int32))).2.2.2 (by decide) (by decide) k) ?_
      refine ownStep (fun _ k => XS.iloadN X51.here hx rfl (hb hby at_143) rfl  k) ?_
      refine ownStep (fun _ k => XS.iconst X51.here hx rfl (hb hby at_144) k) ?_
      show ownGo p.tables e below (T51.setTop (mkF m 145 #[.val (.int pa), .val (.int pb), .val (.int pq), .val (.int (0 : Int32)), .val (.int sm), .val (.int pb), .val (.int cc), .val (.ref b45), .unset, .unset, .unset] [(.int (5 : Int32)), (.int (0 : Int32))])) _
      refine ownStep (fun _ k => XS.icmpYes X51.here hx rfl (pc0 := 145) (pc' := 161) rfl (hb hby at_145) rfl (flt (by decide : ¬ (5 : Int32) < (0 : Int32))).2.2.2 (by decide) (by decide) k) ?_
      refine ownStep (fun _ k => XS.iloadN X51.here hx rfl (hb hby at_161) rfl  k) ?_
      refine ownStep (fun _ k => XS.bipush X51.here hx rfl (hb hby at_162) k) ?_
      refine ownStep (fun _ k => XS.icmpYes X51.here hx rfl (pc0 := 164) (pc' := 181) rfl (hb hby at_164) rfl (flt (by decide : ¬ (6 : Int32) < (0 : Int32))).2.2.2 (by decide) (by decide) k) ?_
      refine ownStep (fun _ k => XS.aload X51.here hx rfl (hb hby at_181) rfl rfl k) ?_
      show ownGo p.tables e below (T51.setTop (mkF m 183 #[.val (.int pa), .val (.int pb), .val (.int pq), .val (.int (0 : Int32)), .val (.int sm), .val (.int pb), .val (.int cc), .val (.ref b45), .unset, .unset, .unset] [(.ref b45)])) _
      refine ownStep (fun _ k => XS.iload X51.here hx rfl (hb hby at_183) rfl  k) ?_
      show ownGo p.tables e below (T51.setTop (mkF m 185 #[.val (.int pa), .val (.int pb), .val (.int pq), .val (.int (0 : Int32)), .val (.int sm), .val (.int pb), .val (.int cc), .val (.ref b45), .unset, .unset, .unset] [(.int cc), (.ref b45)])) _
      have Q276 : Old Z n0 T51.heap := (Q50.keep R51 (allS gn_b45 all0))
      have Q277 : Exa Z T51.heap b45 "java/util/ArrayList" := (A45.keep R51)
      have Zs279 : n0 ≤ T51.heap.size := Nat.le_trans Z0 KP56.1
      obtain ⟨_, _, ⟨T278, L278, k278, n278⟩, -, X278, ⟨Lc278, hQ278, l278, y278, z278⟩, st278⟩ := Jvm.LawKit.callS X51 hx (y := (⟨"com/example/circuline/circuline/storage/Insert", "split", "(Ljava/util/List;I)Ljava/util/List;"⟩ : MethodName)) hown (mvT hZ (hw _ (List.mem_of_getElem? (i := 31) rfl))) (mvT hZ (hw _ (List.mem_of_getElem? (i := 32) rfl))) (mvT hZ (hw _ (List.mem_of_getElem? (i := 33) rfl))) (mvT hZ (hw _ (List.mem_of_getElem? (i := 34) rfl))) (by decide) (backOf (W := 0) (own_split0 l Z a0 hw [] ed kd b45 (0 : Int32) cc T51.heap n0 Zs279 Q276 S Q277 P54 hcc) hZ (hw _ (List.mem_of_getElem? (i := 34) rfl)) (hw _ (List.mem_of_getElem? (i := 33) rfl)) (by decide) (by decide)) (g := (mkF m 185 #[.val (.int pa), .val (.int pb), .val (.int pq), .val (.int (0 : Int32)), .val (.int sm), .val (.int pb), .val (.int cc), .val (.ref b45), .unset, .unset, .unset] [(.int cc), (.ref b45)])) rfl (by rw [hml]; rfl) (argsL := [(.ref b45), (.int cc)]) (rest := []) (lenOf own_law_pd0 rfl) rfl (by show 2 * 0 + _ ≤ _; exact Nat.le_of_eq rfl) (hb hby at_185) (fun _ _ => ⟨rfl, rfl, (by decide : 1 + 1 ≤ _), (by decide : 3 + 3 ≤ _)⟩)
      dsimp only [Pt.U, Pt.locs, Pt.cells, Pt.slots] at X278 l278 y278 z278 st278 hQ278
      obtain rfl : k278 = 2 := y278
      obtain rfl : n278 = 6 := z278
      obtain ⟨r_, rfl, N278q, R278, P280, P281⟩ := hQ278
      have N278 : Fr n0 L278 := l278 ▸ Fr.app N51 N278q
      refine ownStep (fun _ k => st278 _ k) ?_
      have KP282 : Keep h0 T278.heap [] := KP56.ext R278
      refine ownStep (fun _ k => XS.astore X278.here hx rfl (hb hby at_188) rfl rfl (l' := #[.val (.int pa), .val (.int pb), .val (.int pq), .val (.int (0 : Int32)), .val (.int sm), .val (.int pb), .val (.int cc), .val (.ref b45), .val (.ref r_), .unset, .unset]) rfl k) ?_
      refine ownStep (fun _ k => XS.aload X278.here hx rfl (hb hby at_190) rfl rfl k) ?_
      show ownGo p.tables e below (T278.setTop (mkF m 192 #[.val (.int pa), .val (.int pb), .val (.int pq), .val (.int (0 : Int32)), .val (.int sm), .val (.int pb), .val (.int cc), .val (.ref b45), .val (.ref r_), .unset, .unset] [(.ref r_)])) _
      have Zs284 : n0 ≤ T278.heap.size := Nat.le_trans Z0 KP282.1
      obtain ⟨cq283, kq283, q283a, q283b, q283c⟩ := isOf hZ rfl P280
      obtain ⟨_, _, ⟨T283, L283, k283, n283⟩, -, X283, ⟨Lc283, hQ283, l283, y283, z283⟩, st283⟩ := X278.interfaceBack hx (xi := (⟨"java/util/List", "size", "()I"⟩ : MethodName)) (y := (⟨"java/util/ArrayList", "size", "()I"⟩ : MethodName)) hown (mvT hZ (hw _ (List.mem_of_getElem? (i := 49) rfl))) (mvT hZ (hw _ (List.mem_of_getElem? (i := 39) rfl))) (mvT hZ (hw _ (List.mem_of_getElem? (i := 40) rfl))) (mvT hZ (hw _ (List.mem_of_getElem? (i := 41) rfl))) (mvT hZ (hw _ (List.mem_of_getElem? (i := 42) rfl))) (mvT hZ (hw _ (List.mem_of_getElem? (i := 43) rfl))) (mvT hZ (hw _ (List.mem_of_getElem? (i := 44) rfl))) (mvT hZ (hw _ (List.mem_of_getElem? (i := 45) rfl))) (by decide) (backOf (W := 0) (own_asz l Z a0 hw [] r_ (0 : Int32) T278.heap n0 Zs284 P281) hZ (hw _ (List.mem_of_getElem? (i := 46) rfl)) (hw _ (List.mem_of_getElem? (i := 7) rfl)) (by decide) (by decide)) q283a q283b q283c (g := (mkF m 192 #[.val (.int pa), .val (.int pb), .val (.int pq), .val (.int (0 : Int32)), .val (.int sm), .val (.int pb), .val (.int cc), .val (.ref b45), .val (.ref r_), .unset, .unset] [(.ref r_)])) rfl (by rw [hml]; rfl) (Steps.refl _) (argsL := []) (rest := []) (lenOf own_law_pd1 rfl) rfl (by show 2 * 0 + _ ≤ _; exact Nat.le_of_eq rfl) (hb hby at_192) (fun _ _ => ⟨rfl, rfl, (by decide : 2 + 0 ≤ _), (by decide : 6 + 0 ≤ _)⟩)
      dsimp only [Pt.U, Pt.locs, Pt.cells, Pt.slots] at X283 l283 y283 z283 st283 hQ283
      obtain rfl : k283 = 2 := y283
      obtain rfl : n283 = 6 := z283
      obtain ⟨rfl, N283q, R283⟩ := hQ283
      have N283 : Fr n0 L283 := l283 ▸ Fr.app N278 N283q
      refine ownStep (fun _ k => st283.trans k) ?_
      refine ownStep (fun _ k => XS.istore X283.here hx rfl (hb hby at_197) rfl (l' := #[.val (.int pa), .val (.int pb), .val (.int pq), .val (.int (0 : Int32)), .val (.int sm), .val (.int pb), .val (.int cc), .val (.ref b45), .val (.ref r_), .val (.int (0 : Int32)), .unset]) rfl k) ?_
      refine ownStep (fun _ k => XS.iload X283.here hx rfl (hb hby at_199) rfl  k) ?_
      refine ownStep (fun _ k => XS.bipush X283.here hx rfl (hb hby at_201) k) ?_
      refine ownStep (fun _ k => XS.icmpYes X283.here hx rfl (pc0 := 203) (pc' := 208) rfl (hb hby at_203) rfl (flt (by decide : ¬ (8 : Int32) < (0 : Int32))).2.2.2 (by decide) (by decide) k) ?_
      show ownGo p.tables e below (T283.setTop (mkF m 208 #[.val (.int pa), .val (.int pb), .val (.int pq), .val (.int (0 : Int32)), .val (.int sm), .val (.int pb), .val (.int cc), .val (.ref b45), .val (.ref r_), .val (.int (0 : Int32)), .unset] [])) _
      refine ownStep (fun _ k => XS.iloadN X283.here hx rfl (hb hby at_208) rfl  k) ?_
      refine ownStep (fun _ k => XS.ifNo X283.here hx rfl (hb hby at_209) rfl ((if0 _ _).trans (teq (by decide : (0 : Int32) = (0 : Int32))).2) k) ?_
      refine ownStep (fun _ k => XS.iload X283.here hx rfl (hb hby at_212) rfl  k) ?_
      refine ownStep (fun _ k => XS.ifNo X283.here hx rfl (hb hby at_214) rfl ((if0 _ _).trans (teq (by decide : (0 : Int32) = (0 : Int32))).2) k) ?_
      refine ownStep (fun _ k => XS.iconst X283.here hx rfl (hb hby at_217) k) ?_
      show ownGo p.tables e below (T283.setTop (mkF m 218 #[.val (.int pa), .val (.int pb), .val (.int pq), .val (.int (0 : Int32)), .val (.int sm), .val (.int pb), .val (.int cc), .val (.ref b45), .val (.ref r_), .val (.int (0 : Int32)), .unset] [(.int (1 : Int32))])) _
      refine ownStep (fun _ k => XS.goto X283.here hx rfl (pc0 := 218) (pc' := 222) rfl (hb hby at_218) (by decide) (by decide) k) ?_
      show ownGo p.tables e below (T283.setTop (mkF m 222 #[.val (.int pa), .val (.int pb), .val (.int pq), .val (.int (0 : Int32)), .val (.int sm), .val (.int pb), .val (.int cc), .val (.ref b45), .val (.ref r_), .val (.int (0 : Int32)), .unset] [(.int (1 : Int32))])) _
      exact ownRet X283 (v := some (.int (1 : Int32))) Bd.notSynchronized (fun h => by rw [Bd.returns] at h; cases h) (fun _ hr => retN X283 hx (t := .boolean) Bd.returns (by simp) (hb hby at_222) hr) (by rw [R283]; exact ⟨rfl, N283, (own_extOf KP282)⟩) (by decide) (by decide)
  refine ownStep (fun _ k => XS.iloadN X0.here hx rfl (hb hby at_5) rfl  k) ?_
  refine ownStep (fun _ k => XS.bipush X0.here hx rfl (hb hby at_6) k) ?_
  refine ownStep (fun _ k => XS.iand X0.here hx rfl (hb hby at_8) rfl k) ?_
  show ownGo p.tables e below (s₁.setTop (mkF m 9 #[.val (.int pa), .val (.int pb), .val (.int pq), .val (.int nn), .unset, .unset, .unset, .unset, .unset, .unset, .unset] [(.int (pa &&& (8 : Int32)))])) _
  by_cases hc9 : (pa &&& (8 : Int32)) = (0 : Int32)
  · skip
    refine ownStep (fun _ k => XS.ifYes X0.here hx rfl (pc0 := 9) (pc' := 16) rfl (hb hby at_9) rfl ((if0 _ _).trans (teq (hc9 : (pa &&& (8 : Int32)) = (0 : Int32))).1) (by decide) (by decide) k) ?_
    refine ownStep (fun _ k => XS.iconst X0.here hx rfl (hb hby at_16) k) ?_
    refine ownStep (fun _ k => XS.istore X0.here hx rfl (hb hby at_17) rfl (l' := #[.val (.int pa), .val (.int pb), .val (.int pq), .val (.int nn), .val (.int (0 : Int32)), .unset, .unset, .unset, .unset, .unset, .unset]) rfl k) ?_
    refine ownStep (fun _ k => XS.iloadN X0.here hx rfl (hb hby at_19) rfl  k) ?_
    refine ownStep (fun _ k => XS.istore X0.here hx rfl (hb hby at_20) rfl (l' := #[.val (.int pa), .val (.int pb), .val (.int pq), .val (.int nn), .val (.int (0 : Int32)), .val (.int pb), .unset, .unset, .unset, .unset, .unset]) rfl k) ?_
    show ownGo p.tables e below (s₁.setTop (mkF m 22 #[.val (.int pa), .val (.int pb), .val (.int pq), .val (.int nn), .val (.int (0 : Int32)), .val (.int pb), .unset, .unset, .unset, .unset, .unset] [])) _
    refine ownStep (fun _ k => XS.iload X0.here hx rfl (hb hby at_22) rfl  k) ?_
    refine ownStep (fun _ k => XS.ifYes X0.here hx rfl (pc0 := 24) (pc' := 37) rfl (hb hby at_24) rfl ((if0 _ _).trans (teq (by decide : (0 : Int32) = (0 : Int32))).1) (by decide) (by decide) k) ?_
    refine ownStep (fun _ k => XS.iconst X0.here hx rfl (hb hby at_37) k) ?_
    refine ownStep (fun _ k => XS.iloadN X0.here hx rfl (hb hby at_38) rfl  k) ?_
    show ownGo p.tables e below (s₁.setTop (mkF m 39 #[.val (.int pa), .val (.int pb), .val (.int pq), .val (.int nn), .val (.int (0 : Int32)), .val (.int pb), .unset, .unset, .unset, .unset, .unset] [(.int pq), (.int (1 : Int32))])) _
    refine ownStep (X0.ldcInt hx hown (mvT hZ (hw _ (List.mem_of_getElem? (i := 0) rfl))) (g := (mkF m 39 #[.val (.int pa), .val (.int pb), .val (.int pq), .val (.int nn), .val (.int (0 : Int32)), .val (.int pb), .unset, .unset, .unset, .unset, .unset] [(.int pq), (.int (1 : Int32))])) rfl (hb hby at_39)) ?_
    refine ownStep (fun _ k => XS.iand X0.here hx rfl (hb hby at_41) rfl k) ?_
    show ownGo p.tables e below (s₁.setTop (mkF m 42 #[.val (.int pa), .val (.int pb), .val (.int pq), .val (.int nn), .val (.int (0 : Int32)), .val (.int pb), .unset, .unset, .unset, .unset, .unset] [(.int (pq &&& (2147483647 : Int32))), (.int (1 : Int32))])) _
    have Zs286 : n0 ≤ h0.size := Nat.le_trans Z0 KP0.1
    obtain ⟨_, _, ⟨T285, L285, k285, n285⟩, -, X285, ⟨Lc285, hQ285, l285, y285, z285⟩, st285⟩ := Jvm.LawKit.callS X0 hx (y := (⟨"java/lang/Math", "max", "(II)I"⟩ : MethodName)) hown (mvT hZ (hw _ (List.mem_of_getElem? (i := 1) rfl))) (mvT hZ (hw _ (List.mem_of_getElem? (i := 2) rfl))) (mvT hZ (hw _ (List.mem_of_getElem? (i := 3) rfl))) (mvT hZ (hw _ (List.mem_of_getElem? (i := 4) rfl))) (by decide) (backOf (W := 0) (own_mmax l Z a0 hw [] (1 : Int32) (pq &&& (2147483647 : Int32)) h0 n0 Zs286 ) hZ (hw _ (List.mem_of_getElem? (i := 4) rfl)) (hw _ (List.mem_of_getElem? (i := 3) rfl)) (by decide) (by decide)) (g := (mkF m 42 #[.val (.int pa), .val (.int pb), .val (.int pq), .val (.int nn), .val (.int (0 : Int32)), .val (.int pb), .unset, .unset, .unset, .unset, .unset] [(.int (pq &&& (2147483647 : Int32))), (.int (1 : Int32))])) rfl (by rw [hml]; rfl) (argsL := [(.int (1 : Int32)), (.int (pq &&& (2147483647 : Int32)))]) (rest := []) (lenOf own_law_pd6 rfl) rfl (by show 2 * 0 + _ ≤ _; exact Nat.le_of_eq rfl) (hb hby at_42) (fun _ _ => ⟨rfl, e0, (by decide : 0 + 0 ≤ _), (by decide : 0 + 0 ≤ _)⟩)
    dsimp only [Pt.U, Pt.locs, Pt.cells, Pt.slots] at X285 l285 y285 z285 st285 hQ285
    obtain rfl : k285 = 0 := y285
    obtain rfl : n285 = 0 := z285
    obtain ⟨rfl, N285q, R285⟩ := hQ285
    have N285 : Fr n0 L285 := l285 ▸ Fr.app N0 N285q
    refine ownStep (fun _ k => st285 _ k) ?_
    show ownGo p.tables e below (T285.setTop (mkF m 45 #[.val (.int pa), .val (.int pb), .val (.int pq), .val (.int nn), .val (.int (0 : Int32)), .val (.int pb), .unset, .unset, .unset, .unset, .unset] [(.int (own_max (1 : Int32) (pq &&& (2147483647 : Int32))))])) _
    exact J45 _ _ X285 R285 N285 _ _ (own_cc2 _)
  · skip
    refine ownStep (fun _ k => XS.ifNo X0.here hx rfl (hb hby at_9) rfl ((if0 _ _).trans (feq (hc9 : ¬ (pa &&& (8 : Int32)) = (0 : Int32))).1) k) ?_
    refine ownStep (fun _ k => XS.iconst X0.here hx rfl (hb hby at_12) k) ?_
    refine ownStep (fun _ k => XS.goto X0.here hx rfl (pc0 := 13) (pc' := 17) rfl (hb hby at_13) (by decide) (by decide) k) ?_
    refine ownStep (fun _ k => XS.istore X0.here hx rfl (hb hby at_17) rfl (l' := #[.val (.int pa), .val (.int pb), .val (.int pq), .val (.int nn), .val (.int (1 : Int32)), .unset, .unset, .unset, .unset, .unset, .unset]) rfl k) ?_
    refine ownStep (fun _ k => XS.iloadN X0.here hx rfl (hb hby at_19) rfl  k) ?_
    show ownGo p.tables e below (s₁.setTop (mkF m 20 #[.val (.int pa), .val (.int pb), .val (.int pq), .val (.int nn), .val (.int (1 : Int32)), .unset, .unset, .unset, .unset, .unset, .unset] [(.int pb)])) _
    refine ownStep (fun _ k => XS.istore X0.here hx rfl (hb hby at_20) rfl (l' := #[.val (.int pa), .val (.int pb), .val (.int pq), .val (.int nn), .val (.int (1 : Int32)), .val (.int pb), .unset, .unset, .unset, .unset, .unset]) rfl k) ?_
    refine ownStep (fun _ k => XS.iload X0.here hx rfl (hb hby at_22) rfl  k) ?_
    refine ownStep (fun _ k => XS.ifNo X0.here hx rfl (hb hby at_24) rfl ((if0 _ _).trans (feq (by decide : ¬ (1 : Int32) = (0 : Int32))).1) k) ?_
    refine ownStep (fun _ k => XS.iconst X0.here hx rfl (hb hby at_27) k) ?_
    refine ownStep (fun _ k => XS.iloadN X0.here hx rfl (hb hby at_28) rfl  k) ?_
    show ownGo p.tables e below (s₁.setTop (mkF m 29 #[.val (.int pa), .val (.int pb), .val (.int pq), .val (.int nn), .val (.int (1 : Int32)), .val (.int pb), .unset, .unset, .unset, .unset, .unset] [(.int pq), (.int (1 : Int32))])) _
    refine ownStep (fun _ k => XS.sipush X0.here hx rfl (hb hby at_29) k) ?_
    refine ownStep (fun _ k => XS.iand X0.here hx rfl (hb hby at_32) rfl k) ?_
    refine ownStep (fun _ k => XS.iadd X0.here hx rfl (hb hby at_33) rfl k) ?_
    refine ownStep (fun _ k => XS.goto X0.here hx rfl (pc0 := 34) (pc' := 45) rfl (hb hby at_34) (by decide) (by decide) k) ?_
    show ownGo p.tables e below (s₁.setTop (mkF m 45 #[.val (.int pa), .val (.int pb), .val (.int pq), .val (.int nn), .val (.int (1 : Int32)), .val (.int pb), .unset, .unset, .unset, .unset, .unset] [(.int ((1 : Int32) + (pq &&& (16383 : Int32))))])) _
    exact J45 _ _ X0 e0 N0 _ _ (own_cc1 _)
set_option maxRecDepth 65536 in
set_option maxHeartbeats 40000000 in
theorem comes_1 {Post : Tables → Env → Array Value → State → Outcome → State → Prop} (hpost : ∀ tb e args s v u, (limb_1_1.after args s (.returned v) u = true ∧ limb_1_2.after args s (.returned v) u = true ∧ True) → FrameEnd s (.returned v) u (Jvm.fieldLocs frame_1_writes args s ++ Jvm.arrayLocs frame_1_arrays args s ++ Jvm.staticLocs frame_1_statics s) 48 256 → Post tb e args s (.returned v) u) :
    ArmFor flags0 classFile x code maxLocals ret World_1 tables_1 room_1 Calls_1 rest_1 Pre_1 Post := by
  intro l hfl _ _ p e ha hc hk s m args below hf hA hF happ hP
  obtain ⟨hcalls, hrest, hpre⟩ := hP
  obtain ⟨-, -, -, hnamed, -, -, -, hat⟩ := (Spec.applies_iff hf).mp happ
  obtain ⟨hg, hn⟩ := and_e (Cond.before_iff.mp (show (Jvm.Cond.and given_1 narrow_1).before args s = true from hpre))
  obtain ⟨g1, g2⟩ := and_e hg
  obtain ⟨g3, g4⟩ := and_e g2
  obtain ⟨g5, g6⟩ := and_e g4
  obtain ⟨w0, w1, w2, rfl⟩ : ∃ w0 w1 w2 : Value, args = #[w0, w1, w2] := by
    have hs : args.size = 3 := by simpa [Cond.value, given_1] using g1
    obtain ⟨L⟩ := args
    match L, hs with
    | [w0, w1, w2], _ => exact ⟨w0, w1, w2, rfl⟩
  have hw := fun d (hd : d ∈ tables_1) => atoms_spec (ws := Jvm.Cond.code x code maxLocals ret :: tables_1) hat d (List.mem_cons_of_mem _ hd)
  have hfit : Fit s := fun {y c} hc i hi => by
    obtain ⟨ha, rfl⟩ := Array.getElem?_eq_some_iff.mp hc
    have q := List.all_eq_true.mp ((Array.all_eq_true_iff_forall_mem.mp hF) _ (Array.getElem_mem ha)) i (List.mem_range.mpr hi)
    simpa [Array.getElem?_eq_getElem hi] using q
  obtain ⟨hsets, hown0⟩ := atoms_of _ (rest_1_c_eq ▸ (show rest_1_c.before _ s = true from hrest))
  have hr0 := Cond.before_iff.mp hown0
  obtain ⟨i0, ei0⟩ := is_v g3
  obtain rfl : w0 = (.int i0) := Option.some.inj ei0
  obtain ⟨i1, ei1⟩ := is_v g5
  obtain rfl : w1 = (.int i1) := Option.some.inj ei1
  obtain ⟨i2, ei2⟩ := is_v g6
  obtain rfl : w2 = (.int i2) := Option.some.inj ei2
  obtain ⟨w_ed, ev_ed⟩ := arr_v (Cond.before_iff.mp (hsets _ (List.mem_of_getElem? (i := 6) rfl)))
  have S_ed := Sta.start ev_ed (Or.inr ⟨(hw _ (List.mem_of_getElem? (i := 7) rfl)), (hsets _ (List.mem_of_getElem? (i := 2) rfl))⟩)
  obtain ⟨cl_ed, A_ed⟩ := Arr.start ev_ed (Cond.before_iff.mp (hsets _ (List.mem_of_getElem? (i := 6) rfl)))
  have V_ed := own_arv0 (d := .null) A_ed (own_len0 (own_eqI (Cond.before_iff.mp (hsets _ (List.mem_of_getElem? (i := 8) rfl)))) ev_ed A_ed)
  have S_hi := Sta.start (own_eqI (Cond.before_iff.mp (hsets _ (List.mem_of_getElem? (i := 12) rfl)))) (Or.inl (hsets _ (List.mem_of_getElem? (i := 10) rfl)))
  obtain ⟨w_ca, ev_ca⟩ := arr_v (Cond.before_iff.mp (hsets _ (List.mem_of_getElem? (i := 13) rfl)))
  have S_ca := Sta.start ev_ca (Or.inr ⟨(hw _ (List.mem_of_getElem? (i := 55) rfl)), (hsets _ (List.mem_of_getElem? (i := 11) rfl))⟩)
  obtain ⟨cl_ca, A_ca⟩ := Arr.start ev_ca (Cond.before_iff.mp (hsets _ (List.mem_of_getElem? (i := 13) rfl)))
  have L_ca := own_len0 (own_eqI (Cond.before_iff.mp (hsets _ (List.mem_of_getElem? (i := 15) rfl)))) ev_ca A_ca
  have BX := Bxs.start (val := fun j => .int (j - (128 : Int32))) (fun idx => ev_ca) A_ca L_ca.1 L_ca.2 (by decide) (Cond.before_iff.mp (hsets _ (List.mem_of_getElem? (i := 16) rfl))) (fun X j hj h => eqv_i (own_idxsub hj) h)
  obtain ⟨n, o, h1, h2, h3, _, L, rfl, ⟨rfl, N, hrel⟩, hq⟩ := own_law l s _ hw tables_1 i0 i1 i2 w_ed cl_ed.cls w_ca cl_ca s.heap s.heap.size (Nat.le_refl _) (Old.start s) S_ed V_ed S_hi S_ca BX p e ha hc hk s m _ below hf ((Spec.applies_iff_loose hf).mp happ).1 ⟨rfl, State.Warmed39.refl s, rfl⟩ trivial
  refine ⟨n, _, h1, h2, h3, hpost _ _ _ _ _ _ ⟨Cond.after_iff.mpr rfl, Cond.after_iff.mpr (eq_i res_at (Term.int_eval (1)) rfl), trivial⟩ ⟨hq.1, hq.2.1, (hq.2.2.sift fun y hy => Or.inr (N y hy)).mono (by decide) (by decide)⟩⟩
theorem main_1_1 : Claimed_1_1 := comes_1 fun _ _ _ _ _ _ h hF => ⟨h.1, hF⟩
theorem main_1_2 : Claimed_1_2 := comes_1 fun _ _ _ _ _ _ h hF => ⟨h.2.1, hF⟩
end Jvm.Pilot.@@N@@
namespace Jvm.Pilot.@@N@@
open Jvm Jvm.ClassFile Sem Op Lib Jvm.Free Jvm.Stand Jvm.Pilot.@@N@@.Jvm.D
/-! MADE BY PROGRAM (witnessworld.py) out of the Statement's table words and the real class files: 29 classes; the members and pool entries that the words name. The judged class is class 1, her method 3. -/
namespace start1
open Jvm.ClassFile
def u (s : String) : CpInfo := .utf8 (stringToUtf16 s)
/-- a pool by its gaps: so many unusable entries, then the entry; so many at the end -/
def gap : Nat → List CpInfo → List CpInfo
  | 0, r => r
  | n + 1, r => .unusable :: gap n r
def poolList (es : List (Nat × CpInfo)) (last : Nat) : List CpInfo := es.foldr (fun e r => gap e.1 (e.2 :: r)) (gap last [])
def pool (es : List (Nat × CpInfo)) (last : Nat) : Array CpInfo := ⟨poolList es last⟩
def fileOf (pool : Array CpInfo) (this : Nat) (attrs : Array Attribute := #[]) (ms : Array MethodInfo := #[]) (fl : Nat := 33) (sup : Nat := 0) (ifs : Array Nat := #[]) (fds : Array FieldInfo := #[]) : ClassFile where
  minorVersion := 0
  majorVersion := 65
  constantPool := pool
  accessFlags := fl
  thisClass := this
  superClass := sup
  interfaces := ifs
  fields := fds
  methods := ms
  attributes := attrs
def plain (name : String) (sup : Option ClassId) : Class where
  name := name
  kind := .ordinary
  loader := none
  accessFlags := 33
  super := sup
  interfaces := #[]
  cf := none
  fields := #[]
  methods := #[]
  instanceTypes := #[]
  staticTypes := #[]
  resolved := #[]
  callSites := []
  init := .initialized
  statics := none
  mirror := none

def pool0 : Array CpInfo := pool [(5, u "<init>"), (0, u "()V"), (1, .class_ 10), (1, u "java/lang/Object")] 113

def k0c0 : Code := { maxStack := 0, maxLocals := 1, code := object_method_1_code, exceptionTable := #[], attributes := #[] }
def k0m0 : Method := { name := "<init>", desc := "()V", sig := { parameters := [], returnType := none }, accessFlags := 1, code := some k0c0 }
/-- java/lang/Object -/
def k0 : Class := { plain "java/lang/Object" none with
  accessFlags := 33
  interfaces := #[]
  cf := some (fileOf pool0 8 #[] #[{ accessFlags := 1, nameIndex := 5, descriptorIndex := 6, attributes := #[] }] 33 0 #[] #[])
  fields := #[]
  methods := #[k0m0]
  instanceTypes := #[]
  staticTypes := #[]
  resolved := Array.replicate 124 none
  statics := none }

def pool1 : Array CpInfo := pool [(2, .class_ 4), (0, .nameAndType 5 6), (0, u "java/lang/Object"), (0, u "<init>"), (0, u "()V"), (0, .interfaceMethodref 8 9), (0, .class_ 10), (0, .nameAndType 11 12), (0, u "java/util/List"), (0, u "size"), (0, u "()I"), (0, .interfaceMethodref 8 14), (0, .nameAndType 15 16), (0, u "get"), (0, u "(I)Ljava/lang/Object;"), (0, .class_ 18), (0, u "java/lang/Integer"), (0, .methodref 17 20), (0, .nameAndType 21 12), (0, u "intValue"), (0, .long 10000), (1, .methodref 25 26), (0, .class_ 27), (0, .nameAndType 28 29), (0, u "com/example/circuline/circuline/storage/InsertSplitPinLaw"), (0, u "runOk"), (0, u "(Ljava/util/List;II)Z"), (0, .integer 2147483647), (0, .methodref 32 33), (0, .class_ 34), (0, .nameAndType 35 36), (0, u "java/lang/Math"), (0, u "max"), (0, u "(II)I"), (0, .class_ 38), (0, u "java/util/ArrayList"), (0, .methodref 37 3), (0, .methodref 17 41), (0, .nameAndType 42 43), (0, u "valueOf"), (0, u "(I)Ljava/lang/Integer;"), (0, .methodref 37 45), (0, .nameAndType 46 47), (0, u "add"), (0, u "(Ljava/lang/Object;)Z"), (0, .methodref 49 50), (0, .class_ 51), (0, .nameAndType 52 53), (0, u "com/example/circuline/circuline/storage/Insert"), (0, u "split"), (0, u "(Ljava/util/List;I)Ljava/util/List;"), (0, .methodref 25 55), (0, .nameAndType 56 57), (0, u "step"), (0, u "(Ljava/util/List;IIIII)I"), (6, u "law"), (0, u "(III)Z")] 2

def k1m0 : Method := { name := "<init>", desc := "()V", sig := { parameters := [], returnType := none }, accessFlags := 2, code := none }
def k1c1 : Code := { maxStack := 3, maxLocals := 4, code := method_2_code, exceptionTable := #[], attributes := #[] }
def k1m1 : Method := { name := "runOk", desc := "(Ljava/util/List;II)Z", sig := { parameters := [(.object "java/util/List"), .int, .int], returnType := some .boolean }, accessFlags := 10, code := some k1c1 }
def k1c2 : Code := { maxStack := 4, maxLocals := 11, code := method_3_code, exceptionTable := #[], attributes := #[] }
def k1m2 : Method := { name := "step", desc := "(Ljava/util/List;IIIII)I", sig := { parameters := [(.object "java/util/List"), .int, .int, .int, .int, .int], returnType := some .int }, accessFlags := 10, code := some k1c2 }
def k1c3 : Code := { maxStack := 6, maxLocals := 11, code := code, exceptionTable := #[], attributes := #[] }
def k1m3 : Method := { name := "law", desc := "(III)Z", sig := { parameters := [.int, .int, .int], returnType := some .boolean }, accessFlags := 9, code := some k1c3 }
/-- com/example/circuline/circuline/storage/InsertSplitPinLaw -/
def k1 : Class := { plain "com/example/circuline/circuline/storage/InsertSplitPinLaw" (some 0) with
  accessFlags := 49
  interfaces := #[]
  cf := some (fileOf pool1 25 #[] #[{ accessFlags := 2, nameIndex := 5, descriptorIndex := 6, attributes := #[] }, { accessFlags := 10, nameIndex := 28, descriptorIndex := 29, attributes := #[] }, { accessFlags := 10, nameIndex := 56, descriptorIndex := 57, attributes := #[] }, { accessFlags := 9, nameIndex := 64, descriptorIndex := 65, attributes := #[] }] 49 2 #[] #[])
  fields := #[]
  methods := #[k1m0, k1m1, k1m2, k1m3]
  instanceTypes := #[]
  staticTypes := #[]
  resolved := Array.replicate 68 none
  statics := none }

def pool2 : Array CpInfo := pool [(1, .class_ 2), (0, u "java/lang/Math"), (1, .class_ 6), (1, u "java/lang/Object"), (0, u "<init>"), (0, u "()V"), (89, .class_ 100), (1, u "java/lang/Math$RandomNumberGeneratorHolder"), (71, u "negativeZeroFloatBits"), (0, u "J"), (2, u "negativeZeroDoubleBits"), (21, u "max"), (2, u "min"), (43, u "$assertionsDisabled"), (0, u "Z"), (88, u "(II)I"), (2, u "twoToTheDoubleScaleDown"), (0, u "D"), (4, u "twoToTheDoubleScaleUp"), (9, u "E"), (3, u "PI"), (2, u "TAU"), (2, u "DEGREES_TO_RADIANS"), (0, u "RADIANS_TO_DEGREES")] 94

def k2m0 : Method := { name := "<init>", desc := "()V", sig := { parameters := [], returnType := none }, accessFlags := 2, code := none }
def k2c1 : Code := { maxStack := 2, maxLocals := 2, code := jdk_29_method_65_code, exceptionTable := #[], attributes := #[] }
def k2m1 : Method := { name := "max", desc := "(II)I", sig := { parameters := [.int, .int], returnType := some .int }, accessFlags := 9, code := some k2c1 }
def k2c2 : Code := { maxStack := 2, maxLocals := 2, code := jdk_29_method_69_code, exceptionTable := #[], attributes := #[] }
def k2m2 : Method := { name := "min", desc := "(II)I", sig := { parameters := [.int, .int], returnType := some .int }, accessFlags := 9, code := some k2c2 }
/-- java/lang/Math -/
def k2 : Class := { plain "java/lang/Math" (some 0) with
  accessFlags := 49
  interfaces := #[]
  cf := some (fileOf pool2 1 #[.nestMembers #[98]] #[{ accessFlags := 2, nameIndex := 7, descriptorIndex := 8, attributes := #[] }, { accessFlags := 9, nameIndex := 198, descriptorIndex := 335, attributes := #[] }, { accessFlags := 9, nameIndex := 201, descriptorIndex := 335, attributes := #[] }] 49 4 #[] #[{ accessFlags := 25, nameIndex := 354, descriptorIndex := 339, attributes := #[] }, { accessFlags := 25, nameIndex := 358, descriptorIndex := 339, attributes := #[] }, { accessFlags := 25, nameIndex := 361, descriptorIndex := 339, attributes := #[] }, { accessFlags := 26, nameIndex := 364, descriptorIndex := 339, attributes := #[] }, { accessFlags := 26, nameIndex := 365, descriptorIndex := 339, attributes := #[] }, { accessFlags := 26, nameIndex := 172, descriptorIndex := 173, attributes := #[] }, { accessFlags := 26, nameIndex := 176, descriptorIndex := 173, attributes := #[] }, { accessFlags := 8, nameIndex := 344, descriptorIndex := 339, attributes := #[] }, { accessFlags := 8, nameIndex := 338, descriptorIndex := 339, attributes := #[] }, { accessFlags := 4120, nameIndex := 245, descriptorIndex := 246, attributes := #[] }])
  fields := #[{ name := "E", type := .double, accessFlags := 25, slot := 0, constantValue := 0 }, { name := "PI", type := .double, accessFlags := 25, slot := 1, constantValue := 0 }, { name := "TAU", type := .double, accessFlags := 25, slot := 2, constantValue := 0 }, { name := "DEGREES_TO_RADIANS", type := .double, accessFlags := 26, slot := 3, constantValue := 0 }, { name := "RADIANS_TO_DEGREES", type := .double, accessFlags := 26, slot := 4, constantValue := 0 }, { name := "negativeZeroFloatBits", type := .long, accessFlags := 26, slot := 5, constantValue := 0 }, { name := "negativeZeroDoubleBits", type := .long, accessFlags := 26, slot := 6, constantValue := 0 }, { name := "twoToTheDoubleScaleUp", type := .double, accessFlags := 8, slot := 7, constantValue := 0 }, { name := "twoToTheDoubleScaleDown", type := .double, accessFlags := 8, slot := 8, constantValue := 0 }, { name := "$assertionsDisabled", type := .boolean, accessFlags := 4120, slot := 9, constantValue := 0 }]
  methods := #[k2m0, k2m1, k2m2]
  instanceTypes := #[]
  staticTypes := #[.double, .double, .double, .double, .double, .long, .long, .double, .double, .boolean]
  resolved := Array.replicate 460 none
  statics := none }

def pool3 : Array CpInfo := pool [(8, .class_ 10), (1, u "java/lang/Iterable"), (24, .class_ 36), (0, u "java/lang/Object")] 25

/-- java/lang/Iterable -/
def k3 : Class := { plain "java/lang/Iterable" (some 0) with
  accessFlags := 1537
  interfaces := #[]
  cf := some (fileOf pool3 8 #[] #[] 1537 35 #[] #[])
  fields := #[]
  methods := #[]
  instanceTypes := #[]
  staticTypes := #[]
  resolved := Array.replicate 62 none
  statics := none }

def pool4 : Array CpInfo := pool [(10, .class_ 12), (1, u "java/util/Collection"), (47, .class_ 61), (0, u "java/lang/Object"), (0, .class_ 63), (0, u "java/lang/Iterable")] 51

/-- java/util/Collection -/
def k4 : Class := { plain "java/util/Collection" (some 0) with
  accessFlags := 1537
  interfaces := #[3]
  cf := some (fileOf pool4 10 #[] #[] 1537 60 #[62] #[])
  fields := #[]
  methods := #[]
  instanceTypes := #[]
  staticTypes := #[]
  resolved := Array.replicate 115 none
  statics := none }

def pool5 : Array CpInfo := pool [(1, .methodref 2 3), (0, .class_ 4), (0, .nameAndType 5 6), (0, u "java/lang/Object"), (0, u "<init>"), (0, u "()V"), (1, .class_ 10), (1, u "java/util/AbstractCollection"), (66, .class_ 78), (0, u "java/util/Collection")] 81

def k5c0 : Code := { maxStack := 1, maxLocals := 1, code := jdk_22_method_1_code, exceptionTable := #[], attributes := #[] }
def k5m0 : Method := { name := "<init>", desc := "()V", sig := { parameters := [], returnType := none }, accessFlags := 4, code := some k5c0 }
/-- java/util/AbstractCollection -/
def k5 : Class := { plain "java/util/AbstractCollection" (some 0) with
  accessFlags := 1057
  interfaces := #[4]
  cf := some (fileOf pool5 8 #[] #[{ accessFlags := 4, nameIndex := 5, descriptorIndex := 6, attributes := #[] }] 1057 2 #[77] #[])
  fields := #[]
  methods := #[k5m0]
  instanceTypes := #[]
  staticTypes := #[]
  resolved := Array.replicate 160 none
  statics := none }

def pool6 : Array CpInfo := pool [(8, .class_ 10), (1, u "java/util/SequencedCollection"), (15, .class_ 27), (0, u "java/lang/Object"), (0, .class_ 29), (0, u "java/util/Collection")] 27

/-- java/util/SequencedCollection -/
def k6 : Class := { plain "java/util/SequencedCollection" (some 0) with
  accessFlags := 1537
  interfaces := #[4]
  cf := some (fileOf pool6 8 #[] #[] 1537 26 #[28] #[])
  fields := #[]
  methods := #[]
  instanceTypes := #[]
  staticTypes := #[]
  resolved := Array.replicate 57 none
  statics := none }

def pool7 : Array CpInfo := pool [(8, .class_ 10), (1, u "java/util/List"), (49, u "add"), (3, u "(Ljava/lang/Object;)Z"), (10, u "get"), (0, u "(I)Ljava/lang/Object;"), (2, u "size"), (0, u "()I"), (22, .class_ 104), (0, u "java/lang/Object"), (15, .class_ 121), (0, u "java/util/SequencedCollection"), (60, u "subList"), (0, u "(II)Ljava/util/List;")] 67

def k7m0 : Method := { name := "size", desc := "()I", sig := { parameters := [], returnType := some .int }, accessFlags := 1025, code := none }
def k7m1 : Method := { name := "add", desc := "(Ljava/lang/Object;)Z", sig := { parameters := [(.object "java/lang/Object")], returnType := some .boolean }, accessFlags := 1025, code := none }
def k7m2 : Method := { name := "get", desc := "(I)Ljava/lang/Object;", sig := { parameters := [.int], returnType := some (.object "java/lang/Object") }, accessFlags := 1025, code := none }
def k7m3 : Method := { name := "subList", desc := "(II)Ljava/util/List;", sig := { parameters := [.int, .int], returnType := some (.object "java/util/List") }, accessFlags := 1025, code := none }
/-- java/util/List -/
def k7 : Class := { plain "java/util/List" (some 0) with
  accessFlags := 1537
  interfaces := #[6]
  cf := some (fileOf pool7 8 #[] #[{ accessFlags := 1025, nameIndex := 79, descriptorIndex := 80, attributes := #[] }, { accessFlags := 1025, nameIndex := 60, descriptorIndex := 64, attributes := #[] }, { accessFlags := 1025, nameIndex := 75, descriptorIndex := 76, attributes := #[] }, { accessFlags := 1025, nameIndex := 182, descriptorIndex := 183, attributes := #[] }] 1537 103 #[120] #[])
  fields := #[]
  methods := #[k7m0, k7m1, k7m2, k7m3]
  instanceTypes := #[]
  staticTypes := #[]
  resolved := Array.replicate 251 none
  statics := none }

def pool8 : Array CpInfo := pool [(1, .methodref 2 3), (0, .class_ 4), (0, .nameAndType 5 6), (0, u "java/util/AbstractCollection"), (0, u "<init>"), (0, u "()V"), (0, .fieldref 8 9), (0, .class_ 10), (0, .nameAndType 11 12), (0, u "java/util/AbstractList"), (0, u "modCount"), (0, u "I"), (64, .class_ 78), (0, u "java/util/AbstractList$Itr"), (3, .class_ 83), (0, u "java/util/AbstractList$ListItr"), (5, u "subListRangeCheck"), (0, u "(III)V"), (2, .class_ 94), (0, u "java/util/AbstractList$RandomAccessSubList"), (3, .class_ 99), (0, u "java/util/AbstractList$SubList"), (33, .class_ 134), (0, u "java/util/List"), (73, .class_ 209), (0, u "java/util/AbstractList$SubList$1"), (0, .class_ 211), (0, u "java/util/AbstractList$RandomAccessSpliterator")] 6

def k8c0 : Code := { maxStack := 2, maxLocals := 1, code := jdk_39_method_1_code, exceptionTable := #[], attributes := #[] }
def k8m0 : Method := { name := "<init>", desc := "()V", sig := { parameters := [], returnType := none }, accessFlags := 4, code := some k8c0 }
def k8c1 : Code := { maxStack := 4, maxLocals := 3, code := jdk_39_method_15_code, exceptionTable := #[], attributes := #[] }
def k8m1 : Method := { name := "subListRangeCheck", desc := "(III)V", sig := { parameters := [.int, .int, .int], returnType := none }, accessFlags := 8, code := some k8c1 }
/-- java/util/AbstractList -/
def k8 : Class := { plain "java/util/AbstractList" (some 5) with
  accessFlags := 1057
  interfaces := #[7]
  cf := some (fileOf pool8 8 #[.nestMembers #[93, 98, 208, 210, 82, 77]] #[{ accessFlags := 4, nameIndex := 5, descriptorIndex := 6, attributes := #[] }, { accessFlags := 8, nameIndex := 89, descriptorIndex := 90, attributes := #[] }] 1057 2 #[133] #[{ accessFlags := 132, nameIndex := 11, descriptorIndex := 12, attributes := #[] }])
  fields := #[{ name := "modCount", type := .int, accessFlags := 132, slot := 0, constantValue := 0 }]
  methods := #[k8m0, k8m1]
  instanceTypes := #[.int]
  staticTypes := #[]
  resolved := Array.replicate 218 none
  statics := none }

def pool9 : Array CpInfo := pool [(1, .class_ 2), (0, u "java/util/RandomAccess"), (0, .class_ 4), (0, u "java/lang/Object")] 2

/-- java/util/RandomAccess -/
def k9 : Class := { plain "java/util/RandomAccess" (some 0) with
  accessFlags := 1537
  interfaces := #[]
  cf := some (fileOf pool9 1 #[] #[] 1537 3 #[] #[])
  fields := #[]
  methods := #[]
  instanceTypes := #[]
  staticTypes := #[]
  resolved := Array.replicate 7 none
  statics := none }

def pool10 : Array CpInfo := pool [(1, .class_ 2), (0, u "java/lang/Cloneable"), (0, .class_ 4), (0, u "java/lang/Object")] 2

/-- java/lang/Cloneable -/
def k10 : Class := { plain "java/lang/Cloneable" (some 0) with
  accessFlags := 1537
  interfaces := #[]
  cf := some (fileOf pool10 1 #[] #[] 1537 3 #[] #[])
  fields := #[]
  methods := #[]
  instanceTypes := #[]
  staticTypes := #[]
  resolved := Array.replicate 7 none
  statics := none }

def pool11 : Array CpInfo := pool [(1, .class_ 2), (0, u "java/io/Serializable"), (0, .class_ 4), (0, u "java/lang/Object")] 2

/-- java/io/Serializable -/
def k11 : Class := { plain "java/io/Serializable" (some 0) with
  accessFlags := 1537
  interfaces := #[]
  cf := some (fileOf pool11 1 #[] #[] 1537 3 #[] #[])
  fields := #[]
  methods := #[]
  instanceTypes := #[]
  staticTypes := #[]
  resolved := Array.replicate 7 none
  statics := none }

def pool12 : Array CpInfo := pool [(1, .methodref 2 3), (0, .class_ 4), (0, .nameAndType 5 6), (0, u "java/util/AbstractList"), (0, u "<init>"), (0, u "()V"), (0, .class_ 8), (0, u "java/lang/Object"), (0, .fieldref 10 11), (0, .class_ 12), (0, .nameAndType 13 14), (0, u "java/util/ArrayList"), (0, u "elementData"), (0, u "[Ljava/lang/Object;"), (2, u "EMPTY_ELEMENTDATA"), (21, .fieldref 10 40), (0, .nameAndType 41 14), (0, u "DEFAULTCAPACITY_EMPTY_ELEMENTDATA"), (5, u "()[Ljava/lang/Object;"), (0, .fieldref 10 49), (0, .nameAndType 50 51), (0, u "size"), (0, u "I"), (11, .fieldref 10 64), (0, .nameAndType 65 51), (0, u "modCount"), (3, .methodref 10 70), (0, .nameAndType 71 72), (0, u "grow"), (0, u "(I)[Ljava/lang/Object;"), (6, .methodref 80 81), (0, .class_ 82), (0, .nameAndType 83 84), (0, u "java/lang/Math"), (0, u "max"), (0, u "(II)I"), (11, u "(Ljava/lang/Object;)Z"), (21, .methodref 119 120), (0, .class_ 121), (0, .nameAndType 122 84), (0, u "java/util/Objects"), (0, u "checkIndex"), (0, .methodref 10 124), (0, .nameAndType 13 125), (0, u "(I)Ljava/lang/Object;"), (3, .methodref 10 130), (0, .nameAndType 71 47), (0, .methodref 10 132), (0, .nameAndType 133 134), (0, u "add"), (0, u "(Ljava/lang/Object;[Ljava/lang/Object;I)V"), (13, .class_ 149), (0, u "java/util/List"), (36, u "()I"), (75, .class_ 263), (0, u "java/util/ArrayList$ListItr"), (3, .class_ 268), (0, u "java/util/ArrayList$Itr"), (3, .methodref 10 273), (0, .nameAndType 274 275), (0, u "subListRangeCheck"), (0, u "(III)V"), (0, .class_ 277), (0, u "java/util/ArrayList$SubList"), (0, .methodref 276 279), (0, .nameAndType 5 280), (0, u "(Ljava/util/ArrayList;II)V"), (9, .class_ 291), (0, u "java/util/ArrayList$ArrayListSpliterator"), (37, .class_ 330), (0, u "java/util/RandomAccess"), (0, .class_ 332), (0, u "java/lang/Cloneable"), (0, .class_ 334), (0, u "java/io/Serializable"), (0, u "serialVersionUID"), (0, u "J"), (3, u "DEFAULT_CAPACITY"), (40, u "get"), (77, u "subList"), (0, u "(II)Ljava/util/List;"), (39, .class_ 501), (0, u "java/util/ArrayList$SubList$2"), (0, .class_ 503), (0, u "java/util/ArrayList$SubList$1")] 5

def k12c0 : Code := { maxStack := 2, maxLocals := 1, code := jdk_38_method_2_code, exceptionTable := #[], attributes := #[] }
def k12m0 : Method := { name := "<init>", desc := "()V", sig := { parameters := [], returnType := none }, accessFlags := 1, code := some k12c0 }
def k12c1 : Code := { maxStack := 4, maxLocals := 4, code := jdk_38_method_6_code, exceptionTable := #[], attributes := #[] }
def k12m1 : Method := { name := "grow", desc := "(I)[Ljava/lang/Object;", sig := { parameters := [.int], returnType := some (.array (.object "java/lang/Object")) }, accessFlags := 2, code := some k12c1 }
def k12c2 : Code := { maxStack := 3, maxLocals := 1, code := jdk_38_method_7_code, exceptionTable := #[], attributes := #[] }
def k12m2 : Method := { name := "grow", desc := "()[Ljava/lang/Object;", sig := { parameters := [], returnType := some (.array (.object "java/lang/Object")) }, accessFlags := 2, code := some k12c2 }
def k12c3 : Code := { maxStack := 1, maxLocals := 1, code := jdk_38_method_8_code, exceptionTable := #[], attributes := #[] }
def k12m3 : Method := { name := "size", desc := "()I", sig := { parameters := [], returnType := some .int }, accessFlags := 1, code := some k12c3 }
def k12c4 : Code := { maxStack := 2, maxLocals := 2, code := jdk_38_method_18_code, exceptionTable := #[], attributes := #[] }
def k12m4 : Method := { name := "elementData", desc := "(I)Ljava/lang/Object;", sig := { parameters := [.int], returnType := some (.object "java/lang/Object") }, accessFlags := 0, code := some k12c4 }
def k12c5 : Code := { maxStack := 2, maxLocals := 2, code := jdk_38_method_20_code, exceptionTable := #[], attributes := #[] }
def k12m5 : Method := { name := "get", desc := "(I)Ljava/lang/Object;", sig := { parameters := [.int], returnType := some (.object "java/lang/Object") }, accessFlags := 1, code := some k12c5 }
def k12c6 : Code := { maxStack := 3, maxLocals := 4, code := jdk_38_method_24_code, exceptionTable := #[], attributes := #[] }
def k12m6 : Method := { name := "add", desc := "(Ljava/lang/Object;[Ljava/lang/Object;I)V", sig := { parameters := [(.object "java/lang/Object"), (.array (.object "java/lang/Object")), .int], returnType := none }, accessFlags := 2, code := some k12c6 }
def k12c7 : Code := { maxStack := 4, maxLocals := 2, code := jdk_38_method_25_code, exceptionTable := #[], attributes := #[] }
def k12m7 : Method := { name := "add", desc := "(Ljava/lang/Object;)Z", sig := { parameters := [(.object "java/lang/Object")], returnType := some .boolean }, accessFlags := 1, code := some k12c7 }
def k12c8 : Code := { maxStack := 5, maxLocals := 3, code := jdk_38_method_56_code, exceptionTable := #[], attributes := #[] }
def k12m8 : Method := { name := "subList", desc := "(II)Ljava/util/List;", sig := { parameters := [.int, .int], returnType := some (.object "java/util/List") }, accessFlags := 1, code := some k12c8 }
/-- java/util/ArrayList -/
def k12 : Class := { plain "java/util/ArrayList" (some 8) with
  accessFlags := 33
  interfaces := #[7, 9, 10, 11]
  cf := some (fileOf pool12 10 #[.nestMembers #[290, 276, 500, 502, 262, 267]] #[{ accessFlags := 1, nameIndex := 5, descriptorIndex := 6, attributes := #[] }, { accessFlags := 2, nameIndex := 71, descriptorIndex := 72, attributes := #[] }, { accessFlags := 2, nameIndex := 71, descriptorIndex := 47, attributes := #[] }, { accessFlags := 1, nameIndex := 50, descriptorIndex := 186, attributes := #[] }, { accessFlags := 0, nameIndex := 13, descriptorIndex := 125, attributes := #[] }, { accessFlags := 1, nameIndex := 381, descriptorIndex := 125, attributes := #[] }, { accessFlags := 2, nameIndex := 133, descriptorIndex := 134, attributes := #[] }, { accessFlags := 1, nameIndex := 133, descriptorIndex := 96, attributes := #[] }, { accessFlags := 1, nameIndex := 459, descriptorIndex := 460, attributes := #[] }] 33 2 #[148, 329, 331, 333] #[{ accessFlags := 26, nameIndex := 335, descriptorIndex := 336, attributes := #[] }, { accessFlags := 26, nameIndex := 340, descriptorIndex := 51, attributes := #[] }, { accessFlags := 26, nameIndex := 17, descriptorIndex := 14, attributes := #[] }, { accessFlags := 26, nameIndex := 41, descriptorIndex := 14, attributes := #[] }, { accessFlags := 128, nameIndex := 13, descriptorIndex := 14, attributes := #[] }, { accessFlags := 2, nameIndex := 50, descriptorIndex := 51, attributes := #[] }])
  fields := #[{ name := "serialVersionUID", type := .long, accessFlags := 26, slot := 0, constantValue := 0 }, { name := "DEFAULT_CAPACITY", type := .int, accessFlags := 26, slot := 1, constantValue := 0 }, { name := "EMPTY_ELEMENTDATA", type := (.array (.object "java/lang/Object")), accessFlags := 26, slot := 2, constantValue := 0 }, { name := "DEFAULTCAPACITY_EMPTY_ELEMENTDATA", type := (.array (.object "java/lang/Object")), accessFlags := 26, slot := 3, constantValue := 0 }, { name := "elementData", type := (.array (.object "java/lang/Object")), accessFlags := 128, slot := 1, constantValue := 0 }, { name := "size", type := .int, accessFlags := 2, slot := 2, constantValue := 0 }]
  methods := #[k12m0, k12m1, k12m2, k12m3, k12m4, k12m5, k12m6, k12m7, k12m8]
  instanceTypes := #[.int, (.array (.object "java/lang/Object")), .int]
  staticTypes := #[.long, .int, (.array (.object "java/lang/Object")), (.array (.object "java/lang/Object"))]
  resolved := Array.replicate 509 none
  statics := some 0 }

def pool13 : Array CpInfo := pool [(2, .class_ 4), (0, .nameAndType 5 6), (0, u "java/lang/Object"), (0, u "<init>"), (0, u "()V"), (0, .class_ 8), (0, u "com/example/circuline/circuline/storage/Insert"), (0, .methodref 10 11), (0, .class_ 12), (0, .nameAndType 13 14), (0, u "java/lang/Math"), (0, u "max"), (0, u "(II)I"), (0, .class_ 16), (0, u "java/util/ArrayList"), (0, .methodref 15 3), (0, .interfaceMethodref 19 20), (0, .class_ 21), (0, .nameAndType 22 23), (0, u "java/util/List"), (0, u "size"), (0, u "()I"), (0, .methodref 10 25), (0, .nameAndType 26 14), (0, u "min"), (0, .interfaceMethodref 19 28), (0, .nameAndType 29 30), (0, u "subList"), (0, u "(II)Ljava/util/List;"), (0, .interfaceMethodref 19 32), (0, .nameAndType 33 34), (0, u "add"), (0, u "(Ljava/lang/Object;)Z"), (23, u "PARAMETERS"), (0, u "I"), (4, u "split"), (0, u "(Ljava/util/List;I)Ljava/util/List;")] 25

def k13m0 : Method := { name := "<init>", desc := "()V", sig := { parameters := [], returnType := none }, accessFlags := 2, code := none }
def k13c1 : Code := { maxStack := 6, maxLocals := 5, code := prog_17_method_2_code, exceptionTable := #[], attributes := #[] }
def k13m1 : Method := { name := "split", desc := "(Ljava/util/List;I)Ljava/util/List;", sig := { parameters := [(.object "java/util/List"), .int], returnType := some (.object "java/util/List") }, accessFlags := 8, code := some k13c1 }
/-- com/example/circuline/circuline/storage/Insert -/
def k13 : Class := { plain "com/example/circuline/circuline/storage/Insert" (some 0) with
  accessFlags := 48
  interfaces := #[]
  cf := some (fileOf pool13 7 #[] #[{ accessFlags := 2, nameIndex := 5, descriptorIndex := 6, attributes := #[] }, { accessFlags := 8, nameIndex := 64, descriptorIndex := 65, attributes := #[] }] 48 2 #[] #[{ accessFlags := 26, nameIndex := 58, descriptorIndex := 59, attributes := #[] }])
  fields := #[{ name := "PARAMETERS", type := .int, accessFlags := 26, slot := 0, constantValue := 0 }]
  methods := #[k13m0, k13m1]
  instanceTypes := #[]
  staticTypes := #[.int]
  resolved := Array.replicate 91 none
  statics := none }

def pool14 : Array CpInfo := pool [(1, .methodref 2 3), (0, .class_ 4), (0, .nameAndType 5 6), (0, u "java/lang/Object"), (0, u "<init>"), (0, u "()V"), (1, .class_ 10), (1, u "java/lang/Number"), (2, .class_ 14), (0, u "java/io/Serializable"), (0, u "serialVersionUID"), (0, u "J")] 20

def k14c0 : Code := { maxStack := 1, maxLocals := 1, code := jdk_18_method_1_code, exceptionTable := #[], attributes := #[] }
def k14m0 : Method := { name := "<init>", desc := "()V", sig := { parameters := [], returnType := none }, accessFlags := 1, code := some k14c0 }
/-- java/lang/Number -/
def k14 : Class := { plain "java/lang/Number" (some 0) with
  accessFlags := 1057
  interfaces := #[11]
  cf := some (fileOf pool14 8 #[] #[{ accessFlags := 1, nameIndex := 5, descriptorIndex := 6, attributes := #[] }] 1057 2 #[13] #[{ accessFlags := 26, nameIndex := 15, descriptorIndex := 16, attributes := #[] }])
  fields := #[{ name := "serialVersionUID", type := .long, accessFlags := 26, slot := 0, constantValue := 0 }]
  methods := #[k14m0]
  instanceTypes := #[]
  staticTypes := #[.long]
  resolved := Array.replicate 37 none
  statics := none }

def pool15 : Array CpInfo := pool [(1, .class_ 2), (0, u "java/lang/Comparable"), (0, .class_ 4), (0, u "java/lang/Object")] 7

/-- java/lang/Comparable -/
def k15 : Class := { plain "java/lang/Comparable" (some 0) with
  accessFlags := 1537
  interfaces := #[]
  cf := some (fileOf pool15 1 #[] #[] 1537 3 #[] #[])
  fields := #[]
  methods := #[]
  instanceTypes := #[]
  staticTypes := #[]
  resolved := Array.replicate 12 none
  statics := none }

def pool16 : Array CpInfo := pool [(1, .class_ 2), (0, u "java/lang/constant/Constable"), (0, .class_ 4), (0, u "java/lang/Object")] 6

/-- java/lang/constant/Constable -/
def k16 : Class := { plain "java/lang/constant/Constable" (some 0) with
  accessFlags := 1537
  interfaces := #[]
  cf := some (fileOf pool16 1 #[] #[] 1537 3 #[] #[])
  fields := #[]
  methods := #[]
  instanceTypes := #[]
  staticTypes := #[]
  resolved := Array.replicate 11 none
  statics := none }

def pool17 : Array CpInfo := pool [(1, .class_ 2), (0, u "java/lang/constant/ConstantDesc"), (0, .class_ 4), (0, u "java/lang/Object")] 32

/-- java/lang/constant/ConstantDesc -/
def k17 : Class := { plain "java/lang/constant/ConstantDesc" (some 0) with
  accessFlags := 1537
  interfaces := #[]
  cf := some (fileOf pool17 1 #[] #[] 1537 3 #[] #[])
  fields := #[]
  methods := #[]
  instanceTypes := #[]
  staticTypes := #[]
  resolved := Array.replicate 37 none
  statics := none }

def pool18 : Array CpInfo := pool [(1, .class_ 2), (0, u "java/lang/Integer"), (16, u "digits"), (0, u "[C"), (46, u "<init>"), (17, u "DigitOnes"), (0, u "[B"), (2, u "DigitTens"), (10, .nameAndType 67 101), (0, u "()V"), (19, u "()I"), (65, u "valueOf"), (0, u "(I)Ljava/lang/Integer;"), (0, .class_ 190), (0, u "java/lang/Integer$IntegerCache"), (0, .fieldref 189 192), (0, .nameAndType 193 194), (0, u "high"), (0, u "I"), (0, .fieldref 189 196), (0, .nameAndType 197 198), (0, u "cache"), (0, u "[Ljava/lang/Integer;"), (0, .methodref 1 200), (0, .nameAndType 67 201), (0, u "(I)V"), (0, .methodref 203 100), (0, .class_ 204), (0, u "java/lang/Number"), (0, .fieldref 1 206), (0, .nameAndType 207 194), (0, u "value"), (5, u "intValue"), (88, u "TYPE"), (0, u "Ljava/lang/Class;"), (0, .class_ 305), (0, u "java/lang/Comparable"), (0, .class_ 307), (0, u "java/lang/constant/Constable"), (0, .class_ 309), (0, u "java/lang/constant/ConstantDesc"), (0, u "MIN_VALUE"), (1, u "MAX_VALUE"), (3, u "SIZE"), (1, u "BYTES"), (1, u "serialVersionUID"), (0, u "J")] 131

def k18c0 : Code := { maxStack := 3, maxLocals := 1, code := jdk_33_method_22_code, exceptionTable := #[], attributes := #[] }
def k18m0 : Method := { name := "valueOf", desc := "(I)Ljava/lang/Integer;", sig := { parameters := [.int], returnType := some (.object "java/lang/Integer") }, accessFlags := 9, code := some k18c0 }
def k18c1 : Code := { maxStack := 2, maxLocals := 2, code := jdk_33_method_23_code, exceptionTable := #[], attributes := #[] }
def k18m1 : Method := { name := "<init>", desc := "(I)V", sig := { parameters := [.int], returnType := none }, accessFlags := 1, code := some k18c1 }
def k18c2 : Code := { maxStack := 1, maxLocals := 1, code := jdk_33_method_27_code, exceptionTable := #[], attributes := #[] }
def k18m2 : Method := { name := "intValue", desc := "()I", sig := { parameters := [], returnType := some .int }, accessFlags := 1, code := some k18c2 }
/-- java/lang/Integer -/
def k18 : Class := { plain "java/lang/Integer" (some 14) with
  accessFlags := 49
  interfaces := #[15, 16, 17]
  cf := some (fileOf pool18 1 #[.nestMembers #[189]] #[{ accessFlags := 9, nameIndex := 187, descriptorIndex := 188, attributes := #[] }, { accessFlags := 1, nameIndex := 67, descriptorIndex := 201, attributes := #[] }, { accessFlags := 1, nameIndex := 213, descriptorIndex := 121, attributes := #[] }] 49 203 #[304, 306, 308] #[{ accessFlags := 25, nameIndex := 310, descriptorIndex := 194, attributes := #[] }, { accessFlags := 25, nameIndex := 312, descriptorIndex := 194, attributes := #[] }, { accessFlags := 25, nameIndex := 302, descriptorIndex := 303, attributes := #[] }, { accessFlags := 24, nameIndex := 19, descriptorIndex := 20, attributes := #[] }, { accessFlags := 24, nameIndex := 89, descriptorIndex := 86, attributes := #[] }, { accessFlags := 24, nameIndex := 85, descriptorIndex := 86, attributes := #[] }, { accessFlags := 18, nameIndex := 207, descriptorIndex := 194, attributes := #[] }, { accessFlags := 25, nameIndex := 316, descriptorIndex := 194, attributes := #[] }, { accessFlags := 25, nameIndex := 318, descriptorIndex := 194, attributes := #[] }, { accessFlags := 26, nameIndex := 320, descriptorIndex := 321, attributes := #[] }])
  fields := #[{ name := "MIN_VALUE", type := .int, accessFlags := 25, slot := 0, constantValue := 0 }, { name := "MAX_VALUE", type := .int, accessFlags := 25, slot := 1, constantValue := 0 }, { name := "TYPE", type := (.object "java/lang/Class"), accessFlags := 25, slot := 2, constantValue := 0 }, { name := "digits", type := (.array .char), accessFlags := 24, slot := 3, constantValue := 0 }, { name := "DigitTens", type := (.array .byte), accessFlags := 24, slot := 4, constantValue := 0 }, { name := "DigitOnes", type := (.array .byte), accessFlags := 24, slot := 5, constantValue := 0 }, { name := "value", type := .int, accessFlags := 18, slot := 0, constantValue := 0 }, { name := "SIZE", type := .int, accessFlags := 25, slot := 6, constantValue := 0 }, { name := "BYTES", type := .int, accessFlags := 25, slot := 7, constantValue := 0 }, { name := "serialVersionUID", type := .long, accessFlags := 26, slot := 8, constantValue := 0 }]
  methods := #[k18m0, k18m1, k18m2]
  instanceTypes := #[.int]
  staticTypes := #[.int, .int, (.object "java/lang/Class"), (.array .char), (.array .byte), (.array .byte), .int, .int, .long]
  resolved := Array.replicate 453 none
  statics := none }

def pool19 : Array CpInfo := pool [(2, .class_ 4), (1, u "java/lang/Object"), (0, u "<init>"), (0, u "()V"), (0, .class_ 8), (0, u "java/lang/Integer"), (7, .class_ 18), (1, u "java/lang/Integer$IntegerCache"), (0, u "$assertionsDisabled"), (0, u "Z"), (26, u "high"), (0, u "I"), (8, u "archivedCache"), (0, u "[Ljava/lang/Integer;"), (12, u "cache"), (0, u "low")] 27

def k19m0 : Method := { name := "<init>", desc := "()V", sig := { parameters := [], returnType := none }, accessFlags := 2, code := none }
/-- java/lang/Integer$IntegerCache -/
def k19 : Class := { plain "java/lang/Integer$IntegerCache" (some 0) with
  accessFlags := 48
  interfaces := #[]
  cf := some (fileOf pool19 16 #[.nestHost 7] #[{ accessFlags := 2, nameIndex := 5, descriptorIndex := 6, attributes := #[] }] 48 2 #[] #[{ accessFlags := 24, nameIndex := 72, descriptorIndex := 48, attributes := #[] }, { accessFlags := 24, nameIndex := 47, descriptorIndex := 48, attributes := #[] }, { accessFlags := 24, nameIndex := 71, descriptorIndex := 58, attributes := #[] }, { accessFlags := 8, nameIndex := 57, descriptorIndex := 58, attributes := #[] }, { accessFlags := 4120, nameIndex := 19, descriptorIndex := 20, attributes := #[] }])
  fields := #[{ name := "low", type := .int, accessFlags := 24, slot := 0, constantValue := 0 }, { name := "high", type := .int, accessFlags := 24, slot := 1, constantValue := 0 }, { name := "cache", type := (.array (.object "java/lang/Integer")), accessFlags := 24, slot := 2, constantValue := 0 }, { name := "archivedCache", type := (.array (.object "java/lang/Integer")), accessFlags := 8, slot := 3, constantValue := 0 }, { name := "$assertionsDisabled", type := .boolean, accessFlags := 4120, slot := 4, constantValue := 0 }]
  methods := #[k19m0]
  instanceTypes := #[]
  staticTypes := #[.int, .int, (.array (.object "java/lang/Integer")), (.array (.object "java/lang/Integer")), .boolean]
  resolved := Array.replicate 100 none
  statics := some 1 }

def pool20 : Array CpInfo := pool [(1, .methodref 2 3), (0, .class_ 4), (0, .nameAndType 5 6), (0, u "java/util/AbstractList"), (0, u "<init>"), (0, u "()V"), (0, .fieldref 8 9), (0, .class_ 10), (0, .nameAndType 11 12), (0, u "java/util/ArrayList$SubList"), (0, u "root"), (0, u "Ljava/util/ArrayList;"), (0, .fieldref 8 14), (0, .nameAndType 15 16), (0, u "parent"), (0, u "Ljava/util/ArrayList$SubList;"), (0, .fieldref 8 18), (0, .nameAndType 19 20), (0, u "offset"), (0, u "I"), (0, .fieldref 8 22), (0, .nameAndType 23 20), (0, u "size"), (0, .fieldref 25 26), (0, .class_ 27), (0, .nameAndType 28 20), (0, u "java/util/ArrayList"), (0, u "modCount"), (0, .fieldref 8 26), (0, .methodref 31 32), (0, .class_ 33), (0, .nameAndType 34 35), (0, u "java/util/Objects"), (0, u "checkIndex"), (0, u "(II)I"), (0, .methodref 8 37), (0, .nameAndType 38 6), (0, u "checkForComodification"), (0, .methodref 25 40), (0, .nameAndType 41 42), (0, u "elementData"), (0, u "(I)Ljava/lang/Object;"), (29, u "()I"), (109, .class_ 183), (0, u "java/util/RandomAccess"), (3, u "(Ljava/util/ArrayList;II)V"), (17, u "get")] 64

def k20c0 : Code := { maxStack := 3, maxLocals := 4, code := jdk_130_method_1_code, exceptionTable := #[], attributes := #[] }
def k20m0 : Method := { name := "<init>", desc := "(Ljava/util/ArrayList;II)V", sig := { parameters := [(.object "java/util/ArrayList"), .int, .int], returnType := none }, accessFlags := 1, code := some k20c0 }
def k20c1 : Code := { maxStack := 3, maxLocals := 2, code := jdk_130_method_4_code, exceptionTable := #[], attributes := #[] }
def k20m1 : Method := { name := "get", desc := "(I)Ljava/lang/Object;", sig := { parameters := [.int], returnType := some (.object "java/lang/Object") }, accessFlags := 1, code := some k20c1 }
def k20c2 : Code := { maxStack := 1, maxLocals := 1, code := jdk_130_method_5_code, exceptionTable := #[], attributes := #[] }
def k20m2 : Method := { name := "size", desc := "()I", sig := { parameters := [], returnType := some .int }, accessFlags := 1, code := some k20c2 }
def k20c3 : Code := { maxStack := 2, maxLocals := 1, code := jdk_130_method_28_code, exceptionTable := #[], attributes := #[] }
def k20m3 : Method := { name := "checkForComodification", desc := "()V", sig := { parameters := [], returnType := none }, accessFlags := 2, code := some k20c3 }
/-- java/util/ArrayList$SubList -/
def k20 : Class := { plain "java/util/ArrayList$SubList" (some 8) with
  accessFlags := 32
  interfaces := #[9]
  cf := some (fileOf pool20 8 #[.nestHost 25] #[{ accessFlags := 1, nameIndex := 5, descriptorIndex := 187, attributes := #[] }, { accessFlags := 1, nameIndex := 205, descriptorIndex := 42, attributes := #[] }, { accessFlags := 1, nameIndex := 23, descriptorIndex := 72, attributes := #[] }, { accessFlags := 2, nameIndex := 38, descriptorIndex := 6, attributes := #[] }] 32 2 #[182] #[{ accessFlags := 18, nameIndex := 11, descriptorIndex := 12, attributes := #[] }, { accessFlags := 18, nameIndex := 15, descriptorIndex := 16, attributes := #[] }, { accessFlags := 18, nameIndex := 19, descriptorIndex := 20, attributes := #[] }, { accessFlags := 2, nameIndex := 23, descriptorIndex := 20, attributes := #[] }])
  fields := #[{ name := "root", type := (.object "java/util/ArrayList"), accessFlags := 18, slot := 1, constantValue := 0 }, { name := "parent", type := (.object "java/util/ArrayList$SubList"), accessFlags := 18, slot := 2, constantValue := 0 }, { name := "offset", type := .int, accessFlags := 18, slot := 3, constantValue := 0 }, { name := "size", type := .int, accessFlags := 2, slot := 4, constantValue := 0 }]
  methods := #[k20m0, k20m1, k20m2, k20m3]
  instanceTypes := #[.int, (.object "java/util/ArrayList"), (.object "java/util/ArrayList$SubList"), .int, .int]
  staticTypes := #[]
  resolved := Array.replicate 270 none
  statics := none }

def pool21 : Array CpInfo := pool [(2, .class_ 4), (1, u "java/lang/Object"), (0, u "<init>"), (0, u "()V"), (35, .class_ 44), (1, u "java/util/Objects"), (60, .methodref 106 107), (0, .class_ 108), (0, .nameAndType 109 110), (0, u "jdk/internal/util/Preconditions"), (0, u "checkIndex"), (0, u "(IILjava/util/function/BiFunction;)I"), (60, u "(II)I")] 12

def k21m0 : Method := { name := "<init>", desc := "()V", sig := { parameters := [], returnType := none }, accessFlags := 2, code := none }
def k21c1 : Code := { maxStack := 3, maxLocals := 2, code := jdk_31_method_17_code, exceptionTable := #[], attributes := #[] }
def k21m1 : Method := { name := "checkIndex", desc := "(II)I", sig := { parameters := [.int, .int], returnType := some .int }, accessFlags := 9, code := some k21c1 }
/-- java/util/Objects -/
def k21 : Class := { plain "java/util/Objects" (some 0) with
  accessFlags := 49
  interfaces := #[]
  cf := some (fileOf pool21 42 #[] #[{ accessFlags := 2, nameIndex := 5, descriptorIndex := 6, attributes := #[] }, { accessFlags := 9, nameIndex := 109, descriptorIndex := 171, attributes := #[] }] 49 2 #[] #[])
  fields := #[]
  methods := #[k21m0, k21m1]
  instanceTypes := #[]
  staticTypes := #[]
  resolved := Array.replicate 184 none
  statics := none }

def pool22 : Array CpInfo := pool [(2, .class_ 4), (1, u "java/lang/Object"), (0, u "<init>"), (0, u "()V"), (17, .class_ 26), (1, u "jdk/internal/util/Preconditions"), (6, u "checkIndex"), (21, .class_ 56), (0, u "jdk/internal/util/Preconditions$4"), (57, .class_ 115), (0, u "jdk/internal/util/Preconditions$1"), (7, u "SIOOBE_FORMATTER"), (0, u "Ljava/util/function/BiFunction;"), (0, .class_ 126), (0, u "jdk/internal/util/Preconditions$2"), (3, u "AIOOBE_FORMATTER"), (0, .class_ 132), (0, u "jdk/internal/util/Preconditions$3"), (3, u "IOOBE_FORMATTER"), (41, u "(IILjava/util/function/BiFunction;)I")] 15

def k22m0 : Method := { name := "<init>", desc := "()V", sig := { parameters := [], returnType := none }, accessFlags := 1, code := none }
def k22c1 : Code := { maxStack := 3, maxLocals := 3, code := jdk_41_method_11_code, exceptionTable := #[], attributes := #[] }
def k22m1 : Method := { name := "checkIndex", desc := "(IILjava/util/function/BiFunction;)I", sig := { parameters := [.int, .int, (.object "java/util/function/BiFunction")], returnType := some .int }, accessFlags := 9, code := some k22c1 }
/-- jdk/internal/util/Preconditions -/
def k22 : Class := { plain "jdk/internal/util/Preconditions" (some 0) with
  accessFlags := 33
  interfaces := #[]
  cf := some (fileOf pool22 24 #[.nestMembers #[55, 131, 125, 114]] #[{ accessFlags := 1, nameIndex := 5, descriptorIndex := 6, attributes := #[] }, { accessFlags := 9, nameIndex := 33, descriptorIndex := 178, attributes := #[] }] 33 2 #[] #[{ accessFlags := 25, nameIndex := 123, descriptorIndex := 124, attributes := #[] }, { accessFlags := 25, nameIndex := 130, descriptorIndex := 124, attributes := #[] }, { accessFlags := 25, nameIndex := 136, descriptorIndex := 124, attributes := #[] }])
  fields := #[{ name := "SIOOBE_FORMATTER", type := (.object "java/util/function/BiFunction"), accessFlags := 25, slot := 0, constantValue := 0 }, { name := "AIOOBE_FORMATTER", type := (.object "java/util/function/BiFunction"), accessFlags := 25, slot := 1, constantValue := 0 }, { name := "IOOBE_FORMATTER", type := (.object "java/util/function/BiFunction"), accessFlags := 25, slot := 2, constantValue := 0 }]
  methods := #[k22m0, k22m1]
  instanceTypes := #[]
  staticTypes := #[(.object "java/util/function/BiFunction"), (.object "java/util/function/BiFunction"), (.object "java/util/function/BiFunction")]
  resolved := Array.replicate 194 none
  statics := none }

/-- the primitive byte -/
def k23 : Class := { plain "byte" none with kind := .primitive 'B', accessFlags := 0x411 }
/-- [B -/
def k24 : Class := { plain "[B" (some 0) with kind := .array 23 .byte, interfaces := #[10, 11], accessFlags := 1041 }

/-- the primitive int -/
def k25 : Class := { plain "int" none with kind := .primitive 'I', accessFlags := 0x411 }
/-- [I -/
def k26 : Class := { plain "[I" (some 0) with kind := .array 25 .int, interfaces := #[10, 11], accessFlags := 1041 }

/-- [Ljava/lang/Integer; -/
def k27 : Class := { plain "[Ljava/lang/Integer;" (some 0) with kind := .array 18 (.object "java/lang/Integer"), interfaces := #[10, 11], accessFlags := 1041 }

/-- [Ljava/lang/Object; -/
def k28 : Class := { plain "[Ljava/lang/Object;" (some 0) with kind := .array 0 (.object "java/lang/Object"), interfaces := #[10, 11], accessFlags := 1041 }

def heap : Heap := #[{ cls := 12, slots := #[.long 0, .int 0, .ref 259, .ref 260], vm := .statics 12 },
  { cls := 19, slots := #[.int 0, .int 127, .ref 2, .null, .int 0], vm := .statics 19 },
  { cls := 27, slots := #[.ref 3, .ref 4, .ref 5, .ref 6, .ref 7, .ref 8, .ref 9, .ref 10, .ref 11, .ref 12, .ref 13, .ref 14, .ref 15, .ref 16, .ref 17, .ref 18, .ref 19, .ref 20, .ref 21, .ref 22, .ref 23, .ref 24, .ref 25, .ref 26, .ref 27, .ref 28, .ref 29, .ref 30, .ref 31, .ref 32, .ref 33, .ref 34, .ref 35, .ref 36, .ref 37, .ref 38, .ref 39, .ref 40, .ref 41, .ref 42, .ref 43, .ref 44, .ref 45, .ref 46, .ref 47, .ref 48, .ref 49, .ref 50, .ref 51, .ref 52, .ref 53, .ref 54, .ref 55, .ref 56, .ref 57, .ref 58, .ref 59, .ref 60, .ref 61, .ref 62, .ref 63, .ref 64, .ref 65, .ref 66, .ref 67, .ref 68, .ref 69, .ref 70, .ref 71, .ref 72, .ref 73, .ref 74, .ref 75, .ref 76, .ref 77, .ref 78, .ref 79, .ref 80, .ref 81, .ref 82, .ref 83, .ref 84, .ref 85, .ref 86, .ref 87, .ref 88, .ref 89, .ref 90, .ref 91, .ref 92, .ref 93, .ref 94, .ref 95, .ref 96, .ref 97, .ref 98, .ref 99, .ref 100, .ref 101, .ref 102, .ref 103, .ref 104, .ref 105, .ref 106, .ref 107, .ref 108, .ref 109, .ref 110, .ref 111, .ref 112, .ref 113, .ref 114, .ref 115, .ref 116, .ref 117, .ref 118, .ref 119, .ref 120, .ref 121, .ref 122, .ref 123, .ref 124, .ref 125, .ref 126, .ref 127, .ref 128, .ref 129, .ref 130, .ref 131, .ref 132, .ref 133, .ref 134, .ref 135, .ref 136, .ref 137, .ref 138, .ref 139, .ref 140, .ref 141, .ref 142, .ref 143, .ref 144, .ref 145, .ref 146, .ref 147, .ref 148, .ref 149, .ref 150, .ref 151, .ref 152, .ref 153, .ref 154, .ref 155, .ref 156, .ref 157, .ref 158, .ref 159, .ref 160, .ref 161, .ref 162, .ref 163, .ref 164, .ref 165, .ref 166, .ref 167, .ref 168, .ref 169, .ref 170, .ref 171, .ref 172, .ref 173, .ref 174, .ref 175, .ref 176, .ref 177, .ref 178, .ref 179, .ref 180, .ref 181, .ref 182, .ref 183, .ref 184, .ref 185, .ref 186, .ref 187, .ref 188, .ref 189, .ref 190, .ref 191, .ref 192, .ref 193, .ref 194, .ref 195, .ref 196, .ref 197, .ref 198, .ref 199, .ref 200, .ref 201, .ref 202, .ref 203, .ref 204, .ref 205, .ref 206, .ref 207, .ref 208, .ref 209, .ref 210, .ref 211, .ref 212, .ref 213, .ref 214, .ref 215, .ref 216, .ref 217, .ref 218, .ref 219, .ref 220, .ref 221, .ref 222, .ref 223, .ref 224, .ref 225, .ref 226, .ref 227, .ref 228, .ref 229, .ref 230, .ref 231, .ref 232, .ref 233, .ref 234, .ref 235, .ref 236, .ref 237, .ref 238, .ref 239, .ref 240, .ref 241, .ref 242, .ref 243, .ref 244, .ref 245, .ref 246, .ref 247, .ref 248, .ref 249, .ref 250, .ref 251, .ref 252, .ref 253, .ref 254, .ref 255, .ref 256, .ref 257, .ref 258], vm := .none },
  { cls := 18, slots := #[.int (-128)], vm := .none },
  { cls := 18, slots := #[.int (-127)], vm := .none },
  { cls := 18, slots := #[.int (-126)], vm := .none },
  { cls := 18, slots := #[.int (-125)], vm := .none },
  { cls := 18, slots := #[.int (-124)], vm := .none },
  { cls := 18, slots := #[.int (-123)], vm := .none },
  { cls := 18, slots := #[.int (-122)], vm := .none },
  { cls := 18, slots := #[.int (-121)], vm := .none },
  { cls := 18, slots := #[.int (-120)], vm := .none },
  { cls := 18, slots := #[.int (-119)], vm := .none },
  { cls := 18, slots := #[.int (-118)], vm := .none },
  { cls := 18, slots := #[.int (-117)], vm := .none },
  { cls := 18, slots := #[.int (-116)], vm := .none },
  { cls := 18, slots := #[.int (-115)], vm := .none },
  { cls := 18, slots := #[.int (-114)], vm := .none },
  { cls := 18, slots := #[.int (-113)], vm := .none },
  { cls := 18, slots := #[.int (-112)], vm := .none },
  { cls := 18, slots := #[.int (-111)], vm := .none },
  { cls := 18, slots := #[.int (-110)], vm := .none },
  { cls := 18, slots := #[.int (-109)], vm := .none },
  { cls := 18, slots := #[.int (-108)], vm := .none },
  { cls := 18, slots := #[.int (-107)], vm := .none },
  { cls := 18, slots := #[.int (-106)], vm := .none },
  { cls := 18, slots := #[.int (-105)], vm := .none },
  { cls := 18, slots := #[.int (-104)], vm := .none },
  { cls := 18, slots := #[.int (-103)], vm := .none },
  { cls := 18, slots := #[.int (-102)], vm := .none },
  { cls := 18, slots := #[.int (-101)], vm := .none },
  { cls := 18, slots := #[.int (-100)], vm := .none },
  { cls := 18, slots := #[.int (-99)], vm := .none },
  { cls := 18, slots := #[.int (-98)], vm := .none },
  { cls := 18, slots := #[.int (-97)], vm := .none },
  { cls := 18, slots := #[.int (-96)], vm := .none },
  { cls := 18, slots := #[.int (-95)], vm := .none },
  { cls := 18, slots := #[.int (-94)], vm := .none },
  { cls := 18, slots := #[.int (-93)], vm := .none },
  { cls := 18, slots := #[.int (-92)], vm := .none },
  { cls := 18, slots := #[.int (-91)], vm := .none },
  { cls := 18, slots := #[.int (-90)], vm := .none },
  { cls := 18, slots := #[.int (-89)], vm := .none },
  { cls := 18, slots := #[.int (-88)], vm := .none },
  { cls := 18, slots := #[.int (-87)], vm := .none },
  { cls := 18, slots := #[.int (-86)], vm := .none },
  { cls := 18, slots := #[.int (-85)], vm := .none },
  { cls := 18, slots := #[.int (-84)], vm := .none },
  { cls := 18, slots := #[.int (-83)], vm := .none },
  { cls := 18, slots := #[.int (-82)], vm := .none },
  { cls := 18, slots := #[.int (-81)], vm := .none },
  { cls := 18, slots := #[.int (-80)], vm := .none },
  { cls := 18, slots := #[.int (-79)], vm := .none },
  { cls := 18, slots := #[.int (-78)], vm := .none },
  { cls := 18, slots := #[.int (-77)], vm := .none },
  { cls := 18, slots := #[.int (-76)], vm := .none },
  { cls := 18, slots := #[.int (-75)], vm := .none },
  { cls := 18, slots := #[.int (-74)], vm := .none },
  { cls := 18, slots := #[.int (-73)], vm := .none },
  { cls := 18, slots := #[.int (-72)], vm := .none },
  { cls := 18, slots := #[.int (-71)], vm := .none },
  { cls := 18, slots := #[.int (-70)], vm := .none },
  { cls := 18, slots := #[.int (-69)], vm := .none },
  { cls := 18, slots := #[.int (-68)], vm := .none },
  { cls := 18, slots := #[.int (-67)], vm := .none },
  { cls := 18, slots := #[.int (-66)], vm := .none },
  { cls := 18, slots := #[.int (-65)], vm := .none },
  { cls := 18, slots := #[.int (-64)], vm := .none },
  { cls := 18, slots := #[.int (-63)], vm := .none },
  { cls := 18, slots := #[.int (-62)], vm := .none },
  { cls := 18, slots := #[.int (-61)], vm := .none },
  { cls := 18, slots := #[.int (-60)], vm := .none },
  { cls := 18, slots := #[.int (-59)], vm := .none },
  { cls := 18, slots := #[.int (-58)], vm := .none },
  { cls := 18, slots := #[.int (-57)], vm := .none },
  { cls := 18, slots := #[.int (-56)], vm := .none },
  { cls := 18, slots := #[.int (-55)], vm := .none },
  { cls := 18, slots := #[.int (-54)], vm := .none },
  { cls := 18, slots := #[.int (-53)], vm := .none },
  { cls := 18, slots := #[.int (-52)], vm := .none },
  { cls := 18, slots := #[.int (-51)], vm := .none },
  { cls := 18, slots := #[.int (-50)], vm := .none },
  { cls := 18, slots := #[.int (-49)], vm := .none },
  { cls := 18, slots := #[.int (-48)], vm := .none },
  { cls := 18, slots := #[.int (-47)], vm := .none },
  { cls := 18, slots := #[.int (-46)], vm := .none },
  { cls := 18, slots := #[.int (-45)], vm := .none },
  { cls := 18, slots := #[.int (-44)], vm := .none },
  { cls := 18, slots := #[.int (-43)], vm := .none },
  { cls := 18, slots := #[.int (-42)], vm := .none },
  { cls := 18, slots := #[.int (-41)], vm := .none },
  { cls := 18, slots := #[.int (-40)], vm := .none },
  { cls := 18, slots := #[.int (-39)], vm := .none },
  { cls := 18, slots := #[.int (-38)], vm := .none },
  { cls := 18, slots := #[.int (-37)], vm := .none },
  { cls := 18, slots := #[.int (-36)], vm := .none },
  { cls := 18, slots := #[.int (-35)], vm := .none },
  { cls := 18, slots := #[.int (-34)], vm := .none },
  { cls := 18, slots := #[.int (-33)], vm := .none },
  { cls := 18, slots := #[.int (-32)], vm := .none },
  { cls := 18, slots := #[.int (-31)], vm := .none },
  { cls := 18, slots := #[.int (-30)], vm := .none },
  { cls := 18, slots := #[.int (-29)], vm := .none },
  { cls := 18, slots := #[.int (-28)], vm := .none },
  { cls := 18, slots := #[.int (-27)], vm := .none },
  { cls := 18, slots := #[.int (-26)], vm := .none },
  { cls := 18, slots := #[.int (-25)], vm := .none },
  { cls := 18, slots := #[.int (-24)], vm := .none },
  { cls := 18, slots := #[.int (-23)], vm := .none },
  { cls := 18, slots := #[.int (-22)], vm := .none },
  { cls := 18, slots := #[.int (-21)], vm := .none },
  { cls := 18, slots := #[.int (-20)], vm := .none },
  { cls := 18, slots := #[.int (-19)], vm := .none },
  { cls := 18, slots := #[.int (-18)], vm := .none },
  { cls := 18, slots := #[.int (-17)], vm := .none },
  { cls := 18, slots := #[.int (-16)], vm := .none },
  { cls := 18, slots := #[.int (-15)], vm := .none },
  { cls := 18, slots := #[.int (-14)], vm := .none },
  { cls := 18, slots := #[.int (-13)], vm := .none },
  { cls := 18, slots := #[.int (-12)], vm := .none },
  { cls := 18, slots := #[.int (-11)], vm := .none },
  { cls := 18, slots := #[.int (-10)], vm := .none },
  { cls := 18, slots := #[.int (-9)], vm := .none },
  { cls := 18, slots := #[.int (-8)], vm := .none },
  { cls := 18, slots := #[.int (-7)], vm := .none },
  { cls := 18, slots := #[.int (-6)], vm := .none },
  { cls := 18, slots := #[.int (-5)], vm := .none },
  { cls := 18, slots := #[.int (-4)], vm := .none },
  { cls := 18, slots := #[.int (-3)], vm := .none },
  { cls := 18, slots := #[.int (-2)], vm := .none },
  { cls := 18, slots := #[.int (-1)], vm := .none },
  { cls := 18, slots := #[.int 0], vm := .none },
  { cls := 18, slots := #[.int 1], vm := .none },
  { cls := 18, slots := #[.int 2], vm := .none },
  { cls := 18, slots := #[.int 3], vm := .none },
  { cls := 18, slots := #[.int 4], vm := .none },
  { cls := 18, slots := #[.int 5], vm := .none },
  { cls := 18, slots := #[.int 6], vm := .none },
  { cls := 18, slots := #[.int 7], vm := .none },
  { cls := 18, slots := #[.int 8], vm := .none },
  { cls := 18, slots := #[.int 9], vm := .none },
  { cls := 18, slots := #[.int 10], vm := .none },
  { cls := 18, slots := #[.int 11], vm := .none },
  { cls := 18, slots := #[.int 12], vm := .none },
  { cls := 18, slots := #[.int 13], vm := .none },
  { cls := 18, slots := #[.int 14], vm := .none },
  { cls := 18, slots := #[.int 15], vm := .none },
  { cls := 18, slots := #[.int 16], vm := .none },
  { cls := 18, slots := #[.int 17], vm := .none },
  { cls := 18, slots := #[.int 18], vm := .none },
  { cls := 18, slots := #[.int 19], vm := .none },
  { cls := 18, slots := #[.int 20], vm := .none },
  { cls := 18, slots := #[.int 21], vm := .none },
  { cls := 18, slots := #[.int 22], vm := .none },
  { cls := 18, slots := #[.int 23], vm := .none },
  { cls := 18, slots := #[.int 24], vm := .none },
  { cls := 18, slots := #[.int 25], vm := .none },
  { cls := 18, slots := #[.int 26], vm := .none },
  { cls := 18, slots := #[.int 27], vm := .none },
  { cls := 18, slots := #[.int 28], vm := .none },
  { cls := 18, slots := #[.int 29], vm := .none },
  { cls := 18, slots := #[.int 30], vm := .none },
  { cls := 18, slots := #[.int 31], vm := .none },
  { cls := 18, slots := #[.int 32], vm := .none },
  { cls := 18, slots := #[.int 33], vm := .none },
  { cls := 18, slots := #[.int 34], vm := .none },
  { cls := 18, slots := #[.int 35], vm := .none },
  { cls := 18, slots := #[.int 36], vm := .none },
  { cls := 18, slots := #[.int 37], vm := .none },
  { cls := 18, slots := #[.int 38], vm := .none },
  { cls := 18, slots := #[.int 39], vm := .none },
  { cls := 18, slots := #[.int 40], vm := .none },
  { cls := 18, slots := #[.int 41], vm := .none },
  { cls := 18, slots := #[.int 42], vm := .none },
  { cls := 18, slots := #[.int 43], vm := .none },
  { cls := 18, slots := #[.int 44], vm := .none },
  { cls := 18, slots := #[.int 45], vm := .none },
  { cls := 18, slots := #[.int 46], vm := .none },
  { cls := 18, slots := #[.int 47], vm := .none },
  { cls := 18, slots := #[.int 48], vm := .none },
  { cls := 18, slots := #[.int 49], vm := .none },
  { cls := 18, slots := #[.int 50], vm := .none },
  { cls := 18, slots := #[.int 51], vm := .none },
  { cls := 18, slots := #[.int 52], vm := .none },
  { cls := 18, slots := #[.int 53], vm := .none },
  { cls := 18, slots := #[.int 54], vm := .none },
  { cls := 18, slots := #[.int 55], vm := .none },
  { cls := 18, slots := #[.int 56], vm := .none },
  { cls := 18, slots := #[.int 57], vm := .none },
  { cls := 18, slots := #[.int 58], vm := .none },
  { cls := 18, slots := #[.int 59], vm := .none },
  { cls := 18, slots := #[.int 60], vm := .none },
  { cls := 18, slots := #[.int 61], vm := .none },
  { cls := 18, slots := #[.int 62], vm := .none },
  { cls := 18, slots := #[.int 63], vm := .none },
  { cls := 18, slots := #[.int 64], vm := .none },
  { cls := 18, slots := #[.int 65], vm := .none },
  { cls := 18, slots := #[.int 66], vm := .none },
  { cls := 18, slots := #[.int 67], vm := .none },
  { cls := 18, slots := #[.int 68], vm := .none },
  { cls := 18, slots := #[.int 69], vm := .none },
  { cls := 18, slots := #[.int 70], vm := .none },
  { cls := 18, slots := #[.int 71], vm := .none },
  { cls := 18, slots := #[.int 72], vm := .none },
  { cls := 18, slots := #[.int 73], vm := .none },
  { cls := 18, slots := #[.int 74], vm := .none },
  { cls := 18, slots := #[.int 75], vm := .none },
  { cls := 18, slots := #[.int 76], vm := .none },
  { cls := 18, slots := #[.int 77], vm := .none },
  { cls := 18, slots := #[.int 78], vm := .none },
  { cls := 18, slots := #[.int 79], vm := .none },
  { cls := 18, slots := #[.int 80], vm := .none },
  { cls := 18, slots := #[.int 81], vm := .none },
  { cls := 18, slots := #[.int 82], vm := .none },
  { cls := 18, slots := #[.int 83], vm := .none },
  { cls := 18, slots := #[.int 84], vm := .none },
  { cls := 18, slots := #[.int 85], vm := .none },
  { cls := 18, slots := #[.int 86], vm := .none },
  { cls := 18, slots := #[.int 87], vm := .none },
  { cls := 18, slots := #[.int 88], vm := .none },
  { cls := 18, slots := #[.int 89], vm := .none },
  { cls := 18, slots := #[.int 90], vm := .none },
  { cls := 18, slots := #[.int 91], vm := .none },
  { cls := 18, slots := #[.int 92], vm := .none },
  { cls := 18, slots := #[.int 93], vm := .none },
  { cls := 18, slots := #[.int 94], vm := .none },
  { cls := 18, slots := #[.int 95], vm := .none },
  { cls := 18, slots := #[.int 96], vm := .none },
  { cls := 18, slots := #[.int 97], vm := .none },
  { cls := 18, slots := #[.int 98], vm := .none },
  { cls := 18, slots := #[.int 99], vm := .none },
  { cls := 18, slots := #[.int 100], vm := .none },
  { cls := 18, slots := #[.int 101], vm := .none },
  { cls := 18, slots := #[.int 102], vm := .none },
  { cls := 18, slots := #[.int 103], vm := .none },
  { cls := 18, slots := #[.int 104], vm := .none },
  { cls := 18, slots := #[.int 105], vm := .none },
  { cls := 18, slots := #[.int 106], vm := .none },
  { cls := 18, slots := #[.int 107], vm := .none },
  { cls := 18, slots := #[.int 108], vm := .none },
  { cls := 18, slots := #[.int 109], vm := .none },
  { cls := 18, slots := #[.int 110], vm := .none },
  { cls := 18, slots := #[.int 111], vm := .none },
  { cls := 18, slots := #[.int 112], vm := .none },
  { cls := 18, slots := #[.int 113], vm := .none },
  { cls := 18, slots := #[.int 114], vm := .none },
  { cls := 18, slots := #[.int 115], vm := .none },
  { cls := 18, slots := #[.int 116], vm := .none },
  { cls := 18, slots := #[.int 117], vm := .none },
  { cls := 18, slots := #[.int 118], vm := .none },
  { cls := 18, slots := #[.int 119], vm := .none },
  { cls := 18, slots := #[.int 120], vm := .none },
  { cls := 18, slots := #[.int 121], vm := .none },
  { cls := 18, slots := #[.int 122], vm := .none },
  { cls := 18, slots := #[.int 123], vm := .none },
  { cls := 18, slots := #[.int 124], vm := .none },
  { cls := 18, slots := #[.int 125], vm := .none },
  { cls := 18, slots := #[.int 126], vm := .none },
  { cls := 18, slots := #[.int 127], vm := .none },
  { cls := 28, slots := #[], vm := .none },
  { cls := 28, slots := #[], vm := .none }]
def classes : Array Class := #[k0, k1, k2, k3, k4, k5, k6, k7, k8, k9, k10, k11, k12, k13, k14, k15, k16, k17, k18, k19, k20, k21, k22, k23, k24, k25, k26, k27, k28]
def interned : List (Array UInt16 × Addr) := []
def slotsUsed : Nat := 521
def theMethod : MethodId := ⟨1, 3⟩
def args0 : Array Value := #[.int 5, .int 7, .int 1]
def aboutOver (below : List Frame) : State where
  vm := { classes := classes, interned := interned.toArray }
  heap := heap
  slotsUsed := slotsUsed
  threads := #[{ frames := .invoking theMethod args0 :: below }]
def below0 : List Frame := [.native { method := ⟨0, 0⟩, args := #[] }]
def about1 : State := aboutOver below0
def p0 : Program := .bare "" "" ""
def e0 : Env := launch0.env 0 0 0
theorem w_frames : about1.frames = Frame.invoking theMethod args0 :: below0 := rfl
set_option maxRecDepth 65536 in
theorem w_args : argsFit about1.vm theMethod args0 = true := by decide +kernel
set_option maxRecDepth 65536 in
theorem w_heap : heapFits about1 = true := by decide +kernel
set_option maxRecDepth 65536 in
theorem w_runnable : about1.curStatus? = some .runnable := by decide +kernel
set_option maxRecDepth 65536 in
theorem w_alone : about1.alone = true := by decide +kernel
set_option maxRecDepth 65536 in
theorem w_named : about1.methodNamed? x = some theMethod := by decide +kernel
set_option maxRecDepth 65536 in
theorem w_hears : about1.hears theMethod below0 = true := by decide +kernel
set_option maxRecDepth 65536 in
theorem w_ripe : about1.ripe theMethod args0 below0 = true := by decide +kernel
theorem w_running : about1.status = .running := rfl
set_option maxRecDepth 65536 in
theorem w_room : about1.hasRoom e0.platform room_1 = true :=
  launch0.hasRoom_least _ room_1 (by decide +kernel) (by decide +kernel) (by decide +kernel) (by decide +kernel) (by decide +kernel) (by decide +kernel)
theorem allAtoms_all (ts : List Jvm.Cond) (a : Array Jvm.Value) (st : Jvm.State) : (allAtoms ts).before a st = ts.all (fun c => c.before a st) := by
  induction ts with
  | nil => rfl
  | cons c t ih =>
    show (Jvm.Cond.and c (allAtoms t)).before a st = _
    rw [Jvm.Cond.before_and, ih, List.all_cons]
def words1 : List Jvm.Cond := Jvm.Cond.code x code maxLocals ret :: tables_1
/-- a 'code' word, met by the world's own term for the bytes: nothing is compared byte by byte -/
theorem code_word {y : MethodName} {bytes : ByteArray} {mx : Nat} {rt : Option FieldType} {a : Array Value} {s : State} {m : MethodId} {meth : Method} {c : Code} (h1 : s.methodNamed? y = some m) (h2 : s.vm.method? m = some meth) (h3 : meth.code = some c) (h4 : c.code = bytes)
    (h5 : (c.maxLocals == mx && c.exceptionTable.isEmpty && decide (c.maxStack ≤ mostOperands) && decide (meth.sig.returnType = rt) && !meth.locks && decide (parseMethodDescriptor y.desc = some meth.sig)) = true) : (Jvm.Cond.code y bytes mx rt).before a s = true := by
  simp only [Bool.and_eq_true, beq_iff_eq, Bool.not_eq_true', decide_eq_true_eq] at h5
  obtain ⟨⟨⟨⟨⟨g1, g2⟩, g3⟩, g4⟩, g5⟩, g6⟩ := h5
  simp [Cond.before, Cond.holds, Cond.value, h1, h2, h3, h4, g1, g2, g3, g4, g5, g6]
def isCode : Jvm.Cond → Bool
  | .code _ _ _ _ => true
  | _ => false
theorem all_split {L : List Jvm.Cond} {P : Jvm.Cond → Bool} (h1 : L.all (fun c => isCode c || P c) = true) (h2 : ∀ c ∈ L.filter isCode, P c = true) : L.all P = true := by
  refine List.all_eq_true.mpr fun c hc => ?_
  have h := List.all_eq_true.mp h1 c hc
  rcases Bool.eq_false_or_eq_true (isCode c) with hi | hi
  · exact h2 c (List.mem_filter.mpr ⟨hc, hi⟩)
  · simpa [hi] using h
set_option maxRecDepth 65536 in
theorem w_c0 : (Jvm.Cond.code x code maxLocals ret).before args0 about1 = true := code_word (m := ⟨1, 3⟩) (meth := k1m3) (c := k1c3) (by decide +kernel) rfl rfl rfl (by decide +kernel)
set_option maxRecDepth 65536 in
theorem w_c1 : (Jvm.Cond.code ({ cls := "java/lang/Math", name := "max", desc := "(II)I" } : Jvm.MethodName) jdk_29_method_65_code (2 : Nat) (Option.some Jvm.ClassFile.FieldType.int)).before args0 about1 = true := code_word (m := ⟨2, 1⟩) (meth := k2m1) (c := k2c1) (by decide +kernel) rfl rfl rfl (by decide +kernel)
set_option maxRecDepth 65536 in
theorem w_c2 : (Jvm.Cond.code ({ cls := "java/util/ArrayList", name := "<init>", desc := "()V" } : Jvm.MethodName) jdk_38_method_2_code (1 : Nat) (Option.none : Option Jvm.ClassFile.FieldType)).before args0 about1 = true := code_word (m := ⟨12, 0⟩) (meth := k12m0) (c := k12c0) (by decide +kernel) rfl rfl rfl (by decide +kernel)
set_option maxRecDepth 65536 in
theorem w_c3 : (Jvm.Cond.code ({ cls := "java/util/AbstractList", name := "<init>", desc := "()V" } : Jvm.MethodName) jdk_39_method_1_code (1 : Nat) (Option.none : Option Jvm.ClassFile.FieldType)).before args0 about1 = true := code_word (m := ⟨8, 0⟩) (meth := k8m0) (c := k8c0) (by decide +kernel) rfl rfl rfl (by decide +kernel)
set_option maxRecDepth 65536 in
theorem w_c4 : (Jvm.Cond.code ({ cls := "java/util/AbstractCollection", name := "<init>", desc := "()V" } : Jvm.MethodName) jdk_22_method_1_code (1 : Nat) (Option.none : Option Jvm.ClassFile.FieldType)).before args0 about1 = true := code_word (m := ⟨5, 0⟩) (meth := k5m0) (c := k5c0) (by decide +kernel) rfl rfl rfl (by decide +kernel)
set_option maxRecDepth 65536 in
theorem w_c5 : (Jvm.Cond.code ({ cls := "java/lang/Object", name := "<init>", desc := "()V" } : Jvm.MethodName) object_method_1_code (1 : Nat) (Option.none : Option Jvm.ClassFile.FieldType)).before args0 about1 = true := code_word (m := ⟨0, 0⟩) (meth := k0m0) (c := k0c0) (by decide +kernel) rfl rfl rfl (by decide +kernel)
set_option maxRecDepth 65536 in
theorem w_c6 : (Jvm.Cond.code ({ cls := "com/example/circuline/circuline/storage/Insert", name := "split", desc := "(Ljava/util/List;I)Ljava/util/List;" } : Jvm.MethodName) prog_17_method_2_code (5 : Nat) (Option.some (Jvm.ClassFile.FieldType.object "java/util/List"))).before args0 about1 = true := code_word (m := ⟨13, 1⟩) (meth := k13m1) (c := k13c1) (by decide +kernel) rfl rfl rfl (by decide +kernel)
set_option maxRecDepth 65536 in
theorem w_c7 : (Jvm.Cond.code ({ cls := "java/util/ArrayList", name := "size", desc := "()I" } : Jvm.MethodName) jdk_38_method_8_code (1 : Nat) (Option.some Jvm.ClassFile.FieldType.int)).before args0 about1 = true := code_word (m := ⟨12, 3⟩) (meth := k12m3) (c := k12c3) (by decide +kernel) rfl rfl rfl (by decide +kernel)
set_option maxRecDepth 65536 in
theorem w_c8 : (Jvm.Cond.code ({ cls := "java/lang/Integer", name := "valueOf", desc := "(I)Ljava/lang/Integer;" } : Jvm.MethodName) jdk_33_method_22_code (1 : Nat) (Option.some (Jvm.ClassFile.FieldType.object "java/lang/Integer"))).before args0 about1 = true := code_word (m := ⟨18, 0⟩) (meth := k18m0) (c := k18c0) (by decide +kernel) rfl rfl rfl (by decide +kernel)
set_option maxRecDepth 65536 in
theorem w_c9 : (Jvm.Cond.code ({ cls := "java/util/ArrayList", name := "add", desc := "(Ljava/lang/Object;)Z" } : Jvm.MethodName) jdk_38_method_25_code (2 : Nat) (Option.some Jvm.ClassFile.FieldType.boolean)).before args0 about1 = true := code_word (m := ⟨12, 7⟩) (meth := k12m7) (c := k12c7) (by decide +kernel) rfl rfl rfl (by decide +kernel)
set_option maxRecDepth 65536 in
theorem w_c10 : (Jvm.Cond.code ({ cls := "java/util/ArrayList", name := "add", desc := "(Ljava/lang/Object;[Ljava/lang/Object;I)V" } : Jvm.MethodName) jdk_38_method_24_code (4 : Nat) (Option.none : Option Jvm.ClassFile.FieldType)).before args0 about1 = true := code_word (m := ⟨12, 6⟩) (meth := k12m6) (c := k12c6) (by decide +kernel) rfl rfl rfl (by decide +kernel)
set_option maxRecDepth 65536 in
theorem w_c11 : (Jvm.Cond.code ({ cls := "java/util/ArrayList", name := "grow", desc := "()[Ljava/lang/Object;" } : Jvm.MethodName) jdk_38_method_7_code (1 : Nat) (Option.some (Jvm.ClassFile.FieldType.array (Jvm.ClassFile.FieldType.object "java/lang/Object")))).before args0 about1 = true := code_word (m := ⟨12, 2⟩) (meth := k12m2) (c := k12c2) (by decide +kernel) rfl rfl rfl (by decide +kernel)
set_option maxRecDepth 65536 in
theorem w_c12 : (Jvm.Cond.code ({ cls := "java/util/ArrayList", name := "grow", desc := "(I)[Ljava/lang/Object;" } : Jvm.MethodName) jdk_38_method_6_code (4 : Nat) (Option.some (Jvm.ClassFile.FieldType.array (Jvm.ClassFile.FieldType.object "java/lang/Object")))).before args0 about1 = true := code_word (m := ⟨12, 1⟩) (meth := k12m1) (c := k12c1) (by decide +kernel) rfl rfl rfl (by decide +kernel)
set_option maxRecDepth 65536 in
theorem w_c13 : (Jvm.Cond.code ({ cls := "java/lang/Math", name := "min", desc := "(II)I" } : Jvm.MethodName) jdk_29_method_69_code (2 : Nat) (Option.some Jvm.ClassFile.FieldType.int)).before args0 about1 = true := code_word (m := ⟨2, 2⟩) (meth := k2m2) (c := k2c2) (by decide +kernel) rfl rfl rfl (by decide +kernel)
set_option maxRecDepth 65536 in
theorem w_c14 : (Jvm.Cond.code ({ cls := "java/util/ArrayList", name := "subList", desc := "(II)Ljava/util/List;" } : Jvm.MethodName) jdk_38_method_56_code (3 : Nat) (Option.some (Jvm.ClassFile.FieldType.object "java/util/List"))).before args0 about1 = true := code_word (m := ⟨12, 8⟩) (meth := k12m8) (c := k12c8) (by decide +kernel) rfl rfl rfl (by decide +kernel)
set_option maxRecDepth 65536 in
theorem w_c15 : (Jvm.Cond.code ({ cls := "java/util/AbstractList", name := "subListRangeCheck", desc := "(III)V" } : Jvm.MethodName) jdk_39_method_15_code (3 : Nat) (Option.none : Option Jvm.ClassFile.FieldType)).before args0 about1 = true := code_word (m := ⟨8, 1⟩) (meth := k8m1) (c := k8c1) (by decide +kernel) rfl rfl rfl (by decide +kernel)
set_option maxRecDepth 65536 in
theorem w_c16 : (Jvm.Cond.code ({ cls := "java/util/ArrayList$SubList", name := "<init>", desc := "(Ljava/util/ArrayList;II)V" } : Jvm.MethodName) jdk_130_method_1_code (4 : Nat) (Option.none : Option Jvm.ClassFile.FieldType)).before args0 about1 = true := code_word (m := ⟨20, 0⟩) (meth := k20m0) (c := k20c0) (by decide +kernel) rfl rfl rfl (by decide +kernel)
set_option maxRecDepth 65536 in
theorem w_c17 : (Jvm.Cond.code ({ cls := "com/example/circuline/circuline/storage/InsertSplitPinLaw", name := "step", desc := "(Ljava/util/List;IIIII)I" } : Jvm.MethodName) method_3_code (11 : Nat) (Option.some Jvm.ClassFile.FieldType.int)).before args0 about1 = true := code_word (m := ⟨1, 2⟩) (meth := k1m2) (c := k1c2) (by decide +kernel) rfl rfl rfl (by decide +kernel)
set_option maxRecDepth 65536 in
theorem w_c18 : (Jvm.Cond.code ({ cls := "java/util/ArrayList", name := "get", desc := "(I)Ljava/lang/Object;" } : Jvm.MethodName) jdk_38_method_20_code (2 : Nat) (Option.some (Jvm.ClassFile.FieldType.object "java/lang/Object"))).before args0 about1 = true := code_word (m := ⟨12, 5⟩) (meth := k12m5) (c := k12c5) (by decide +kernel) rfl rfl rfl (by decide +kernel)
set_option maxRecDepth 65536 in
theorem w_c19 : (Jvm.Cond.code ({ cls := "java/util/Objects", name := "checkIndex", desc := "(II)I" } : Jvm.MethodName) jdk_31_method_17_code (2 : Nat) (Option.some Jvm.ClassFile.FieldType.int)).before args0 about1 = true := code_word (m := ⟨21, 1⟩) (meth := k21m1) (c := k21c1) (by decide +kernel) rfl rfl rfl (by decide +kernel)
set_option maxRecDepth 65536 in
theorem w_c20 : (Jvm.Cond.code ({ cls := "jdk/internal/util/Preconditions", name := "checkIndex", desc := "(IILjava/util/function/BiFunction;)I" } : Jvm.MethodName) jdk_41_method_11_code (3 : Nat) (Option.some Jvm.ClassFile.FieldType.int)).before args0 about1 = true := code_word (m := ⟨22, 1⟩) (meth := k22m1) (c := k22c1) (by decide +kernel) rfl rfl rfl (by decide +kernel)
set_option maxRecDepth 65536 in
theorem w_c21 : (Jvm.Cond.code ({ cls := "java/util/ArrayList", name := "elementData", desc := "(I)Ljava/lang/Object;" } : Jvm.MethodName) jdk_38_method_18_code (2 : Nat) (Option.some (Jvm.ClassFile.FieldType.object "java/lang/Object"))).before args0 about1 = true := code_word (m := ⟨12, 4⟩) (meth := k12m4) (c := k12c4) (by decide +kernel) rfl rfl rfl (by decide +kernel)
set_option maxRecDepth 65536 in
theorem w_c22 : (Jvm.Cond.code ({ cls := "java/util/ArrayList$SubList", name := "size", desc := "()I" } : Jvm.MethodName) jdk_130_method_5_code (1 : Nat) (Option.some Jvm.ClassFile.FieldType.int)).before args0 about1 = true := code_word (m := ⟨20, 2⟩) (meth := k20m2) (c := k20c2) (by decide +kernel) rfl rfl rfl (by decide +kernel)
set_option maxRecDepth 65536 in
theorem w_c23 : (Jvm.Cond.code ({ cls := "java/util/ArrayList$SubList", name := "checkForComodification", desc := "()V" } : Jvm.MethodName) jdk_130_method_28_code (1 : Nat) (Option.none : Option Jvm.ClassFile.FieldType)).before args0 about1 = true := code_word (m := ⟨20, 3⟩) (meth := k20m3) (c := k20c3) (by decide +kernel) rfl rfl rfl (by decide +kernel)
set_option maxRecDepth 65536 in
theorem w_c24 : (Jvm.Cond.code ({ cls := "com/example/circuline/circuline/storage/InsertSplitPinLaw", name := "runOk", desc := "(Ljava/util/List;II)Z" } : Jvm.MethodName) method_2_code (4 : Nat) (Option.some Jvm.ClassFile.FieldType.boolean)).before args0 about1 = true := code_word (m := ⟨1, 1⟩) (meth := k1m1) (c := k1c1) (by decide +kernel) rfl rfl rfl (by decide +kernel)
set_option maxRecDepth 65536 in
theorem w_c25 : (Jvm.Cond.code ({ cls := "java/util/ArrayList$SubList", name := "get", desc := "(I)Ljava/lang/Object;" } : Jvm.MethodName) jdk_130_method_4_code (2 : Nat) (Option.some (Jvm.ClassFile.FieldType.object "java/lang/Object"))).before args0 about1 = true := code_word (m := ⟨20, 1⟩) (meth := k20m1) (c := k20c1) (by decide +kernel) rfl rfl rfl (by decide +kernel)
set_option maxRecDepth 65536 in
theorem w_c26 : (Jvm.Cond.code ({ cls := "java/lang/Integer", name := "intValue", desc := "()I" } : Jvm.MethodName) jdk_33_method_27_code (1 : Nat) (Option.some Jvm.ClassFile.FieldType.int)).before args0 about1 = true := code_word (m := ⟨18, 2⟩) (meth := k18m2) (c := k18c2) (by decide +kernel) rfl rfl rfl (by decide +kernel)
set_option maxRecDepth 65536 in
theorem w_c27 : (Jvm.Cond.code ({ cls := "java/lang/Integer", name := "<init>", desc := "(I)V" } : Jvm.MethodName) jdk_33_method_23_code (2 : Nat) (Option.none : Option Jvm.ClassFile.FieldType)).before args0 about1 = true := code_word (m := ⟨18, 1⟩) (meth := k18m1) (c := k18c1) (by decide +kernel) rfl rfl rfl (by decide +kernel)
set_option maxRecDepth 65536 in
theorem w_c28 : (Jvm.Cond.code ({ cls := "java/lang/Number", name := "<init>", desc := "()V" } : Jvm.MethodName) jdk_18_method_1_code (1 : Nat) (Option.none : Option Jvm.ClassFile.FieldType)).before args0 about1 = true := code_word (m := ⟨14, 0⟩) (meth := k14m0) (c := k14c0) (by decide +kernel) rfl rfl rfl (by decide +kernel)
def codes1 : List Jvm.Cond := [Jvm.Cond.code x code maxLocals ret, Jvm.Cond.code ({ cls := "java/lang/Math", name := "max", desc := "(II)I" } : Jvm.MethodName) jdk_29_method_65_code (2 : Nat) (Option.some Jvm.ClassFile.FieldType.int), Jvm.Cond.code ({ cls := "java/util/ArrayList", name := "<init>", desc := "()V" } : Jvm.MethodName) jdk_38_method_2_code (1 : Nat) (Option.none : Option Jvm.ClassFile.FieldType), Jvm.Cond.code ({ cls := "java/util/AbstractList", name := "<init>", desc := "()V" } : Jvm.MethodName) jdk_39_method_1_code (1 : Nat) (Option.none : Option Jvm.ClassFile.FieldType), Jvm.Cond.code ({ cls := "java/util/AbstractCollection", name := "<init>", desc := "()V" } : Jvm.MethodName) jdk_22_method_1_code (1 : Nat) (Option.none : Option Jvm.ClassFile.FieldType), Jvm.Cond.code ({ cls := "java/lang/Object", name := "<init>", desc := "()V" } : Jvm.MethodName) object_method_1_code (1 : Nat) (Option.none : Option Jvm.ClassFile.FieldType), Jvm.Cond.code ({ cls := "com/example/circuline/circuline/storage/Insert", name := "split", desc := "(Ljava/util/List;I)Ljava/util/List;" } : Jvm.MethodName) prog_17_method_2_code (5 : Nat) (Option.some (Jvm.ClassFile.FieldType.object "java/util/List")), Jvm.Cond.code ({ cls := "java/util/ArrayList", name := "size", desc := "()I" } : Jvm.MethodName) jdk_38_method_8_code (1 : Nat) (Option.some Jvm.ClassFile.FieldType.int), Jvm.Cond.code ({ cls := "java/lang/Integer", name := "valueOf", desc := "(I)Ljava/lang/Integer;" } : Jvm.MethodName) jdk_33_method_22_code (1 : Nat) (Option.some (Jvm.ClassFile.FieldType.object "java/lang/Integer")), Jvm.Cond.code ({ cls := "java/util/ArrayList", name := "add", desc := "(Ljava/lang/Object;)Z" } : Jvm.MethodName) jdk_38_method_25_code (2 : Nat) (Option.some Jvm.ClassFile.FieldType.boolean), Jvm.Cond.code ({ cls := "java/util/ArrayList", name := "add", desc := "(Ljava/lang/Object;[Ljava/lang/Object;I)V" } : Jvm.MethodName) jdk_38_method_24_code (4 : Nat) (Option.none : Option Jvm.ClassFile.FieldType), Jvm.Cond.code ({ cls := "java/util/ArrayList", name := "grow", desc := "()[Ljava/lang/Object;" } : Jvm.MethodName) jdk_38_method_7_code (1 : Nat) (Option.some (Jvm.ClassFile.FieldType.array (Jvm.ClassFile.FieldType.object "java/lang/Object"))), Jvm.Cond.code ({ cls := "java/util/ArrayList", name := "grow", desc := "(I)[Ljava/lang/Object;" } : Jvm.MethodName) jdk_38_method_6_code (4 : Nat) (Option.some (Jvm.ClassFile.FieldType.array (Jvm.ClassFile.FieldType.object "java/lang/Object"))), Jvm.Cond.code ({ cls := "java/lang/Math", name := "min", desc := "(II)I" } : Jvm.MethodName) jdk_29_method_69_code (2 : Nat) (Option.some Jvm.ClassFile.FieldType.int), Jvm.Cond.code ({ cls := "java/util/ArrayList", name := "subList", desc := "(II)Ljava/util/List;" } : Jvm.MethodName) jdk_38_method_56_code (3 : Nat) (Option.some (Jvm.ClassFile.FieldType.object "java/util/List")), Jvm.Cond.code ({ cls := "java/util/AbstractList", name := "subListRangeCheck", desc := "(III)V" } : Jvm.MethodName) jdk_39_method_15_code (3 : Nat) (Option.none : Option Jvm.ClassFile.FieldType), Jvm.Cond.code ({ cls := "java/util/ArrayList$SubList", name := "<init>", desc := "(Ljava/util/ArrayList;II)V" } : Jvm.MethodName) jdk_130_method_1_code (4 : Nat) (Option.none : Option Jvm.ClassFile.FieldType), Jvm.Cond.code ({ cls := "com/example/circuline/circuline/storage/InsertSplitPinLaw", name := "step", desc := "(Ljava/util/List;IIIII)I" } : Jvm.MethodName) method_3_code (11 : Nat) (Option.some Jvm.ClassFile.FieldType.int), Jvm.Cond.code ({ cls := "java/util/ArrayList", name := "get", desc := "(I)Ljava/lang/Object;" } : Jvm.MethodName) jdk_38_method_20_code (2 : Nat) (Option.some (Jvm.ClassFile.FieldType.object "java/lang/Object")), Jvm.Cond.code ({ cls := "java/util/Objects", name := "checkIndex", desc := "(II)I" } : Jvm.MethodName) jdk_31_method_17_code (2 : Nat) (Option.some Jvm.ClassFile.FieldType.int), Jvm.Cond.code ({ cls := "jdk/internal/util/Preconditions", name := "checkIndex", desc := "(IILjava/util/function/BiFunction;)I" } : Jvm.MethodName) jdk_41_method_11_code (3 : Nat) (Option.some Jvm.ClassFile.FieldType.int), Jvm.Cond.code ({ cls := "java/util/ArrayList", name := "elementData", desc := "(I)Ljava/lang/Object;" } : Jvm.MethodName) jdk_38_method_18_code (2 : Nat) (Option.some (Jvm.ClassFile.FieldType.object "java/lang/Object")), Jvm.Cond.code ({ cls := "java/util/ArrayList$SubList", name := "size", desc := "()I" } : Jvm.MethodName) jdk_130_method_5_code (1 : Nat) (Option.some Jvm.ClassFile.FieldType.int), Jvm.Cond.code ({ cls := "java/util/ArrayList$SubList", name := "checkForComodification", desc := "()V" } : Jvm.MethodName) jdk_130_method_28_code (1 : Nat) (Option.none : Option Jvm.ClassFile.FieldType), Jvm.Cond.code ({ cls := "com/example/circuline/circuline/storage/InsertSplitPinLaw", name := "runOk", desc := "(Ljava/util/List;II)Z" } : Jvm.MethodName) method_2_code (4 : Nat) (Option.some Jvm.ClassFile.FieldType.boolean), Jvm.Cond.code ({ cls := "java/util/ArrayList$SubList", name := "get", desc := "(I)Ljava/lang/Object;" } : Jvm.MethodName) jdk_130_method_4_code (2 : Nat) (Option.some (Jvm.ClassFile.FieldType.object "java/lang/Object")), Jvm.Cond.code ({ cls := "java/lang/Integer", name := "intValue", desc := "()I" } : Jvm.MethodName) jdk_33_method_27_code (1 : Nat) (Option.some Jvm.ClassFile.FieldType.int), Jvm.Cond.code ({ cls := "java/lang/Integer", name := "<init>", desc := "(I)V" } : Jvm.MethodName) jdk_33_method_23_code (2 : Nat) (Option.none : Option Jvm.ClassFile.FieldType), Jvm.Cond.code ({ cls := "java/lang/Number", name := "<init>", desc := "()V" } : Jvm.MethodName) jdk_18_method_1_code (1 : Nat) (Option.none : Option Jvm.ClassFile.FieldType)]
set_option maxRecDepth 65536 in
theorem codes_eq : words1.filter isCode = codes1 := rfl
theorem w_codes : ∀ c ∈ words1.filter isCode, c.before args0 about1 = true := by
  rw [codes_eq]
  intro c hc
  simp only [codes1, List.mem_cons, List.not_mem_nil, or_false] at hc
  rcases hc with rfl | rfl | rfl | rfl | rfl | rfl | rfl | rfl | rfl | rfl | rfl | rfl | rfl | rfl | rfl | rfl | rfl | rfl | rfl | rfl | rfl | rfl | rfl | rfl | rfl | rfl | rfl | rfl | rfl
  · exact w_c0
  · exact w_c1
  · exact w_c2
  · exact w_c3
  · exact w_c4
  · exact w_c5
  · exact w_c6
  · exact w_c7
  · exact w_c8
  · exact w_c9
  · exact w_c10
  · exact w_c11
  · exact w_c12
  · exact w_c13
  · exact w_c14
  · exact w_c15
  · exact w_c16
  · exact w_c17
  · exact w_c18
  · exact w_c19
  · exact w_c20
  · exact w_c21
  · exact w_c22
  · exact w_c23
  · exact w_c24
  · exact w_c25
  · exact w_c26
  · exact w_c27
  · exact w_c28
set_option maxRecDepth 65536 in
theorem w_t1 : (words1.take 24).all (fun c => isCode c || c.before args0 about1) = true := by decide +kernel
set_option maxRecDepth 65536 in
theorem w_t2 : ((words1.drop 24).take 24).all (fun c => isCode c || c.before args0 about1) = true := by decide +kernel
set_option maxRecDepth 65536 in
theorem w_t3 : (((words1.drop 24).drop 24).take 24).all (fun c => isCode c || c.before args0 about1) = true := by decide +kernel
set_option maxRecDepth 65536 in
theorem w_t4 : ((((words1.drop 24).drop 24).drop 24).take 24).all (fun c => isCode c || c.before args0 about1) = true := by decide +kernel
set_option maxRecDepth 65536 in
theorem w_t5 : (((((words1.drop 24).drop 24).drop 24).drop 24).take 24).all (fun c => isCode c || c.before args0 about1) = true := by decide +kernel
set_option maxRecDepth 65536 in
theorem w_t6 : ((((((words1.drop 24).drop 24).drop 24).drop 24).drop 24).take 24).all (fun c => isCode c || c.before args0 about1) = true := by decide +kernel
set_option maxRecDepth 65536 in
theorem w_t7 : (((((((words1.drop 24).drop 24).drop 24).drop 24).drop 24).drop 24).take 24).all (fun c => isCode c || c.before args0 about1) = true := by decide +kernel
set_option maxRecDepth 65536 in
theorem w_t8 : ((((((((words1.drop 24).drop 24).drop 24).drop 24).drop 24).drop 24).drop 24).take 24).all (fun c => isCode c || c.before args0 about1) = true := by decide +kernel
set_option maxRecDepth 65536 in
theorem w_t9 : ((((((((words1.drop 24).drop 24).drop 24).drop 24).drop 24).drop 24).drop 24).drop 24).all (fun c => isCode c || c.before args0 about1) = true := by decide +kernel
theorem w_tables : (allAtoms (Jvm.Cond.code x code maxLocals ret :: tables_1)).before args0 about1 = true := by
  rw [allAtoms_all]
  show words1.all (fun c => c.before args0 about1) = true
  refine all_split ?_ w_codes
  rw [← List.take_append_drop 24 words1, List.all_append, w_t1, ← List.take_append_drop 24 (words1.drop 24), List.all_append, w_t2, ← List.take_append_drop 24 ((words1.drop 24).drop 24), List.all_append, w_t3, ← List.take_append_drop 24 (((words1.drop 24).drop 24).drop 24), List.all_append, w_t4, ← List.take_append_drop 24 ((((words1.drop 24).drop 24).drop 24).drop 24), List.all_append, w_t5, ← List.take_append_drop 24 (((((words1.drop 24).drop 24).drop 24).drop 24).drop 24), List.all_append, w_t6, ← List.take_append_drop 24 ((((((words1.drop 24).drop 24).drop 24).drop 24).drop 24).drop 24), List.all_append, w_t7, ← List.take_append_drop 24 (((((((words1.drop 24).drop 24).drop 24).drop 24).drop 24).drop 24).drop 24), List.all_append, w_t8, w_t9]
  rfl
set_option maxRecDepth 65536 in
theorem w_rest : rest_1_c.before args0 about1 = true := by decide +kernel
set_option maxRecDepth 65536 in
theorem w_case : (Jvm.Cond.and given_1 narrow_1).before args0 about1 = true := by decide +kernel
theorem w_applies : (headSpec (Jvm.Cond.code x code maxLocals ret :: tables_1) room_1).applies x e0.platform about1 = true :=
  (Spec.applies_iff w_frames).mpr ⟨w_running, w_runnable, w_alone, w_named, w_hears, w_ripe, w_room, w_tables⟩
theorem atStart : AtStart classFile x code maxLocals ret World_1 tables_1 room_1 Calls_1 rest_1 Pre_1 launch0 p0 e0 about1 theMethod args0 below0 :=
  ⟨lists_1, trivial, launch0.admits_env _ _ _, launch0.least_env, fairChoices_fair.cas, fairChoices_fair.clock, w_frames, w_args, w_heap, w_applies, trivial, w_rest, w_case⟩
end start1
theorem witness_1 : WitnessClaimed_1 := ⟨start1.p0, start1.e0, start1.about1, start1.theMethod, start1.args0, start1.below0, start1.atStart⟩
end Jvm.Pilot.@@N@@
