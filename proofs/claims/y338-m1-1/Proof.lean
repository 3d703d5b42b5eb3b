import JvmDerived
import JvmDerived.Pilot.@@N@@Statement
import JvmDerived.Pilot.@@N@@Code
set_option linter.unusedVariables false
set_option linter.unusedSimpArgs false
namespace Jvm.RoadKit
open Sem ClassFile Op Lib Jvm.Stand Jvm.Free Jvm.LawKit
section New
variable {p : Program} {l : Launch} {e : Env} {R : Room} {s : State} {m : MethodId} {args : Array Value} {below : List Frame} {meth : Method} {c : Code} {T : State} {locs : List Loc} {cells slots : Nat}
theorem retI (X : Stand p l e R s m args below meth c T locs cells slots) (hx : p.tables.exec = Jvm.exec) {pc : Nat} {Ls : Array Slot} {z : Int32} {rest : List Value} (hret : meth.sig.returnType = some .int) (hd : decode c.code pc = .ok (.ireturn, 1)) {fs : List Frame}
    (hl : ∀ (f : JFrame) (acts : List Action), f.method = m → f.locked = none → f.entered = [] → (doReturn e (T.setTop f) acts (some (.int z))).1 = T.setFrames fs) : Steps p.tables e below (T.setTop (mkF m pc Ls (.int z :: rest))) (T.setFrames fs) := by
  have hm' : T.vm.method? m = some meth := X.method'
  have hn : narrow .int (.int z) = .int z := rfl
  show Steps p.tables e below (T.setTop { method := m, pc := pc, locals := Ls, stack := _ :: rest, locked := none }) _
  jvm_step X.here [X.here.top, hx, hd, hm', hret, hn]
  first | (intro acts; rw [hl _ acts rfl rfl rfl]) | rw [hl _ _ rfl rfl rfl]
  exact Steps.refl _
/-- the run comes from S to a state of which Φ holds -/
def ownGo (tb : Tables) (e : Env) (below : List Frame) (S : State) (Φ : State → Prop) : Prop := ∃ t, Steps tb e below S t ∧ Φ t
theorem ownStep {tb : Tables} {S S' : State} {Φ : State → Prop} (h : ∀ t, Steps tb e below S' t → Steps tb e below S t) (k : ownGo tb e below S' Φ) : ownGo tb e below S Φ := by
  obtain ⟨t, a, b⟩ := k; exact ⟨t, h t a, b⟩
/-- a body's end: what its contract says -/
def ownEnd (below : List Frame) (s : State) (Q : Option Value → Heap → List Loc → Prop) (k n : Nat) (t : State) : Prop :=
  t.status = .running ∧ ∃ v L, Ended t below (.returned v) ∧ Q v t.heap L ∧ FrameEnd s (.returned v) t L k n
theorem ownFin {tb : Tables} {S : State} {Q : Option Value → Heap → List Loc → Prop} {k n : Nat} (h : ownGo tb e below S (ownEnd below s Q k n)) :
    ∃ s₂ o, Steps tb e below S s₂ ∧ s₂.status = .running ∧ Ended s₂ below o ∧ ∃ v L, o = .returned v ∧ Q v s₂.heap L ∧ FrameEnd s o s₂ L k n := by
  obtain ⟨t, a, b, v, L, c1, d, f⟩ := h; exact ⟨t, _, a, b, c1, v, L, rfl, d, f⟩
theorem ownRet (X : Stand p l e R s m args below meth c T locs cells slots) {g : JFrame} {v : Option Value} {Q : Option Value → Heap → List Loc → Prop} {k n : Nat} (hlocks : meth.locks = false) (hv : meth.sig.returnType = none → v = none)
    (hs : ∀ fs, (∀ (f : JFrame) (acts : List Action), f.method = m → f.locked = none → f.entered = [] → (doReturn e (T.setTop f) acts v).1 = T.setFrames fs) → Steps p.tables e below (T.setTop g) (T.setFrames fs))
    (hQ : Q v T.heap locs) (hc : cells ≤ k) (hn : slots ≤ n) : ownGo p.tables e below (T.setTop g) (ownEnd below s Q k n) := by
  obtain ⟨fs, hr, hrun, hended, hW, hsame⟩ := X.leave hv hlocks
  exact ⟨_, hs fs hr, hrun, v, locs, hended, hQ, ⟨_, rfl⟩, hW, hsame.mono hc hn⟩
def ownEndW (below : List Frame) (s : State) (Q : Option Value → Heap → List Loc → Prop) (k n : Nat) (t : State) : Prop :=
  t.status = .running ∧ ∃ v L, Ended t below (.returned v) ∧ Q v t.heap L ∧ ReturnedEndW s (.returned v) t L k n
theorem ownFinW {tb : Tables} {S : State} {Q : Option Value → Heap → List Loc → Prop} {k n : Nat} (h : ownGo tb e below S (ownEndW below s Q k n)) :
    ∃ s₂ o, Steps tb e below S s₂ ∧ s₂.status = .running ∧ Ended s₂ below o ∧ ∃ v L, o = .returned v ∧ Q v s₂.heap L ∧ ReturnedEndW s o s₂ L k n := by
  obtain ⟨t, a, b, v, L, c1, d, f⟩ := h; exact ⟨t, _, a, b, c1, v, L, rfl, d, f⟩
theorem ownRetW {vm1 : Vm} (X : Stand p l e R (s.setVm vm1) m args below meth c T locs cells slots) {k0 : Nat} (hS : s.Since vm1 k0) (hk : k0 ≤ T.heap.size) {g : JFrame} {v : Option Value} {Q : Option Value → Heap → List Loc → Prop} {k n : Nat} (hlocks : meth.locks = false) (hv : meth.sig.returnType = none → v = none)
    (hs : ∀ fs, (∀ (f : JFrame) (acts : List Action), f.method = m → f.locked = none → f.entered = [] → (doReturn e (T.setTop f) acts v).1 = T.setFrames fs) → Steps p.tables e below (T.setTop g) (T.setFrames fs))
    (hQ : Q v T.heap locs) (hc : cells ≤ k) (hn : slots ≤ n) : ownGo p.tables e below (T.setTop g) (ownEndW below s Q k n) := by
  obtain ⟨fs, hr, hrun, hended, h1, h2, h3, hsame⟩ := X.leaveW hS hk hv hlocks
  exact ⟨_, hs fs hr, hrun, v, locs, hended, hQ, h1, h2, h3, hsame.mono hc hn⟩
end New
section Heaps
variable {Z : State} {h h' h0 : Heap} {ws : List Addr}
theorem own_extOf (K : Keep h h' []) : Ext h h' := ⟨K.1, fun a c q => K.2.1 a c q nin0⟩
theorem own_extRefl (h : Heap) : Ext h h := ⟨Nat.le_refl _, fun _ _ q => q⟩
theorem own_extTrans {h2 : Heap} (E : Ext h h') (F : Ext h' h2) : Ext h h2 := ⟨Nat.le_trans E.1 F.1, fun a c q => F.2 a c (E.2 a c q)⟩
theorem own_staKeep {C n d : String} {w : Value} (F : Sta Z h C n d w) (K : Keep h h' ws) (q : ∀ x ∈ ws, ∀ cell : Cell, h[x]? = some cell → cell.vm.isStatics = false) : Sta Z h' C n d w := by
  obtain ⟨cf, i, k, f, st, cell, h1, h2, h3, h4, h5, h6, h7⟩ := F
  exact ⟨cf, i, k, f, st, cell, h1, h2, h3, h4, K.2.1 st cell h5 (fun z => by rw [q st z cell h5] at h6; cases h6), h6, h7⟩
theorem own_insKeep {a : Addr} {C : String} {b : Bool} (F : Ins Z h a C b) (K : Keep h h' ws) : Ins Z h' a C b := by
  obtain ⟨cell, cT, h1, h2, h3⟩ := F
  obtain ⟨c', e1, e2, e3, -⟩ := K.2.2 a cell h1
  exact ⟨c', cT, e1, h2, by rw [e2, e3]; exact h3⟩
theorem own_scrSet {a : Addr} {cl : Cell} {z j x : Int32} (F : Scr Z h a cl z) (hj : ¬ (j < 0 ∨ cl.slots.size ≤ j.toNatClampNeg)) (W : Wr h h' a j.toNatClampNeg (.int x)) : ∃ cl', Scr Z h' a cl' z := by
  obtain ⟨A, S, N, H⟩ := F
  refine ⟨_, A.same W, by rw [sz_set]; exact S, N, fun i hi => ?_⟩
  rw [sz_set] at hi
  by_cases e : i = j
  · have q := get_hit (v := Value.int x) hj e
    rw [q, atv_of q]
  · have q := get_miss (c := cl) (v := Value.int x) (fun y => hj (Or.inl y)) (fun y => hi (Or.inl y)) e
    have r := H i hi
    rw [← q] at r
    rw [r, atv_of r]
theorem own_scrOf {a : Addr} {k : ClassId} {z : Int32} {vs : List Value} {d : Value} (F : Arv Z h a k .int z vs d) : ∃ cl, Scr Z h a cl z := by
  obtain ⟨c, A, q, S, N, H, G⟩ := F
  refine ⟨c, A, S, N, fun i hi => ?_⟩
  have lt : i.toNatClampNeg < c.slots.size := Nat.lt_of_not_le fun y => hi (Or.inr y)
  obtain ⟨w, hw⟩ := fit_I (G _ lt) (Or.inl rfl)
  have e := H _ lt
  rw [hw] at e
  rw [e, atv_of e]
end Heaps
section Start
variable {args : Array Value} {first s : State} {o : Option Outcome} {idx : List Nat} {t : Term}
theorem own_eqI {k : Int32} (h : (Cond.eq t (.int k)).value args first o s idx = some true) : t.eval args first o idx s = some (.int k) := by
  simp only [Cond.value, Term.eval] at h
  cases ht : t.eval args first o idx s with
  | none => simp [ht] at h
  | some x => cases x <;> simp [ht] at h ⊢; exact h
theorem own_eqJ {k : Int64} (h : (Cond.eq t (.long k)).value args first o s idx = some true) : t.eval args first o idx s = some (.long k) := by
  simp only [Cond.value, Term.eval] at h
  cases ht : t.eval args first o idx s with
  | none => simp [ht] at h
  | some x => cases x <;> simp [ht] at h ⊢; exact h
theorem own_len0 {k : Int32} {a : Addr} {cl : Cell} {ty : FieldType} (h : (Term.length t).eval args first o idx s = some (.int k)) (ht : t.eval args first o idx s = some (.ref a)) (A : Arr s s.heap a cl ty) : cl.slots.size < 2 ^ 31 ∧ cl.slots.size.toInt32 = k := by
  have e5 := A.fin (U := s) (Vm.Alike.refl _)
  simp only [Term.eval, ht, Option.bind_eq_bind, Option.bind_some, e5] at h
  by_cases q : cl.slots.size < 2 ^ 31
  · rw [if_pos q] at h; exact ⟨q, Value.int.inj (Option.some.inj h)⟩
  · rw [if_neg q] at h; cases h
theorem own_idxsub {k j : Int32} (hj : ¬ j < 0) : (Term.sub (.index 0) (.int k)).eval args s o [j.toNatClampNeg] s = some (.int (j - k)) := by
  have q : (Term.index 0).eval args s o [j.toNatClampNeg] s = some (.int j) := idx_at hj
  simp only [Term.eval] at q ⊢
  simpa using q
theorem own_arv0 {Z : State} {a : Addr} {cl : Cell} {ty : FieldType} {d : Value} (A : Arr Z s.heap a cl ty) (h : cl.slots.size < 2 ^ 31 ∧ cl.slots.size.toInt32 = (0 : Int32)) : Arv Z s.heap a cl.cls ty (0 : Int32) [] d := by
  have z : cl.slots.size = 0 := by
    have q := len_toInt h.1
    rw [h.2] at q
    have e0 : (0 : Int32).toInt = 0 := by decide
    omega
  exact ⟨cl, A, rfl, z, by decide, fun k hk => absurd hk (by omega), fun k hk => absurd hk (by omega)⟩
end Start
end Jvm.RoadKit
namespace OwnD
open Jvm.FP.Core
/-- 2^-22, in units of the least double -/
def UN : Nat := 2 ^ 1052
def UU : Int := ((UN : Nat) : Int)
theorem one_UU : ((one64 : Nat) : Int) = 4194304 * UU := by
  have q : one64 = 4194304 * UN := by unfold one64 UN; decide +kernel
  unfold UU; rw [q]; exact Int.natCast_mul _ _
theorem pow_UN : 2 ^ (-22 - b64.qmin).toNat = UN := by unfold UN; rw [show (-22 - b64.qmin).toNat = 1052 by decide]
theorem signed_abs (n : Int) : signed (decide (n < 0)) n.natAbs = n := by
  unfold signed
  by_cases h : n < 0 <;> simp [h] <;> omega
theorem UU_pos : 0 < UU := by
  have : 0 < UN := Nat.two_pow_pos _
  unfold UU; omega
/-- a finite double worth n * 2^-22 -/
def Zd (n : Int) (x : UInt64) : Prop := DFin x ∧ zval b64 (val64 x) = n * UU
/-- a double, no NaN, from lo * 2^-22 to hi * 2^-22 -/
def Bz (lo hi : Int) (x : UInt64) : Prop := val64 x ≠ .nan ∧ lo * UU ≤ zval b64 (val64 x) ∧ zval b64 (val64 x) ≤ hi * UU
theorem fit (n : Int) (h : n.natAbs < 2 ^ 53) : ∃ V, fits b64 V ∧ V ≠ .nan ∧ zval b64 V = n * UU := by
  obtain ⟨c', q', h1, h2⟩ := round_exact (f := b64) good_b64 (decide (n < 0)) (c := n.natAbs) (q := -22) h (by decide) (by decide)
  refine ⟨_, round_fits good_b64 (.fin (decide (n < 0)) n.natAbs (-22)), by rw [h1]; exact Datum.noConfusion, ?_⟩
  rw [h1]
  show signed (decide (n < 0)) (inUnits c' q' b64.qmin) = _
  rw [h2]
  have e : inUnits n.natAbs (-22) b64.qmin = n.natAbs * UN := by unfold inUnits; rw [pow_UN]
  rw [e, signed_mul, signed_abs]
  rfl
theorem round_fin {s : Bool} {c : Nat} {q e0 : Int} {n : Int} (hn : n.natAbs < 2 ^ 53) (h0 : e0 ≤ b64.qmin) (h0e : e0 ≤ q)
    (h : signed s (inUnits c q e0) = n * UU * ((2 ^ (b64.qmin - e0).toNat : Nat) : Int)) :
    (∃ s' c' q', round b64 (.fin s c q) = .fin s' c' q') ∧ zval b64 (round b64 (.fin s c q)) = n * UU := by
  obtain ⟨V, v1, v2, v3⟩ := fit n hn
  have a := zval_round_le good_b64 (s := s) (c := c) (q := q) v1 v2 h0 h0e (by rw [h, v3]; exact Int.le_refl _)
  have b := zval_round_ge good_b64 (s := s) (c := c) (q := q) v1 v2 h0 h0e (by rw [h, v3]; exact Int.le_refl _)
  have e : zval b64 (round b64 (.fin s c q)) = n * UU := by rw [← v3]; exact Int.le_antisymm a b
  refine ⟨?_, e⟩
  rcases roundRatio_cases b64 s c 1 q with ⟨c', q', hr⟩ | hr
  · exact ⟨s, c', q', hr⟩
  · exfalso
    have hr' : round b64 (.fin s c q) = .inf s := hr
    rw [hr'] at e
    have z := congrArg Int.natAbs e
    unfold zval at z
    rw [natAbs_signed, Int.natAbs_mul] at z
    have y : UU.natAbs = UN := by unfold UU; exact Int.natAbs_natCast _
    rw [y] at z
    have t : zmag b64 (.inf s) = 2 ^ 53 * UN * 2 ^ 993 := by
      show b64.tails * 2 ^ (b64.exps - 2) = _
      unfold UN; decide +kernel
    rw [t] at z
    have lt : n.natAbs * UN < 2 ^ 53 * UN := Nat.mul_lt_mul_of_pos_right hn (Nat.two_pow_pos _)
    have le : 2 ^ 53 * UN * 1 ≤ 2 ^ 53 * UN * 2 ^ 993 := Nat.mul_le_mul_left _ (Nat.one_le_two_pow)
    rw [Nat.mul_one] at le
    exact absurd (Nat.lt_of_lt_of_le lt le) (by rw [← z]; exact Nat.lt_irrefl _)
theorem sum_exact {x y : UInt64} {n m : Int} (hx : Zd n x) (hy : Zd m y) (h : (n + m).natAbs < 2 ^ 53) : Zd (n + m) (Jvm.FP.Core.dadd x y) := by
  obtain ⟨⟨s, c, q, ex⟩, zx⟩ := hx
  obtain ⟨⟨t, d, r, ey⟩, zy⟩ := hy
  have fx : fits b64 (.fin s c q) := ex ▸ val64_fits x
  have fy : fits b64 (.fin t d r) := ey ▸ val64_fits y
  obtain ⟨sg, k, e, h1, h2, h3⟩ := sum_units fx fy
  have E := val64_dadd x y
  rw [ex, ey, h1] at E
  rw [ex] at zx; rw [ey] at zy
  obtain ⟨⟨s', c', q', a⟩, b⟩ := round_fin (s := sg) (c := k) (q := e) (e0 := b64.qmin) h (Int.le_refl _) h2 (by rw [h3, zx, zy, Int.sub_self, ← Int.add_mul]; simp)
  exact ⟨⟨s', c', q', E.trans a⟩, by rw [E]; exact b⟩
theorem neg_exact {y : UInt64} {m : Int} (hy : Zd m y) : Zd (-m) (Jvm.FP.Core.dneg y) := by
  obtain ⟨⟨t, d, r, ey⟩, zy⟩ := hy
  have E := Jvm.FP.Core.val64_dneg y
  refine ⟨⟨_, _, _, E.trans (by rw [ey]; rfl)⟩, ?_⟩
  rw [E, zval_negate, zy, Int.neg_mul]
theorem sub_exact {x y : UInt64} {n m : Int} (hx : Zd n x) (hy : Zd m y) (h : (n - m).natAbs < 2 ^ 53) : Zd (n - m) (Jvm.FP.Core.dsub x y) := by
  rw [dsub_eq]
  exact sum_exact hx (neg_exact hy) h
/-- a sum with a double that is worth between lo and hi -/
theorem sum_between {x y : UInt64} {n lo hi : Int} (hx : Zd n x) (hy : DFin y) (h1 : lo * UU ≤ zval b64 (val64 y)) (h2 : zval b64 (val64 y) ≤ hi * UU)
    (k1 : (n + lo).natAbs < 2 ^ 53) (k2 : (n + hi).natAbs < 2 ^ 53) : Bz (n + lo) (n + hi) (Jvm.FP.Core.dadd x y) := by
  obtain ⟨⟨s, c, q, ex⟩, zx⟩ := hx
  obtain ⟨t, d, r, ey⟩ := hy
  have fx : fits b64 (.fin s c q) := ex ▸ val64_fits x
  have fy : fits b64 (.fin t d r) := ey ▸ val64_fits y
  obtain ⟨sg, k, e, g1, g2, g3⟩ := sum_units fx fy
  have E := val64_dadd x y
  rw [ex, ey, g1] at E
  rw [ex] at zx; rw [ey] at h1 h2
  obtain ⟨V, v1, v2, v3⟩ := fit _ k1
  obtain ⟨W, w1, w2, w3⟩ := fit _ k2
  refine ⟨by rw [E]; exact roundRatio_ne_nan _ _ _ _ _, ?_, ?_⟩
  · rw [E, ← v3]
    exact zval_round_ge good_b64 v1 v2 (Int.le_refl _) g2 (by rw [g3, v3, zx, Int.sub_self, Int.add_mul]; simpa using h1)
  · rw [E, ← w3]
    exact zval_round_le good_b64 w1 w2 (Int.le_refl _) g2 (by rw [g3, w3, zx, Int.sub_self, Int.add_mul]; simpa using h2)
theorem l2d_z {k : Int64} (h : k.toInt.natAbs ≤ 2 ^ 53) : DFin (Jvm.FP.Core.l2d k) ∧ zval b64 (val64 (Jvm.FP.Core.l2d k)) = k.toInt * ((one64 : Nat) : Int) := by
  have w := l2d_int h
  refine ⟨?_, ?_⟩
  · unfold DInt at w
    cases e : val64 (Jvm.FP.Core.l2d k) with
    | nan => rw [e] at w; exact w.elim
    | inf => rw [e] at w; exact w.elim
    | fin s c q => exact ⟨s, c, q, e⟩
  · rw [← pow_qmin64]; exact whole_zval good_b64 (val64_fits _) w
theorem l2d_exact {k : Int64} (h : (k.toInt * 4194304).natAbs < 2 ^ 53) : Zd (k.toInt * 4194304) (Jvm.FP.Core.l2d k) := by
  obtain ⟨a, b⟩ := l2d_z (k := k) (by omega)
  refine ⟨a, b.trans ?_⟩
  rw [one_UU, Int.mul_assoc]
/-- division by 2^21 -/
theorem div21 {k : Int64} (h : (k.toInt * 2).natAbs < 2 ^ 53) : Zd (k.toInt * 2) (Jvm.FP.Core.ddiv (Jvm.FP.Core.l2d k) 4701758010974797824) := by
  obtain ⟨⟨s, c, q, ex⟩, zx⟩ := l2d_z (k := k) (by omega)
  have E := val64_ddiv (Jvm.FP.Core.l2d k) 4701758010974797824
  have ed : val64 4701758010974797824 = .fin false (2 ^ 52) (-31) := by decide +kernel
  rw [ex, ed] at E
  have E2 : val64 (Jvm.FP.Core.ddiv (Jvm.FP.Core.l2d k) 4701758010974797824) = roundRatio b64 (s != false) c (2 ^ 52) (q - (-31)) := by
    rw [E]; unfold quotient; exact if_neg (by decide)
  have E3 : roundRatio b64 (s != false) c (2 ^ 52) (q - (-31)) = round b64 (.fin (s != false) c (q - 21)) := by
    show _ = roundRatio b64 (s != false) c 1 (q - 21)
    refine roundRatio_congr (by decide) (by decide) ?_
    rw [show (q - -31 - (q - 21)).toNat = 52 by omega, show (q - 21 - (q - -31)).toNat = 0 by omega]
    omega
  have fx : fits b64 (.fin s c q) := ex ▸ val64_fits _
  have hq := fx.2.1
  rw [ex] at zx
  have hs : (s != false) = s := by cases s <;> rfl
  obtain ⟨⟨s', c', q', a⟩, b⟩ := round_fin (s := s != false) (c := c) (q := q - 21) (e0 := b64.qmin - 21) h (by omega) (by omega) (by
    rw [hs]
    have z : signed s (inUnits c q b64.qmin) = k.toInt * ((one64 : Nat) : Int) := zx
    have u : inUnits c (q - 21) (b64.qmin - 21) = inUnits c q b64.qmin := by unfold inUnits; congr 2; omega
    rw [u, z, show (b64.qmin - (b64.qmin - 21)).toNat = 21 by omega, one_UU]
    have y : ((2 ^ 21 : Nat) : Int) = 2097152 := by decide
    rw [y, Int.mul_assoc, Int.mul_assoc, ← Int.mul_assoc 2 UU 2097152, Int.mul_comm (2 * UU) 2097152, ← Int.mul_assoc 2097152 2 UU]
    rfl)
  exact ⟨⟨s', c', q', (E2.trans E3).trans a⟩, by rw [E2, E3]; exact b⟩
/-- a whole number times 2^-20 -/
theorem mul20 {k : Int64} (h : (k.toInt * 4).natAbs < 2 ^ 53) : Zd (k.toInt * 4) (Jvm.FP.Core.dmul (Jvm.FP.Core.l2d k) 4517110426252607488) := by
  obtain ⟨⟨s, c, q, ex⟩, zx⟩ := l2d_z (k := k) (by omega)
  have ed : val64 4517110426252607488 = .fin false (2 ^ 52) (-72) := by decide +kernel
  have E := val64_dmul (Jvm.FP.Core.l2d k) 4517110426252607488
  have fx : fits b64 (.fin s c q) := ex ▸ val64_fits _
  have fd : fits b64 (.fin false (2 ^ 52) (-72)) := ed ▸ val64_fits _
  obtain ⟨p1, p2, p3⟩ := product_units fx fd
  rw [ex, ed, p1] at E
  rw [ex] at zx
  obtain ⟨⟨s', c', q', a⟩, b⟩ := round_fin (s := s != false) (c := c * 2 ^ 52) (q := q + -72) (e0 := 2 * b64.qmin) h (by decide) p2 (by
    rw [p3, signed_xor]
    have z : signed s (zmag b64 (.fin s c q)) = k.toInt * ((one64 : Nat) : Int) := zx
    have y : signed false (zmag b64 (.fin false (2 ^ 52) (-72))) = 4 * UU := by unfold UU UN; decide +kernel
    have w : 2 ^ (b64.qmin - 2 * b64.qmin).toNat = one64 := by unfold one64; decide +kernel
    rw [z, y, w, Int.mul_assoc, Int.mul_assoc, Int.mul_assoc, Int.mul_comm ((one64 : Nat) : Int) (4 * UU), Int.mul_assoc])
  exact ⟨⟨s', c', q', E.trans a⟩, by rw [E]; exact b⟩
/-- 1e-6 -/
theorem tol : DFin 4517329193108106637 ∧ 4 * UU ≤ zval b64 (val64 4517329193108106637) ∧ zval b64 (val64 4517329193108106637) ≤ 5 * UU := by
  have ed : val64 4517329193108106637 = .fin false 4722366482869645 (-72) := by decide +kernel
  refine ⟨⟨_, _, _, ed⟩, ?_, ?_⟩ <;> rw [ed] <;> unfold UU UN <;> decide +kernel
theorem add_tol {x : UInt64} {n : Int} (hx : Zd n x) (h : n.natAbs < 2 ^ 52) : Bz (n + 4) (n + 5) (Jvm.FP.Core.dadd x 4517329193108106637) :=
  sum_between hx tol.1 tol.2.1 tol.2.2 (by omega) (by omega)
theorem sub_tol {x : UInt64} {n : Int} (hx : Zd n x) (h : n.natAbs < 2 ^ 52) : Bz (n - 5) (n - 4) (Jvm.FP.Core.dsub x 4517329193108106637) := by
  rw [dsub_eq]
  obtain ⟨⟨t, d, r, ey⟩, t1, t2⟩ := tol
  have E := Jvm.FP.Core.val64_dneg 4517329193108106637
  have N : zval b64 (val64 (Jvm.FP.Core.dneg 4517329193108106637)) = -zval b64 (val64 4517329193108106637) := by rw [E, zval_negate]
  exact sum_between (lo := -5) (hi := -4) hx ⟨_, _, _, E.trans (by rw [ey]; rfl)⟩ (by rw [N]; omega) (by rw [N]; omega) (by omega) (by omega)
theorem Zd.ne_nan {n : Int} {x : UInt64} (h : Zd n x) : val64 x ≠ .nan := h.1.ne_nan
theorem Zd.bz {n : Int} {x : UInt64} (h : Zd n x) : Bz n n x := ⟨h.ne_nan, Int.le_of_eq h.2.symm, Int.le_of_eq h.2⟩
theorem Bz.no {lo hi : Int} {x : UInt64} (h : Bz lo hi x) : Jvm.FP.Core.dIsNaN x = false := (notNaN_iff x).mpr h.1
theorem cmp_lt {a b c d : Int} {x y : UInt64} (hx : Bz a b x) (hy : Bz c d y) (h : b < c) : Jvm.FP.Core.dcmp x y = some .lt := by
  rw [dcmp_zval hx.1 hy.1, (compare_lt_iff _ _).mpr]
  exact Int.lt_of_le_of_lt hx.2.2 (Int.lt_of_lt_of_le (Int.mul_lt_mul_of_pos_right h UU_pos) hy.2.1)
theorem cmp_gt {a b c d : Int} {x y : UInt64} (hx : Bz a b x) (hy : Bz c d y) (h : d < a) : Jvm.FP.Core.dcmp x y = some .gt := by
  rw [dcmp_zval hx.1 hy.1, (compare_gt_iff _ _).mpr]
  exact Int.lt_of_le_of_lt hy.2.2 (Int.lt_of_lt_of_le (Int.mul_lt_mul_of_pos_right h UU_pos) hx.2.1)
theorem cmp_ge {a b c d : Int} {x y : UInt64} (hx : Bz a b x) (hy : Bz c d y) (h : d ≤ a) : Jvm.FP.Core.dcmp x y = some .gt ∨ Jvm.FP.Core.dcmp x y = some .eq := by
  rw [dcmp_zval hx.1 hy.1]
  have q : zval b64 (val64 y) ≤ zval b64 (val64 x) := Int.le_trans hy.2.2 (Int.le_trans (Int.mul_le_mul_of_nonneg_right h (Int.le_of_lt UU_pos)) hx.2.1)
  rcases Int.lt_or_eq_of_le q with q | q
  · left; rw [(compare_gt_iff _ _).mpr q]
  · right; rw [(compare_eq_iff _ _).mpr q.symm]
theorem cmp_le {a b c d : Int} {x y : UInt64} (hx : Bz a b x) (hy : Bz c d y) (h : b ≤ c) : Jvm.FP.Core.dcmp x y = some .lt ∨ Jvm.FP.Core.dcmp x y = some .eq := by
  rw [dcmp_zval hx.1 hy.1]
  have q : zval b64 (val64 x) ≤ zval b64 (val64 y) := Int.le_trans hx.2.2 (Int.le_trans (Int.mul_le_mul_of_nonneg_right h (Int.le_of_lt UU_pos)) hy.2.1)
  rcases Int.lt_or_eq_of_le q with q | q
  · left; rw [(compare_lt_iff _ _).mpr q]
  · right; rw [(compare_eq_iff _ _).mpr q]
theorem cmp_eq {a : Int} {x y : UInt64} (hx : Zd a x) (hy : Zd a y) : Jvm.FP.Core.dcmp x y = some .eq := by
  rw [dcmp_zval hx.ne_nan hy.ne_nan, (compare_eq_iff _ _).mpr (hx.2.trans hy.2.symm)]
end OwnD
namespace Jvm.Pilot.@@N@@
open Jvm Jvm.ClassFile Sem Op Lib Jvm.Free Jvm.Stand Jvm.LawKit Jvm.RoadKit Bundle Jvm.Pilot.@@N@@.Jvm.D
def ow0 := List.mem_of_getElem? (l := tables_1) (i := 0) rfl
def ow1 := List.mem_of_getElem? (l := tables_1) (i := 1) rfl
def ow2 := List.mem_of_getElem? (l := tables_1) (i := 2) rfl
def ow3 := List.mem_of_getElem? (l := tables_1) (i := 3) rfl
def ow4 := List.mem_of_getElem? (l := tables_1) (i := 4) rfl
def ow5 := List.mem_of_getElem? (l := tables_1) (i := 5) rfl
def ow6 := List.mem_of_getElem? (l := tables_1) (i := 6) rfl
def ow7 := List.mem_of_getElem? (l := tables_1) (i := 7) rfl
def ow8 := List.mem_of_getElem? (l := tables_1) (i := 8) rfl
def ow9 := List.mem_of_getElem? (l := tables_1) (i := 9) rfl
def ow10 := List.mem_of_getElem? (l := tables_1) (i := 10) rfl
def ow11 := List.mem_of_getElem? (l := tables_1) (i := 11) rfl
def ow12 := List.mem_of_getElem? (l := tables_1) (i := 12) rfl
def ow13 := List.mem_of_getElem? (l := tables_1) (i := 13) rfl
def ow14 := List.mem_of_getElem? (l := tables_1) (i := 14) rfl
def ow15 := List.mem_of_getElem? (l := tables_1) (i := 15) rfl
def ow16 := List.mem_of_getElem? (l := tables_1) (i := 16) rfl
def ow17 := List.mem_of_getElem? (l := tables_1) (i := 17) rfl
def ow18 := List.mem_of_getElem? (l := tables_1) (i := 18) rfl
def ow19 := List.mem_of_getElem? (l := tables_1) (i := 19) rfl
def ow20 := List.mem_of_getElem? (l := tables_1) (i := 20) rfl
def ow21 := List.mem_of_getElem? (l := tables_1) (i := 21) rfl
def ow22 := List.mem_of_getElem? (l := tables_1) (i := 22) rfl
def ow23 := List.mem_of_getElem? (l := tables_1) (i := 23) rfl
def ow24 := List.mem_of_getElem? (l := tables_1) (i := 24) rfl
def ow25 := List.mem_of_getElem? (l := tables_1) (i := 25) rfl
def ow26 := List.mem_of_getElem? (l := tables_1) (i := 26) rfl
def ow27 := List.mem_of_getElem? (l := tables_1) (i := 27) rfl
def ow28 := List.mem_of_getElem? (l := tables_1) (i := 28) rfl
def ow29 := List.mem_of_getElem? (l := tables_1) (i := 29) rfl
def ow30 := List.mem_of_getElem? (l := tables_1) (i := 30) rfl
def ow31 := List.mem_of_getElem? (l := tables_1) (i := 31) rfl
def ow32 := List.mem_of_getElem? (l := tables_1) (i := 32) rfl
def ow33 := List.mem_of_getElem? (l := tables_1) (i := 33) rfl
def ow34 := List.mem_of_getElem? (l := tables_1) (i := 34) rfl
def ow35 := List.mem_of_getElem? (l := tables_1) (i := 35) rfl
def ow36 := List.mem_of_getElem? (l := tables_1) (i := 36) rfl
def ow37 := List.mem_of_getElem? (l := tables_1) (i := 37) rfl
def ow38 := List.mem_of_getElem? (l := tables_1) (i := 38) rfl
def ow39 := List.mem_of_getElem? (l := tables_1) (i := 39) rfl
def ow40 := List.mem_of_getElem? (l := tables_1) (i := 40) rfl
def ow41 := List.mem_of_getElem? (l := tables_1) (i := 41) rfl
def ow42 := List.mem_of_getElem? (l := tables_1) (i := 42) rfl
def ow43 := List.mem_of_getElem? (l := tables_1) (i := 43) rfl
def ow44 := List.mem_of_getElem? (l := tables_1) (i := 44) rfl
def ow45 := List.mem_of_getElem? (l := tables_1) (i := 45) rfl
def ow46 := List.mem_of_getElem? (l := tables_1) (i := 46) rfl
def ow47 := List.mem_of_getElem? (l := tables_1) (i := 47) rfl
def ow48 := List.mem_of_getElem? (l := tables_1) (i := 48) rfl
def ow49 := List.mem_of_getElem? (l := tables_1) (i := 49) rfl
def ow50 := List.mem_of_getElem? (l := tables_1) (i := 50) rfl
def ow51 := List.mem_of_getElem? (l := tables_1) (i := 51) rfl
def ow52 := List.mem_of_getElem? (l := tables_1) (i := 52) rfl
def ow53 := List.mem_of_getElem? (l := tables_1) (i := 53) rfl
def ow54 := List.mem_of_getElem? (l := tables_1) (i := 54) rfl
open Jvm.Free.Fl
def own_uu (k : Int64) : UInt64 := FP.ddiv (FP.l2d k) (4701758010974797824 : UInt64)
theorem own_uu_no (k : Int64) : NoNaN64 (FP.ddiv (FP.l2d k) (4701758010974797824 : UInt64)) := ddiv_out (l2d_fin k).noNaN (by unfold Fin64; decide) (by unfold Nz64; decide)
def own_max (u v : Int64) : Int64 := if lcmpW u v < (0 : Int32) then v else u
def own_cont (l1 t1 r1 b1 l2 t2 r2 b2 : UInt64) : Int32 :=
  if (cmpValue (FP.dcmp l2 (FP.dsub l1 (4517329193108106637 : UInt64))) .l) < (0 : Int32) then 0
  else if (0 : Int32) < (cmpValue (FP.dcmp r2 (FP.dadd r1 (4517329193108106637 : UInt64))) .g) then 0
  else if (cmpValue (FP.dcmp t2 (FP.dsub t1 (4517329193108106637 : UInt64))) .l) < (0 : Int32) then 0
  else if (0 : Int32) < (cmpValue (FP.dcmp b2 (FP.dadd b1 (4517329193108106637 : UInt64))) .g) then 0
  else 1
theorem own_cl {x y : UInt64} (h : FP.Core.dcmp x y = some .lt) : cmpValue (FP.dcmp x y) .l < (0 : Int32) := by
  have e : FP.dcmp x y = some .lt := h
  rw [e]; decide
theorem own_cl' {x y : UInt64} (h : FP.Core.dcmp x y = some .gt ∨ FP.Core.dcmp x y = some .eq) : ¬ cmpValue (FP.dcmp x y) .l < (0 : Int32) := by
  rcases h with h | h
  · have e : FP.dcmp x y = some .gt := h
    rw [e]; decide
  · have e : FP.dcmp x y = some .eq := h
    rw [e]; decide
theorem own_cg {x y : UInt64} (h : FP.Core.dcmp x y = some .gt) : (0 : Int32) < cmpValue (FP.dcmp x y) .g := by
  have e : FP.dcmp x y = some .gt := h
  rw [e]; decide
theorem own_cg' {x y : UInt64} (h : FP.Core.dcmp x y = some .lt ∨ FP.Core.dcmp x y = some .eq) : ¬ (0 : Int32) < cmpValue (FP.dcmp x y) .g := by
  rcases h with h | h
  · have e : FP.dcmp x y = some .lt := h
    rw [e]; decide
  · have e : FP.dcmp x y = some .eq := h
    rw [e]; decide
theorem own_zu (k : Int64) (h : -8589934592 ≤ k.toInt ∧ k.toInt ≤ 8589934592) : OwnD.Zd (k.toInt * 2) (own_uu k) := OwnD.div21 (by omega)
theorem own_no {x : UInt64} {lo hi : Int} (h : OwnD.Bz lo hi x) : NoNaN64 x := noNaN64_no.mpr h.no
theorem own_add {a b : Int64} (ha : -8589934592 ≤ a.toInt ∧ a.toInt ≤ 8589934592) (hb : -8589934592 ≤ b.toInt ∧ b.toInt ≤ 8589934592) : (a + b).toInt = a.toInt + b.toInt := by
  rw [Int64.toInt_add]; exact Int.bmod_eq_of_le (by omega) (by omega)
theorem own_sub {a b : Int64} (ha : -8589934592 ≤ a.toInt ∧ a.toInt ≤ 8589934592) (hb : -8589934592 ≤ b.toInt ∧ b.toInt ≤ 8589934592) : (a - b).toInt = a.toInt - b.toInt := by
  rw [Int64.toInt_sub]; exact Int.bmod_eq_of_le (by omega) (by omega)
theorem own_maxI (u v : Int64) : (own_max u v).toInt = max u.toInt v.toInt := by
  unfold own_max
  by_cases h : lcmpW u v < (0 : Int32)
  · rw [if_pos h]; rw [lw_lt, Int64.lt_iff_toInt_lt] at h; omega
  · rw [if_neg h]; rw [lw_lt, Int64.lt_iff_toInt_lt] at h; omega
theorem own_axis (a b c d : Int32) : NoNaN64 (FP.dadd (own_uu a.toInt64) (own_uu b.toInt64)) ∧ NoNaN64 (FP.dadd (own_uu (a.toInt64 + c.toInt64)) (own_uu (own_max (0 : Int64) (b.toInt64 + d.toInt64))))
    ∧ NoNaN64 (FP.dsub (own_uu a.toInt64) (4517329193108106637 : UInt64)) ∧ NoNaN64 (FP.dadd (FP.dadd (own_uu a.toInt64) (own_uu b.toInt64)) (4517329193108106637 : UInt64))
    ∧ (cmpValue (FP.dcmp (own_uu (a.toInt64 + c.toInt64)) (FP.dsub (own_uu a.toInt64) (4517329193108106637 : UInt64))) .l < (0 : Int32) ↔ lcmpW (a.toInt64 + c.toInt64) (a.toInt64 - (2 : Int64)) < (0 : Int32))
    ∧ ((0 : Int32) < cmpValue (FP.dcmp (FP.dadd (own_uu (a.toInt64 + c.toInt64)) (own_uu (own_max (0 : Int64) (b.toInt64 + d.toInt64)))) (FP.dadd (FP.dadd (own_uu a.toInt64) (own_uu b.toInt64)) (4517329193108106637 : UInt64))) .g
      ↔ (0 : Int32) < lcmpW ((a.toInt64 + c.toInt64) + own_max (0 : Int64) (b.toInt64 + d.toInt64)) ((a.toInt64 + b.toInt64) + (2 : Int64))) := by
  have ra := rng32 a
  have rb := rng32 b
  have rc := rng32 c
  have rd := rng32 d
  have ea := c_i2l a
  have eb := c_i2l b
  have ec := c_i2l c
  have ed := c_i2l d
  have e0 : (0 : Int64).toInt = 0 := by decide
  have e2 : (2 : Int64).toInt = 2 := by decide
  generalize a.toInt64 = A at *
  generalize b.toInt64 = B at *
  generalize c.toInt64 = C at *
  generalize d.toInt64 = D at *
  have eo : (A + C).toInt = A.toInt + C.toInt := own_add (by omega) (by omega)
  have ebd : (B + D).toInt = B.toInt + D.toInt := own_add (by omega) (by omega)
  have eab : (A + B).toInt = A.toInt + B.toInt := own_add (by omega) (by omega)
  have ew := own_maxI (0 : Int64) (B + D)
  rw [e0, ebd] at ew
  generalize own_max (0 : Int64) (B + D) = W at *
  have eow : (A + C + W).toInt = (A + C).toInt + W.toInt := own_add (by omega) (by omega)
  have e4 : (A + B + 2).toInt = (A + B).toInt + 2 := by rw [own_add (by omega) (by omega), e2]
  have e5 : (A - 2).toInt = A.toInt - 2 := by rw [own_sub (by omega) (by omega), e2]
  have zA := own_zu A (by omega)
  have zB := own_zu B (by omega)
  have zO := own_zu (A + C) (by omega)
  have zW := own_zu W (by omega)
  have sAB := OwnD.sum_exact zA zB (by omega)
  have sOW := OwnD.sum_exact zO zW (by omega)
  have tA := OwnD.sub_tol zA (by omega)
  have tAB := OwnD.add_tol sAB (by omega)
  refine ⟨own_no sAB.bz, own_no sOW.bz, own_no tA, own_no tAB, ?_, ?_⟩
  · rw [lw_lt, Int64.lt_iff_toInt_lt, e5, eo]
    by_cases h : A.toInt + C.toInt < A.toInt - 2
    · exact ⟨fun _ => h, fun _ => own_cl (OwnD.cmp_lt zO.bz tA (by omega))⟩
    · exact ⟨fun q => absurd q (own_cl' (OwnD.cmp_ge zO.bz tA (by omega))), fun q => absurd q h⟩
  · rw [lw_gt, Int64.lt_iff_toInt_lt, e4, eow, eo, eab]
    by_cases h : A.toInt + B.toInt + 2 < A.toInt + C.toInt + W.toInt
    · exact ⟨fun _ => h, fun _ => own_cg (OwnD.cmp_gt sOW.bz tAB (by omega))⟩
    · exact ⟨fun q => absurd q (own_cg' (OwnD.cmp_le sOW.bz tAB (by omega))), fun q => absurd q h⟩
theorem own_end1 {l1 t1 r1 b1 l2 t2 r2 b2 : UInt64} {L1 L2 L3 L4 : Int32}
    (h1 : cmpValue (FP.dcmp l2 (FP.dsub l1 (4517329193108106637 : UInt64))) .l < (0 : Int32) ↔ L1 < (0 : Int32)) (h2 : (0 : Int32) < cmpValue (FP.dcmp r2 (FP.dadd r1 (4517329193108106637 : UInt64))) .g ↔ (0 : Int32) < L2)
    (h3 : cmpValue (FP.dcmp t2 (FP.dsub t1 (4517329193108106637 : UInt64))) .l < (0 : Int32) ↔ L3 < (0 : Int32)) (h4 : (0 : Int32) < cmpValue (FP.dcmp b2 (FP.dadd b1 (4517329193108106637 : UInt64))) .g ↔ (0 : Int32) < L4)
    (h : ¬ L1 < (0 : Int32) ∧ ¬ (0 : Int32) < L2 ∧ ¬ L3 < (0 : Int32) ∧ ¬ (0 : Int32) < L4) : own_cont l1 t1 r1 b1 l2 t2 r2 b2 = 1 := by
  unfold own_cont
  rw [if_neg (fun q => h.1 (h1.mp q)), if_neg (fun q => h.2.1 (h2.mp q)), if_neg (fun q => h.2.2.1 (h3.mp q)), if_neg (fun q => h.2.2.2 (h4.mp q))]
theorem own_end0 {l1 t1 r1 b1 l2 t2 r2 b2 : UInt64} {L1 L2 L3 L4 : Int32}
    (h1 : cmpValue (FP.dcmp l2 (FP.dsub l1 (4517329193108106637 : UInt64))) .l < (0 : Int32) ↔ L1 < (0 : Int32)) (h2 : (0 : Int32) < cmpValue (FP.dcmp r2 (FP.dadd r1 (4517329193108106637 : UInt64))) .g ↔ (0 : Int32) < L2)
    (h3 : cmpValue (FP.dcmp t2 (FP.dsub t1 (4517329193108106637 : UInt64))) .l < (0 : Int32) ↔ L3 < (0 : Int32)) (h4 : (0 : Int32) < cmpValue (FP.dcmp b2 (FP.dadd b1 (4517329193108106637 : UInt64))) .g ↔ (0 : Int32) < L4)
    (h : L1 < (0 : Int32) ∨ (0 : Int32) < L2 ∨ L3 < (0 : Int32) ∨ (0 : Int32) < L4) : own_cont l1 t1 r1 b1 l2 t2 r2 b2 = 0 := by
  unfold own_cont
  rw [← h1, ← h2, ← h3, ← h4] at h
  rcases h with h | h | h | h <;> simp [h]
theorem own_u_d0 : decode method_2_code 0 = .ok (.lload_n 0, 1) := by decide +kernel
theorem own_u_d1 : decode method_2_code 1 = .ok (.l2d, 1) := by decide +kernel
theorem own_u_d2 : decode method_2_code 2 = .ok (.ldc2_w 7, 3) := by decide +kernel
theorem own_u_d5 : decode method_2_code 5 = .ok (.ddiv, 1) := by decide +kernel
theorem own_u_d6 : decode method_2_code 6 = .ok (.dreturn, 1) := by decide +kernel
theorem own_u_pn : plainName "com/example/adept_layout/adeptlayout/geometry/BoxContainsPinLaw" = true := by first | (simp [plainName, overriddenIn]; done) | decide +kernel
theorem own_u_ef (m : MethodId) (x0 : Int64) : entryFrame m #[(.long x0)] 2 = mkF m 0 #[.val (.long x0), .second] [] := by first | (simp [entryFrame, mkF, argsToLocals, Value.category]; done) | rfl
def own_u_Q (Z : State) (kx : Int64) (h0 : Heap) (n0 : Nat) (vv_ : Option Value) (hh_ : Heap) (LL_ : List Loc) : Prop := vv_ = some (.double (own_uu kx)) ∧ Fr n0 LL_ ∧ hh_ = h0
set_option maxRecDepth 65536 in
set_option maxHeartbeats 40000000 in
theorem own_u (l : Launch) (Z : State) (a0 : Array Value) (hw : ∀ d ∈ tables_1, d.before a0 Z = true) (ws : List Jvm.Cond) (kx : Int64) (h0 : Heap) (n0 : Nat) (Z0 : n0 ≤ h0.size) :
    MetFree l (⟨"com/example/adept_layout/adeptlayout/geometry/BoxContainsPinLaw", "u", "(J)D"⟩ : MethodName) (head1 (Jvm.Cond.code (⟨"com/example/adept_layout/adeptlayout/geometry/BoxContainsPinLaw", "u", "(J)D"⟩ : MethodName) method_2_code 2 (some .double) :: ws) ({ frames := 0, cells := 0, slots := 0, locals := 0 } : Room)) (fun aa_ UU_ => aa_ = #[(.long kx)] ∧ Z.Warmed39 UU_.vm ∧ UU_.heap = h0) (fun _ _ _ _ _ => True) (fun _ UU_ oo_ UV_ => ∃ vv_ LL_, oo_ = .returned vv_ ∧ own_u_Q Z kx h0 n0 vv_ UV_.heap LL_ ∧ FrameEnd UU_ oo_ UV_ LL_ ({ frames := 0, cells := 0, slots := 0, locals := 0 } : Room).cells ({ frames := 0, cells := 0, slots := 0, locals := 0 } : Room).slots) := by
  refine MetFree.of_bodySF (plainFor_of_name own_u_pn) hisR ?_
  intro p e s m args below meth c s₁ Bd hml0 hP hK
  obtain ⟨rfl, hZ, hh⟩ := hP
  have hx := Bd.exec
  have hby := Bd.bytes
  have hml : c.maxLocals = 2 := hml0
  have hown : s.vm.findClass "com/example/adept_layout/adeptlayout/geometry/BoxContainsPinLaw" = some m.cls := findClass_of_methodNamed Bd.named
  have hnm := (name_of_methodNamed Bd.named Bd.method).1
  have X0 : Stand p l e ({ frames := 0, cells := 0, slots := 0, locals := 0 } : Room) s m #[(.long kx)] below meth c s₁ [] 0 0 := Stand.of_body Bd
  have e0 : s₁.heap = h0 := by rw [← hh, Bd.state]; rfl
  have N0 := Fr.nil n0
  have KP0 : Keep h0 h0 [] := Keep.refl _ _
  refine ownFin (Q := own_u_Q Z kx h0 n0) ?_
  refine ownStep (fun _ k => castTop (own_u_ef m kx) k) ?_
  show ownGo p.tables e below (s₁.setTop (mkF m 0 #[.val (.long kx), .second] [])) _
  refine ownStep (fun _ k => XS.lloadN X0.here hx rfl (hb hby own_u_d0) rfl  k) ?_
  refine ownStep (fun _ k => XS.l2dS X0.here hx rfl (hb hby own_u_d1) rfl rfl k) ?_
  show ownGo p.tables e below (s₁.setTop (mkF m 2 #[.val (.long kx), .second] [(.double (FP.l2d kx))])) _
  refine ownStep (X0.ldc2DoubleC hx hown (mvT hZ (hw _ ow15)) (g := (mkF m 2 #[.val (.long kx), .second] [(.double (FP.l2d kx))])) rfl (hb hby own_u_d2)) ?_
  refine ownStep (fun _ k => XS.ddivS X0.here hx rfl (hb hby own_u_d5) rfl (own_uu_no kx) rfl k) ?_
  show ownGo p.tables e below (s₁.setTop (mkF m 6 #[.val (.long kx), .second] [(.double (FP.ddiv (FP.l2d kx) (4701758010974797824 : UInt64)))])) _
  exact ownRet X0 (v := some (.double (FP.ddiv (FP.l2d kx) (4701758010974797824 : UInt64)))) Bd.notSynchronized (fun h => by rw [Bd.returns] at h; cases h) (fun _ hr => retOut X0 hx (t := .double) Bd.returns rfl (Or.inr (Or.inr (Or.inl ⟨rfl, rfl, _, rfl⟩))) (hb hby own_u_d6) hr) (by rw [e0]; exact ⟨rfl, N0, rfl⟩) (by decide) (by decide)
theorem own_mmax_d0 : decode jdk_29_method_66_code 0 = .ok (.lload_n 0, 1) := by decide +kernel
theorem own_mmax_d1 : decode jdk_29_method_66_code 1 = .ok (.lload_n 2, 1) := by decide +kernel
theorem own_mmax_d2 : decode jdk_29_method_66_code 2 = .ok (.lcmp, 1) := by decide +kernel
theorem own_mmax_d3 : decode jdk_29_method_66_code 3 = .ok (.ifCond .lt 7, 3) := by decide +kernel
theorem own_mmax_d6 : decode jdk_29_method_66_code 6 = .ok (.lload_n 0, 1) := by decide +kernel
theorem own_mmax_d7 : decode jdk_29_method_66_code 7 = .ok (.goto 4, 3) := by decide +kernel
theorem own_mmax_d10 : decode jdk_29_method_66_code 10 = .ok (.lload_n 2, 1) := by decide +kernel
theorem own_mmax_d11 : decode jdk_29_method_66_code 11 = .ok (.lreturn, 1) := by decide +kernel
theorem own_mmax_ef (m : MethodId) (x0 : Int64) (x1 : Int64) : entryFrame m #[(.long x0), (.long x1)] 4 = mkF m 0 #[.val (.long x0), .second, .val (.long x1), .second] [] := by first | (simp [entryFrame, mkF, argsToLocals, Value.category]; done) | rfl
def own_mmax_Q (Z : State) (u : Int64) (v : Int64) (h0 : Heap) (n0 : Nat) (vv_ : Option Value) (hh_ : Heap) (LL_ : List Loc) : Prop := vv_ = some (.long (own_max u v)) ∧ Fr n0 LL_ ∧ hh_ = h0
set_option maxRecDepth 65536 in
set_option maxHeartbeats 40000000 in
theorem own_mmax (l : Launch) (Z : State) (a0 : Array Value) (hw : ∀ d ∈ tables_1, d.before a0 Z = true) (ws : List Jvm.Cond) (u : Int64) (v : Int64) (h0 : Heap) (n0 : Nat) (Z0 : n0 ≤ h0.size) :
    MetFree l (⟨"java/lang/Math", "max", "(JJ)J"⟩ : MethodName) (head1 (Jvm.Cond.code (⟨"java/lang/Math", "max", "(JJ)J"⟩ : MethodName) jdk_29_method_66_code 4 (some .long) :: ws) ({ frames := 0, cells := 0, slots := 0, locals := 0 } : Room)) (fun aa_ UU_ => aa_ = #[(.long u), (.long v)] ∧ Z.Warmed39 UU_.vm ∧ UU_.heap = h0) (fun _ _ _ _ _ => True) (fun _ UU_ oo_ UV_ => ∃ vv_ LL_, oo_ = .returned vv_ ∧ own_mmax_Q Z u v h0 n0 vv_ UV_.heap LL_ ∧ FrameEnd UU_ oo_ UV_ LL_ ({ frames := 0, cells := 0, slots := 0, locals := 0 } : Room).cells ({ frames := 0, cells := 0, slots := 0, locals := 0 } : Room).slots) := by
  refine MetFree.of_bodySF (Jvm.Free.JP.mathPlain rfl (by decide +kernel)) hisR ?_
  intro p e s m args below meth c s₁ Bd hml0 hP hK
  obtain ⟨rfl, hZ, hh⟩ := hP
  have hx := Bd.exec
  have hby := Bd.bytes
  have hml : c.maxLocals = 4 := hml0
  have hown : s.vm.findClass "java/lang/Math" = some m.cls := findClass_of_methodNamed Bd.named
  have hnm := (name_of_methodNamed Bd.named Bd.method).1
  have X0 : Stand p l e ({ frames := 0, cells := 0, slots := 0, locals := 0 } : Room) s m #[(.long u), (.long v)] below meth c s₁ [] 0 0 := Stand.of_body Bd
  have e0 : s₁.heap = h0 := by rw [← hh, Bd.state]; rfl
  have N0 := Fr.nil n0
  have KP0 : Keep h0 h0 [] := Keep.refl _ _
  refine ownFin (Q := own_mmax_Q Z u v h0 n0) ?_
  refine ownStep (fun _ k => castTop (own_mmax_ef m u v) k) ?_
  show ownGo p.tables e below (s₁.setTop (mkF m 0 #[.val (.long u), .second, .val (.long v), .second] [])) _
  refine ownStep (fun _ k => XS.lloadN X0.here hx rfl (hb hby own_mmax_d0) rfl  k) ?_
  refine ownStep (fun _ k => XS.lloadN X0.here hx rfl (hb hby own_mmax_d1) rfl  k) ?_
  refine ownStep (fun _ k => XS.lcmp X0.here hx rfl (hb hby own_mmax_d2) rfl k) ?_
  show ownGo p.tables e below (s₁.setTop (mkF m 3 #[.val (.long u), .second, .val (.long v), .second] [(.int (lcmpW u v))])) _
  by_cases hc3 : (lcmpW u v) < (0 : Int32)
  · skip
    refine ownStep (fun _ k => XS.ifYes X0.here hx rfl (pc0 := 3) (pc' := 10) rfl (hb hby own_mmax_d3) rfl ((if0 _ _).trans (tlt (hc3 : (lcmpW u v) < (0 : Int32))).1) (by decide) (by decide) k) ?_
    refine ownStep (fun _ k => XS.lloadN X0.here hx rfl (hb hby own_mmax_d10) rfl  k) ?_
    show ownGo p.tables e below (s₁.setTop (mkF m 11 #[.val (.long u), .second, .val (.long v), .second] [(.long v)])) _
    exact ownRet X0 (v := some (.long v)) Bd.notSynchronized (fun h => by rw [Bd.returns] at h; cases h) (fun _ hr => retOut X0 hx (t := .long) Bd.returns rfl (Or.inr (Or.inl ⟨rfl, rfl, _, rfl⟩)) (hb hby own_mmax_d11) hr) (by rw [e0]; exact ⟨(by unfold own_max; rw [if_pos hc3]), N0, rfl⟩) (by decide) (by decide)
  · skip
    refine ownStep (fun _ k => XS.ifNo X0.here hx rfl (hb hby own_mmax_d3) rfl ((if0 _ _).trans (flt (hc3 : ¬ (lcmpW u v) < (0 : Int32))).1) k) ?_
    refine ownStep (fun _ k => XS.lloadN X0.here hx rfl (hb hby own_mmax_d6) rfl  k) ?_
    refine ownStep (fun _ k => XS.goto X0.here hx rfl (pc0 := 7) (pc' := 11) rfl (hb hby own_mmax_d7) (by decide) (by decide) k) ?_
    show ownGo p.tables e below (s₁.setTop (mkF m 11 #[.val (.long u), .second, .val (.long v), .second] [(.long u)])) _
    exact ownRet X0 (v := some (.long u)) Bd.notSynchronized (fun h => by rw [Bd.returns] at h; cases h) (fun _ hr => retOut X0 hx (t := .long) Bd.returns rfl (Or.inr (Or.inl ⟨rfl, rfl, _, rfl⟩)) (hb hby own_mmax_d11) hr) (by rw [e0]; exact ⟨(by unfold own_max; rw [if_neg hc3]), N0, rfl⟩) (by decide) (by decide)
theorem own_pt_d0 : decode prog_3_method_1_code 0 = .ok (.aload_n 0, 1) := by decide +kernel
theorem own_pt_d1 : decode prog_3_method_1_code 1 = .ok (.invokespecial 1, 3) := by decide +kernel
theorem own_pt_d4 : decode prog_3_method_1_code 4 = .ok (.aload_n 0, 1) := by decide +kernel
theorem own_pt_d5 : decode prog_3_method_1_code 5 = .ok (.dload_n 1, 1) := by decide +kernel
theorem own_pt_d6 : decode prog_3_method_1_code 6 = .ok (.putfield 7, 3) := by decide +kernel
theorem own_pt_d9 : decode prog_3_method_1_code 9 = .ok (.aload_n 0, 1) := by decide +kernel
theorem own_pt_d10 : decode prog_3_method_1_code 10 = .ok (.dload_n 3, 1) := by decide +kernel
theorem own_pt_d11 : decode prog_3_method_1_code 11 = .ok (.putfield 13, 3) := by decide +kernel
theorem own_pt_d14 : decode prog_3_method_1_code 14 = .ok (.return_, 1) := by decide +kernel
theorem own_pt_pn : plainName "com/example/adept_layout/adeptlayout/geometry/Point" = true := by first | (simp [plainName, overriddenIn]; done) | decide +kernel
theorem own_pt_ef (m : MethodId) (x0 : Addr) (x1 : UInt64) (x2 : UInt64) : entryFrame m #[(.ref x0), (.double x1), (.double x2)] 5 = mkF m 0 #[.val (.ref x0), .val (.double x1), .second, .val (.double x2), .second] [] := by first | (simp [entryFrame, mkF, argsToLocals, Value.category]; done) | rfl
def own_pt_Q (Z : State) (a : Addr) (vx : UInt64) (vy : UInt64) (h0 : Heap) (n0 : Nat) (vv_ : Option Value) (hh_ : Heap) (LL_ : List Loc) : Prop := vv_ = none ∧ Fr n0 LL_ ∧ Keep h0 hh_ [a] ∧ (Fld Z hh_ a "com/example/adept_layout/adeptlayout/geometry/Point" "x" "D" (.double vx)) ∧ (Fld Z hh_ a "com/example/adept_layout/adeptlayout/geometry/Point" "y" "D" (.double vy))
set_option maxRecDepth 65536 in
set_option maxHeartbeats 40000000 in
theorem own_pt (l : Launch) (Z : State) (a0 : Array Value) (hw : ∀ d ∈ tables_1, d.before a0 Z = true) (ws : List Jvm.Cond) (a : Addr) (vx : UInt64) (vy : UInt64) (h0 : Heap) (n0 : Nat) (Z0 : n0 ≤ h0.size) (E : Exa Z h0 a "com/example/adept_layout/adeptlayout/geometry/Point") (g : n0 ≤ a) (Fx : Fld Z h0 a "com/example/adept_layout/adeptlayout/geometry/Point" "x" "D" (.double 0)) (Fy : Fld Z h0 a "com/example/adept_layout/adeptlayout/geometry/Point" "y" "D" (.double 0)) :
    MetFree l (⟨"com/example/adept_layout/adeptlayout/geometry/Point", "<init>", "(DD)V"⟩ : MethodName) (head1 (Jvm.Cond.code (⟨"com/example/adept_layout/adeptlayout/geometry/Point", "<init>", "(DD)V"⟩ : MethodName) prog_3_method_1_code 5 none :: ws) ({ frames := 1, cells := 0, slots := 0, locals := 12 } : Room)) (fun aa_ UU_ => aa_ = #[(.ref a), (.double vx), (.double vy)] ∧ Z.Warmed39 UU_.vm ∧ UU_.heap = h0) (fun _ _ _ _ _ => True) (fun _ UU_ oo_ UV_ => ∃ vv_ LL_, oo_ = .returned vv_ ∧ own_pt_Q Z a vx vy h0 n0 vv_ UV_.heap LL_ ∧ FrameEnd UU_ oo_ UV_ LL_ ({ frames := 1, cells := 0, slots := 0, locals := 12 } : Room).cells ({ frames := 1, cells := 0, slots := 0, locals := 12 } : Room).slots) := by
  refine MetFree.of_bodySF (plainFor_of_name own_pt_pn) hisR ?_
  intro p e s m args below meth c s₁ Bd hml0 hP hK
  obtain ⟨rfl, hZ, hh⟩ := hP
  have hx := Bd.exec
  have hby := Bd.bytes
  have hml : c.maxLocals = 5 := hml0
  have hown : s.vm.findClass "com/example/adept_layout/adeptlayout/geometry/Point" = some m.cls := findClass_of_methodNamed Bd.named
  have hnm := (name_of_methodNamed Bd.named Bd.method).1
  have X0 : Stand p l e ({ frames := 1, cells := 0, slots := 0, locals := 12 } : Room) s m #[(.ref a), (.double vx), (.double vy)] below meth c s₁ [] 0 0 := Stand.of_body Bd
  have e0 : s₁.heap = h0 := by rw [← hh, Bd.state]; rfl
  have N0 := Fr.nil n0
  have KP0 : Keep h0 h0 [a] := Keep.refl _ _
  refine ownFin (Q := own_pt_Q Z a vx vy h0 n0) ?_
  refine ownStep (fun _ k => castTop (own_pt_ef m a vx vy) k) ?_
  show ownGo p.tables e below (s₁.setTop (mkF m 0 #[.val (.ref a), .val (.double vx), .second, .val (.double vy), .second] [])) _
  refine ownStep (fun _ k => XS.aloadN X0.here hx rfl (hb hby own_pt_d0) rfl rfl k) ?_
  show ownGo p.tables e below (s₁.setTop (mkF m 1 #[.val (.ref a), .val (.double vx), .second, .val (.double vy), .second] [(.ref a)])) _
  obtain ⟨T1, X1, e1, st1⟩ := initO X0 hx hZ hown (hw _ ow19) (hw _ ow20) (hw _ ow21) e0 (g := (mkF m 1 #[.val (.ref a), .val (.double vx), .second, .val (.double vy), .second] [(.ref a)])) rfl (by rw [hml]; rfl) rfl (hb hby own_pt_d1) (by decide) (W := 0) (by show 2 * 0 + _ ≤ _; exact Nat.le_of_eq rfl) (by decide)
  refine ownStep st1 ?_
  refine ownStep (fun _ k => XS.aloadN X1.here hx rfl (hb hby own_pt_d4) rfl rfl k) ?_
  refine ownStep (fun _ k => XS.dloadN X1.here hx rfl (hb hby own_pt_d5) rfl k) ?_
  show ownGo p.tables e below (T1.setTop (mkF m 6 #[.val (.ref a), .val (.double vx), .second, .val (.double vy), .second] [(.double vx), (.ref a)])) _
  obtain ⟨T2, h2, X2, e2, W2, st2⟩ := putF X1 hx hZ hown (host := "") (Or.inl (hw _ ow22)) Via.refl e1 Fx E (Or.inr ⟨(hw _ ow23), rfl, hnm⟩) (hw _ ow9) (ty := .double) (by decide) rfl rfl (g := (mkF m 6 #[.val (.ref a), .val (.double vx), .second, .val (.double vy), .second] [(.double vx), (.ref a)])) rfl rfl (hb hby own_pt_d6)
  have N3 := Fr.snoc X2 N0 g
  have KP4 : Keep h0 h2 [a] := KP0.wr W2 (Or.inl (List.mem_of_getElem? (i := 0) rfl))
  have F5 : Fld Z h2 a "com/example/adept_layout/adeptlayout/geometry/Point" "x" "D" (.double vx) := Fx.same W2
  refine ownStep st2 ?_
  refine ownStep (fun _ k => XS.aloadN X2.here hx rfl (hb hby own_pt_d9) rfl rfl k) ?_
  refine ownStep (fun _ k => XS.dloadN X2.here hx rfl (hb hby own_pt_d10) rfl k) ?_
  show ownGo p.tables e below (T2.setTop (mkF m 11 #[.val (.ref a), .val (.double vx), .second, .val (.double vy), .second] [(.double vy), (.ref a)])) _
  have Q6 : Fld Z h2 a "com/example/adept_layout/adeptlayout/geometry/Point" "y" "D" (.double 0) := (Fy.other W2 (Or.inr (slot_ne (Or.inr (hw _ ow25)) (Or.inr (hw _ ow23)) (by decide) (t := .double) (t' := .double) (by decide) (by decide))))
  have Q7 : Exa Z h2 a "com/example/adept_layout/adeptlayout/geometry/Point" := (E.wr W2)
  obtain ⟨T8, h8, X8, e8, W8, st8⟩ := putF X2 hx hZ hown (host := "") (Or.inl (hw _ ow24)) Via.refl e2 Q6 Q7 (Or.inr ⟨(hw _ ow25), rfl, hnm⟩) (hw _ ow9) (ty := .double) (by decide) rfl rfl (g := (mkF m 11 #[.val (.ref a), .val (.double vx), .second, .val (.double vy), .second] [(.double vy), (.ref a)])) rfl rfl (hb hby own_pt_d11)
  have N9 := Fr.snoc X8 N3 g
  have KP10 : Keep h0 h8 [a] := KP4.wr W8 (Or.inl (List.mem_of_getElem? (i := 0) rfl))
  have F11 : Fld Z h8 a "com/example/adept_layout/adeptlayout/geometry/Point" "y" "D" (.double vy) := Q6.same W8
  refine ownStep st8 ?_
  show ownGo p.tables e below (T8.setTop (mkF m 14 #[.val (.ref a), .val (.double vx), .second, .val (.double vy), .second] [])) _
  have Q12 : Fld Z h8 a "com/example/adept_layout/adeptlayout/geometry/Point" "x" "D" (.double vx) := (F5.other W8 (Or.inr (slot_ne (Or.inr (hw _ ow23)) (Or.inr (hw _ ow25)) (by decide) (t := .double) (t' := .double) (by decide) (by decide))))
  exact ownRet X8 (v := none) Bd.notSynchronized (fun _ => rfl) (fun _ hr => X8.returnOut hx Bd.returns (hb hby own_pt_d14) hr) (by rw [e8]; exact ⟨rfl, N9, KP10, Q12, F11⟩) (by decide) (by decide)
theorem own_pt_x_d0 : decode prog_3_method_2_code 0 = .ok (.aload_n 0, 1) := by decide +kernel
theorem own_pt_x_d1 : decode prog_3_method_2_code 1 = .ok (.getfield 7, 3) := by decide +kernel
theorem own_pt_x_d4 : decode prog_3_method_2_code 4 = .ok (.dreturn, 1) := by decide +kernel
theorem own_pt_x_pn : plainName "com/example/adept_layout/adeptlayout/geometry/Point" = true := by first | (simp [plainName, overriddenIn]; done) | decide +kernel
theorem own_pt_x_ef (m : MethodId) (x0 : Addr) : entryFrame m #[(.ref x0)] 1 = mkF m 0 #[.val (.ref x0)] [] := by first | (simp [entryFrame, mkF, argsToLocals, Value.category]; done) | rfl
def own_pt_x_Q (Z : State) (a : Addr) (v : UInt64) (h0 : Heap) (n0 : Nat) (vv_ : Option Value) (hh_ : Heap) (LL_ : List Loc) : Prop := vv_ = some (.double v) ∧ Fr n0 LL_ ∧ hh_ = h0
set_option maxRecDepth 65536 in
set_option maxHeartbeats 40000000 in
theorem own_pt_x (l : Launch) (Z : State) (a0 : Array Value) (hw : ∀ d ∈ tables_1, d.before a0 Z = true) (ws : List Jvm.Cond) (a : Addr) (v : UInt64) (h0 : Heap) (n0 : Nat) (Z0 : n0 ≤ h0.size) (P : Fld Z h0 a "com/example/adept_layout/adeptlayout/geometry/Point" "x" "D" (.double v)) :
    MetFree l (⟨"com/example/adept_layout/adeptlayout/geometry/Point", "x", "()D"⟩ : MethodName) (head1 (Jvm.Cond.code (⟨"com/example/adept_layout/adeptlayout/geometry/Point", "x", "()D"⟩ : MethodName) prog_3_method_2_code 1 (some .double) :: ws) ({ frames := 0, cells := 0, slots := 0, locals := 0 } : Room)) (fun aa_ UU_ => aa_ = #[(.ref a)] ∧ Z.Warmed39 UU_.vm ∧ UU_.heap = h0) (fun _ _ _ _ _ => True) (fun _ UU_ oo_ UV_ => ∃ vv_ LL_, oo_ = .returned vv_ ∧ own_pt_x_Q Z a v h0 n0 vv_ UV_.heap LL_ ∧ FrameEnd UU_ oo_ UV_ LL_ ({ frames := 0, cells := 0, slots := 0, locals := 0 } : Room).cells ({ frames := 0, cells := 0, slots := 0, locals := 0 } : Room).slots) := by
  refine MetFree.of_bodySF (plainFor_of_name own_pt_x_pn) hisR ?_
  intro p e s m args below meth c s₁ Bd hml0 hP hK
  obtain ⟨rfl, hZ, hh⟩ := hP
  have hx := Bd.exec
  have hby := Bd.bytes
  have hml : c.maxLocals = 1 := hml0
  have hown : s.vm.findClass "com/example/adept_layout/adeptlayout/geometry/Point" = some m.cls := findClass_of_methodNamed Bd.named
  have hnm := (name_of_methodNamed Bd.named Bd.method).1
  have X0 : Stand p l e ({ frames := 0, cells := 0, slots := 0, locals := 0 } : Room) s m #[(.ref a)] below meth c s₁ [] 0 0 := Stand.of_body Bd
  have e0 : s₁.heap = h0 := by rw [← hh, Bd.state]; rfl
  have N0 := Fr.nil n0
  have KP0 : Keep h0 h0 [] := Keep.refl _ _
  refine ownFin (Q := own_pt_x_Q Z a v h0 n0) ?_
  refine ownStep (fun _ k => castTop (own_pt_x_ef m a) k) ?_
  show ownGo p.tables e below (s₁.setTop (mkF m 0 #[.val (.ref a)] [])) _
  refine ownStep (fun _ k => XS.aloadN X0.here hx rfl (hb hby own_pt_x_d0) rfl rfl k) ?_
  show ownGo p.tables e below (s₁.setTop (mkF m 1 #[.val (.ref a)] [(.ref a)])) _
  obtain ⟨T1, X1, e1, st1⟩ := getF X0 hx hZ hown (host := "") (Or.inl (hw _ ow22)) Via.refl e0 P (g := (mkF m 1 #[.val (.ref a)] [(.ref a)])) rfl rfl (hb hby own_pt_x_d1)
  refine ownStep st1 ?_
  show ownGo p.tables e below (T1.setTop (mkF m 4 #[.val (.ref a)] [(.double v)])) _
  exact ownRet X1 (v := some (.double v)) Bd.notSynchronized (fun h => by rw [Bd.returns] at h; cases h) (fun _ hr => retOut X1 hx (t := .double) Bd.returns rfl (Or.inr (Or.inr (Or.inl ⟨rfl, rfl, _, rfl⟩))) (hb hby own_pt_x_d4) hr) (by rw [e1]; exact ⟨rfl, N0, rfl⟩) (by decide) (by decide)
theorem own_pt_y_d0 : decode prog_3_method_3_code 0 = .ok (.aload_n 0, 1) := by decide +kernel
theorem own_pt_y_d1 : decode prog_3_method_3_code 1 = .ok (.getfield 13, 3) := by decide +kernel
theorem own_pt_y_d4 : decode prog_3_method_3_code 4 = .ok (.dreturn, 1) := by decide +kernel
theorem own_pt_y_pn : plainName "com/example/adept_layout/adeptlayout/geometry/Point" = true := by first | (simp [plainName, overriddenIn]; done) | decide +kernel
theorem own_pt_y_ef (m : MethodId) (x0 : Addr) : entryFrame m #[(.ref x0)] 1 = mkF m 0 #[.val (.ref x0)] [] := by first | (simp [entryFrame, mkF, argsToLocals, Value.category]; done) | rfl
def own_pt_y_Q (Z : State) (a : Addr) (v : UInt64) (h0 : Heap) (n0 : Nat) (vv_ : Option Value) (hh_ : Heap) (LL_ : List Loc) : Prop := vv_ = some (.double v) ∧ Fr n0 LL_ ∧ hh_ = h0
set_option maxRecDepth 65536 in
set_option maxHeartbeats 40000000 in
theorem own_pt_y (l : Launch) (Z : State) (a0 : Array Value) (hw : ∀ d ∈ tables_1, d.before a0 Z = true) (ws : List Jvm.Cond) (a : Addr) (v : UInt64) (h0 : Heap) (n0 : Nat) (Z0 : n0 ≤ h0.size) (P : Fld Z h0 a "com/example/adept_layout/adeptlayout/geometry/Point" "y" "D" (.double v)) :
    MetFree l (⟨"com/example/adept_layout/adeptlayout/geometry/Point", "y", "()D"⟩ : MethodName) (head1 (Jvm.Cond.code (⟨"com/example/adept_layout/adeptlayout/geometry/Point", "y", "()D"⟩ : MethodName) prog_3_method_3_code 1 (some .double) :: ws) ({ frames := 0, cells := 0, slots := 0, locals := 0 } : Room)) (fun aa_ UU_ => aa_ = #[(.ref a)] ∧ Z.Warmed39 UU_.vm ∧ UU_.heap = h0) (fun _ _ _ _ _ => True) (fun _ UU_ oo_ UV_ => ∃ vv_ LL_, oo_ = .returned vv_ ∧ own_pt_y_Q Z a v h0 n0 vv_ UV_.heap LL_ ∧ FrameEnd UU_ oo_ UV_ LL_ ({ frames := 0, cells := 0, slots := 0, locals := 0 } : Room).cells ({ frames := 0, cells := 0, slots := 0, locals := 0 } : Room).slots) := by
  refine MetFree.of_bodySF (plainFor_of_name own_pt_y_pn) hisR ?_
  intro p e s m args below meth c s₁ Bd hml0 hP hK
  obtain ⟨rfl, hZ, hh⟩ := hP
  have hx := Bd.exec
  have hby := Bd.bytes
  have hml : c.maxLocals = 1 := hml0
  have hown : s.vm.findClass "com/example/adept_layout/adeptlayout/geometry/Point" = some m.cls := findClass_of_methodNamed Bd.named
  have hnm := (name_of_methodNamed Bd.named Bd.method).1
  have X0 : Stand p l e ({ frames := 0, cells := 0, slots := 0, locals := 0 } : Room) s m #[(.ref a)] below meth c s₁ [] 0 0 := Stand.of_body Bd
  have e0 : s₁.heap = h0 := by rw [← hh, Bd.state]; rfl
  have N0 := Fr.nil n0
  have KP0 : Keep h0 h0 [] := Keep.refl _ _
  refine ownFin (Q := own_pt_y_Q Z a v h0 n0) ?_
  refine ownStep (fun _ k => castTop (own_pt_y_ef m a) k) ?_
  show ownGo p.tables e below (s₁.setTop (mkF m 0 #[.val (.ref a)] [])) _
  refine ownStep (fun _ k => XS.aloadN X0.here hx rfl (hb hby own_pt_y_d0) rfl rfl k) ?_
  show ownGo p.tables e below (s₁.setTop (mkF m 1 #[.val (.ref a)] [(.ref a)])) _
  obtain ⟨T1, X1, e1, st1⟩ := getF X0 hx hZ hown (host := "") (Or.inl (hw _ ow24)) Via.refl e0 P (g := (mkF m 1 #[.val (.ref a)] [(.ref a)])) rfl rfl (hb hby own_pt_y_d1)
  refine ownStep st1 ?_
  show ownGo p.tables e below (T1.setTop (mkF m 4 #[.val (.ref a)] [(.double v)])) _
  exact ownRet X1 (v := some (.double v)) Bd.notSynchronized (fun h => by rw [Bd.returns] at h; cases h) (fun _ hr => retOut X1 hx (t := .double) Bd.returns rfl (Or.inr (Or.inr (Or.inl ⟨rfl, rfl, _, rfl⟩))) (hb hby own_pt_y_d4) hr) (by rw [e1]; exact ⟨rfl, N0, rfl⟩) (by decide) (by decide)
theorem own_bx_d0 : decode prog_1_method_1_code 0 = .ok (.aload_n 0, 1) := by decide +kernel
theorem own_bx_d1 : decode prog_1_method_1_code 1 = .ok (.invokespecial 1, 3) := by decide +kernel
theorem own_bx_d4 : decode prog_1_method_1_code 4 = .ok (.aload_n 0, 1) := by decide +kernel
theorem own_bx_d5 : decode prog_1_method_1_code 5 = .ok (.aload_n 1, 1) := by decide +kernel
theorem own_bx_d6 : decode prog_1_method_1_code 6 = .ok (.invokevirtual 7, 3) := by decide +kernel
theorem own_bx_d9 : decode prog_1_method_1_code 9 = .ok (.putfield 13, 3) := by decide +kernel
theorem own_bx_d12 : decode prog_1_method_1_code 12 = .ok (.aload_n 0, 1) := by decide +kernel
theorem own_bx_d13 : decode prog_1_method_1_code 13 = .ok (.aload_n 1, 1) := by decide +kernel
theorem own_bx_d14 : decode prog_1_method_1_code 14 = .ok (.invokevirtual 19, 3) := by decide +kernel
theorem own_bx_d17 : decode prog_1_method_1_code 17 = .ok (.putfield 22, 3) := by decide +kernel
theorem own_bx_d20 : decode prog_1_method_1_code 20 = .ok (.aload_n 0, 1) := by decide +kernel
theorem own_bx_d21 : decode prog_1_method_1_code 21 = .ok (.aload_n 0, 1) := by decide +kernel
theorem own_bx_d22 : decode prog_1_method_1_code 22 = .ok (.getfield 13, 3) := by decide +kernel
theorem own_bx_d25 : decode prog_1_method_1_code 25 = .ok (.dload_n 2, 1) := by decide +kernel
theorem own_bx_d26 : decode prog_1_method_1_code 26 = .ok (.dadd, 1) := by decide +kernel
theorem own_bx_d27 : decode prog_1_method_1_code 27 = .ok (.putfield 25, 3) := by decide +kernel
theorem own_bx_d30 : decode prog_1_method_1_code 30 = .ok (.aload_n 0, 1) := by decide +kernel
theorem own_bx_d31 : decode prog_1_method_1_code 31 = .ok (.aload_n 0, 1) := by decide +kernel
theorem own_bx_d32 : decode prog_1_method_1_code 32 = .ok (.getfield 22, 3) := by decide +kernel
theorem own_bx_d35 : decode prog_1_method_1_code 35 = .ok (.dload 4, 2) := by decide +kernel
theorem own_bx_d37 : decode prog_1_method_1_code 37 = .ok (.dadd, 1) := by decide +kernel
theorem own_bx_d38 : decode prog_1_method_1_code 38 = .ok (.putfield 28, 3) := by decide +kernel
theorem own_bx_d41 : decode prog_1_method_1_code 41 = .ok (.return_, 1) := by decide +kernel
theorem own_bx_pn : plainName "com/example/adept_layout/adeptlayout/geometry/Box" = true := by first | (simp [plainName, overriddenIn]; done) | decide +kernel
theorem own_bx_pd0 : parseMethodDescriptor "()D" = some ⟨[], some .double⟩ := by decide +kernel
theorem own_bx_ef (m : MethodId) (x0 : Addr) (x1 : Addr) (x2 : UInt64) (x3 : UInt64) : entryFrame m #[(.ref x0), (.ref x1), (.double x2), (.double x3)] 6 = mkF m 0 #[.val (.ref x0), .val (.ref x1), .val (.double x2), .second, .val (.double x3), .second] [] := by first | (simp [entryFrame, mkF, argsToLocals, Value.category]; done) | rfl
def own_bx_Q (Z : State) (a : Addr) (p0 : Addr) (vx : UInt64) (vy : UInt64) (w : UInt64) (vh : UInt64) (h0 : Heap) (n0 : Nat) (vv_ : Option Value) (hh_ : Heap) (LL_ : List Loc) : Prop := vv_ = none ∧ Fr n0 LL_ ∧ Keep h0 hh_ [a] ∧ (Fld Z hh_ a "com/example/adept_layout/adeptlayout/geometry/Box" "left" "D" (.double vx)) ∧ (Fld Z hh_ a "com/example/adept_layout/adeptlayout/geometry/Box" "top" "D" (.double vy)) ∧ (Fld Z hh_ a "com/example/adept_layout/adeptlayout/geometry/Box" "right" "D" (.double (FP.dadd vx w))) ∧ (Fld Z hh_ a "com/example/adept_layout/adeptlayout/geometry/Box" "bottom" "D" (.double (FP.dadd vy vh)))
set_option maxRecDepth 65536 in
set_option maxHeartbeats 40000000 in
theorem own_bx (l : Launch) (Z : State) (a0 : Array Value) (hw : ∀ d ∈ tables_1, d.before a0 Z = true) (ws : List Jvm.Cond) (a : Addr) (p0 : Addr) (vx : UInt64) (vy : UInt64) (w : UInt64) (vh : UInt64) (h0 : Heap) (n0 : Nat) (Z0 : n0 ≤ h0.size) (E : Exa Z h0 a "com/example/adept_layout/adeptlayout/geometry/Box") (g : n0 ≤ a) (Ep : Exa Z h0 p0 "com/example/adept_layout/adeptlayout/geometry/Point") (nep : p0 ≠ a) (Px : Fld Z h0 p0 "com/example/adept_layout/adeptlayout/geometry/Point" "x" "D" (.double vx)) (Py : Fld Z h0 p0 "com/example/adept_layout/adeptlayout/geometry/Point" "y" "D" (.double vy)) (nr : NoNaN64 (FP.dadd vx w)) (nb : NoNaN64 (FP.dadd vy vh)) (F_left : Fld Z h0 a "com/example/adept_layout/adeptlayout/geometry/Box" "left" "D" (.double 0)) (F_top : Fld Z h0 a "com/example/adept_layout/adeptlayout/geometry/Box" "top" "D" (.double 0)) (F_right : Fld Z h0 a "com/example/adept_layout/adeptlayout/geometry/Box" "right" "D" (.double 0)) (F_bottom : Fld Z h0 a "com/example/adept_layout/adeptlayout/geometry/Box" "bottom" "D" (.double 0)) :
    MetFree l (⟨"com/example/adept_layout/adeptlayout/geometry/Box", "<init>", "(Lcom/example/adept_layout/adeptlayout/geometry/Point;DD)V"⟩ : MethodName) (head1 (Jvm.Cond.code (⟨"com/example/adept_layout/adeptlayout/geometry/Box", "<init>", "(Lcom/example/adept_layout/adeptlayout/geometry/Point;DD)V"⟩ : MethodName) prog_1_method_1_code 6 none :: ws) ({ frames := 1, cells := 0, slots := 0, locals := 13 } : Room)) (fun aa_ UU_ => aa_ = #[(.ref a), (.ref p0), (.double w), (.double vh)] ∧ Z.Warmed39 UU_.vm ∧ UU_.heap = h0) (fun _ _ _ _ _ => True) (fun _ UU_ oo_ UV_ => ∃ vv_ LL_, oo_ = .returned vv_ ∧ own_bx_Q Z a p0 vx vy w vh h0 n0 vv_ UV_.heap LL_ ∧ FrameEnd UU_ oo_ UV_ LL_ ({ frames := 1, cells := 0, slots := 0, locals := 13 } : Room).cells ({ frames := 1, cells := 0, slots := 0, locals := 13 } : Room).slots) := by
  refine MetFree.of_bodySF (plainFor_of_name own_bx_pn) hisR ?_
  intro p e s m args below meth c s₁ Bd hml0 hP hK
  obtain ⟨rfl, hZ, hh⟩ := hP
  have hx := Bd.exec
  have hby := Bd.bytes
  have hml : c.maxLocals = 6 := hml0
  have hown : s.vm.findClass "com/example/adept_layout/adeptlayout/geometry/Box" = some m.cls := findClass_of_methodNamed Bd.named
  have hnm := (name_of_methodNamed Bd.named Bd.method).1
  have X0 : Stand p l e ({ frames := 1, cells := 0, slots := 0, locals := 13 } : Room) s m #[(.ref a), (.ref p0), (.double w), (.double vh)] below meth c s₁ [] 0 0 := Stand.of_body Bd
  have e0 : s₁.heap = h0 := by rw [← hh, Bd.state]; rfl
  have N0 := Fr.nil n0
  have KP0 : Keep h0 h0 [a] := Keep.refl _ _
  refine ownFin (Q := own_bx_Q Z a p0 vx vy w vh h0 n0) ?_
  refine ownStep (fun _ k => castTop (own_bx_ef m a p0 w vh) k) ?_
  show ownGo p.tables e below (s₁.setTop (mkF m 0 #[.val (.ref a), .val (.ref p0), .val (.double w), .second, .val (.double vh), .second] [])) _
  refine ownStep (fun _ k => XS.aloadN X0.here hx rfl (hb hby own_bx_d0) rfl rfl k) ?_
  show ownGo p.tables e below (s₁.setTop (mkF m 1 #[.val (.ref a), .val (.ref p0), .val (.double w), .second, .val (.double vh), .second] [(.ref a)])) _
  obtain ⟨T1, X1, e1, st1⟩ := initO X0 hx hZ hown (hw _ ow29) (hw _ ow20) (hw _ ow21) e0 (g := (mkF m 1 #[.val (.ref a), .val (.ref p0), .val (.double w), .second, .val (.double vh), .second] [(.ref a)])) rfl (by rw [hml]; rfl) rfl (hb hby own_bx_d1) (by decide) (W := 0) (by show 2 * 0 + _ ≤ _; exact Nat.le_of_eq rfl) (by decide)
  refine ownStep st1 ?_
  refine ownStep (fun _ k => XS.aloadN X1.here hx rfl (hb hby own_bx_d4) rfl rfl k) ?_
  refine ownStep (fun _ k => XS.aloadN X1.here hx rfl (hb hby own_bx_d5) rfl rfl k) ?_
  show ownGo p.tables e below (T1.setTop (mkF m 6 #[.val (.ref a), .val (.ref p0), .val (.double w), .second, .val (.double vh), .second] [(.ref p0), (.ref a)])) _
  have Zs3 : n0 ≤ h0.size := Nat.le_trans Z0 KP0.1
  obtain ⟨cq2, kq2, q2a, q2b, q2c⟩ := isOf hZ e1 Ep
  obtain ⟨_, _, ⟨T2, L2, k2, n2⟩, -, X2, ⟨Lc2, hQ2, l2, y2, z2⟩, st2⟩ := X1.virtualBack hx (y := (⟨"com/example/adept_layout/adeptlayout/geometry/Point", "x", "()D"⟩ : MethodName)) (z := (⟨"com/example/adept_layout/adeptlayout/geometry/Point", "x", "()D"⟩ : MethodName)) hown (mvT hZ (hw _ ow30)) (mvT hZ (hw _ ow31)) (notFace_of_selects (args := #[]) (mvT hZ (hw _ ow33))) (mvT hZ (hw _ ow33)) (mvT hZ (hw _ ow32)) (by decide) (backOf (W := 1) (own_pt_x l Z a0 hw [] p0 vx h0 n0 Zs3 Px) hZ (hw _ ow34) (hw _ ow10) (by decide) (by decide)) q2a q2c (g := (mkF m 6 #[.val (.ref a), .val (.ref p0), .val (.double w), .second, .val (.double vh), .second] [(.ref p0), (.ref a)])) rfl (by rw [hml]; rfl) (Steps.refl _) (argsL := []) (rest := [(.ref a)]) (lenOf own_bx_pd0 rfl) rfl (by show 2 * 0 + _ ≤ _; exact Nat.le_of_eq rfl) (hb hby own_bx_d6) (fun _ _ => ⟨rfl, e1, (by decide : 0 + 0 ≤ _), (by decide : 0 + 0 ≤ _)⟩)
  dsimp only [Pt.U, Pt.locs, Pt.cells, Pt.slots] at X2 l2 y2 z2 st2 hQ2
  obtain rfl : k2 = 0 := y2
  obtain rfl : n2 = 0 := z2
  obtain ⟨rfl, N2q, R2⟩ := hQ2
  have N2 : Fr n0 L2 := l2 ▸ Fr.app N0 N2q
  refine ownStep (fun _ k => st2.trans k) ?_
  show ownGo p.tables e below (T2.setTop (mkF m 9 #[.val (.ref a), .val (.ref p0), .val (.double w), .second, .val (.double vh), .second] [(.double vx), (.ref a)])) _
  obtain ⟨T4, h4, X4, e4, W4, st4⟩ := putF X2 hx hZ hown (host := "") (Or.inl (hw _ ow35)) Via.refl R2 F_left E (Or.inr ⟨(hw _ ow36), rfl, hnm⟩) (hw _ ow6) (ty := .double) (by decide) rfl rfl (g := (mkF m 9 #[.val (.ref a), .val (.ref p0), .val (.double w), .second, .val (.double vh), .second] [(.double vx), (.ref a)])) rfl rfl (hb hby own_bx_d9)
  have N5 := Fr.snoc X4 N2 g
  have KP6 : Keep h0 h4 [a] := KP0.wr W4 (Or.inl (List.mem_of_getElem? (i := 0) rfl))
  have F7 : Fld Z h4 a "com/example/adept_layout/adeptlayout/geometry/Box" "left" "D" (.double vx) := F_left.same W4
  refine ownStep st4 ?_
  refine ownStep (fun _ k => XS.aloadN X4.here hx rfl (hb hby own_bx_d12) rfl rfl k) ?_
  refine ownStep (fun _ k => XS.aloadN X4.here hx rfl (hb hby own_bx_d13) rfl rfl k) ?_
  show ownGo p.tables e below (T4.setTop (mkF m 14 #[.val (.ref a), .val (.ref p0), .val (.double w), .second, .val (.double vh), .second] [(.ref p0), (.ref a)])) _
  have Q8 : Fld Z h4 p0 "com/example/adept_layout/adeptlayout/geometry/Point" "y" "D" (.double vy) := (Py.other W4 (Or.inl nep))
  have Zs10 : n0 ≤ h4.size := Nat.le_trans Z0 KP6.1
  have Q11 : Exa Z h4 p0 "com/example/adept_layout/adeptlayout/geometry/Point" := (Ep.wr W4)
  obtain ⟨cq9, kq9, q9a, q9b, q9c⟩ := isOf hZ e4 Q11
  obtain ⟨_, _, ⟨T9, L9, k9, n9⟩, -, X9, ⟨Lc9, hQ9, l9, y9, z9⟩, st9⟩ := X4.virtualBack hx (y := (⟨"com/example/adept_layout/adeptlayout/geometry/Point", "y", "()D"⟩ : MethodName)) (z := (⟨"com/example/adept_layout/adeptlayout/geometry/Point", "y", "()D"⟩ : MethodName)) hown (mvT hZ (hw _ ow37)) (mvT hZ (hw _ ow38)) (notFace_of_selects (args := #[]) (mvT hZ (hw _ ow40))) (mvT hZ (hw _ ow40)) (mvT hZ (hw _ ow39)) (by decide) (backOf (W := 1) (own_pt_y l Z a0 hw [] p0 vy h4 n0 Zs10 Q8) hZ (hw _ ow41) (hw _ ow10) (by decide) (by decide)) q9a q9c (g := (mkF m 14 #[.val (.ref a), .val (.ref p0), .val (.double w), .second, .val (.double vh), .second] [(.ref p0), (.ref a)])) rfl (by rw [hml]; rfl) (Steps.refl _) (argsL := []) (rest := [(.ref a)]) (lenOf own_bx_pd0 rfl) rfl (by show 2 * 0 + _ ≤ _; exact Nat.le_of_eq rfl) (hb hby own_bx_d14) (fun _ _ => ⟨rfl, e4, (by decide : 0 + 0 ≤ _), (by decide : 0 + 0 ≤ _)⟩)
  dsimp only [Pt.U, Pt.locs, Pt.cells, Pt.slots] at X9 l9 y9 z9 st9 hQ9
  obtain rfl : k9 = 0 := y9
  obtain rfl : n9 = 0 := z9
  obtain ⟨rfl, N9q, R9⟩ := hQ9
  have N9 : Fr n0 L9 := l9 ▸ Fr.app N5 N9q
  refine ownStep (fun _ k => st9.trans k) ?_
  show ownGo p.tables e below (T9.setTop (mkF m 17 #[.val (.ref a), .val (.ref p0), .val (.double w), .second, .val (.double vh), .second] [(.double vy), (.ref a)])) _
  have Q12 : Fld Z h4 a "com/example/adept_layout/adeptlayout/geometry/Box" "top" "D" (.double 0) := (F_top.other W4 (Or.inr (slot_ne (Or.inr (hw _ ow43)) (Or.inr (hw _ ow36)) (by decide) (t := .double) (t' := .double) (by decide) (by decide))))
  have Q13 : Exa Z h4 a "com/example/adept_layout/adeptlayout/geometry/Box" := (E.wr W4)
  obtain ⟨T14, h14, X14, e14, W14, st14⟩ := putF X9 hx hZ hown (host := "") (Or.inl (hw _ ow42)) Via.refl R9 Q12 Q13 (Or.inr ⟨(hw _ ow43), rfl, hnm⟩) (hw _ ow6) (ty := .double) (by decide) rfl rfl (g := (mkF m 17 #[.val (.ref a), .val (.ref p0), .val (.double w), .second, .val (.double vh), .second] [(.double vy), (.ref a)])) rfl rfl (hb hby own_bx_d17)
  have N15 := Fr.snoc X14 N9 g
  have KP16 : Keep h0 h14 [a] := KP6.wr W14 (Or.inl (List.mem_of_getElem? (i := 0) rfl))
  have F17 : Fld Z h14 a "com/example/adept_layout/adeptlayout/geometry/Box" "top" "D" (.double vy) := Q12.same W14
  refine ownStep st14 ?_
  refine ownStep (fun _ k => XS.aloadN X14.here hx rfl (hb hby own_bx_d20) rfl rfl k) ?_
  refine ownStep (fun _ k => XS.aloadN X14.here hx rfl (hb hby own_bx_d21) rfl rfl k) ?_
  show ownGo p.tables e below (T14.setTop (mkF m 22 #[.val (.ref a), .val (.ref p0), .val (.double w), .second, .val (.double vh), .second] [(.ref a), (.ref a)])) _
  have Q18 : Fld Z h14 a "com/example/adept_layout/adeptlayout/geometry/Box" "left" "D" (.double vx) := (F7.other W14 (Or.inr (slot_ne (Or.inr (hw _ ow36)) (Or.inr (hw _ ow43)) (by decide) (t := .double) (t' := .double) (by decide) (by decide))))
  obtain ⟨T19, X19, e19, st19⟩ := getF X14 hx hZ hown (host := "") (Or.inl (hw _ ow35)) Via.refl e14 Q18 (g := (mkF m 22 #[.val (.ref a), .val (.ref p0), .val (.double w), .second, .val (.double vh), .second] [(.ref a), (.ref a)])) rfl rfl (hb hby own_bx_d22)
  refine ownStep st19 ?_
  refine ownStep (fun _ k => XS.dloadN X19.here hx rfl (hb hby own_bx_d25) rfl k) ?_
  refine ownStep (fun _ k => XS.daddS X19.here hx rfl (hb hby own_bx_d26) rfl nr rfl k) ?_
  show ownGo p.tables e below (T19.setTop (mkF m 27 #[.val (.ref a), .val (.ref p0), .val (.double w), .second, .val (.double vh), .second] [(.double (FP.dadd vx w)), (.ref a)])) _
  have Q20 : Fld Z h14 a "com/example/adept_layout/adeptlayout/geometry/Box" "right" "D" (.double 0) := ((F_right.other W4 (Or.inr (slot_ne (Or.inr (hw _ ow45)) (Or.inr (hw _ ow36)) (by decide) (t := .double) (t' := .double) (by decide) (by decide)))).other W14 (Or.inr (slot_ne (Or.inr (hw _ ow45)) (Or.inr (hw _ ow43)) (by decide) (t := .double) (t' := .double) (by decide) (by decide))))
  have Q21 : Exa Z h14 a "com/example/adept_layout/adeptlayout/geometry/Box" := (Q13.wr W14)
  obtain ⟨T22, h22, X22, e22, W22, st22⟩ := putF X19 hx hZ hown (host := "") (Or.inl (hw _ ow44)) Via.refl e19 Q20 Q21 (Or.inr ⟨(hw _ ow45), rfl, hnm⟩) (hw _ ow6) (ty := .double) (by decide) rfl rfl (g := (mkF m 27 #[.val (.ref a), .val (.ref p0), .val (.double w), .second, .val (.double vh), .second] [(.double (FP.dadd vx w)), (.ref a)])) rfl rfl (hb hby own_bx_d27)
  have N23 := Fr.snoc X22 N15 g
  have KP24 : Keep h0 h22 [a] := KP16.wr W22 (Or.inl (List.mem_of_getElem? (i := 0) rfl))
  have F25 : Fld Z h22 a "com/example/adept_layout/adeptlayout/geometry/Box" "right" "D" (.double (FP.dadd vx w)) := Q20.same W22
  refine ownStep st22 ?_
  refine ownStep (fun _ k => XS.aloadN X22.here hx rfl (hb hby own_bx_d30) rfl rfl k) ?_
  refine ownStep (fun _ k => XS.aloadN X22.here hx rfl (hb hby own_bx_d31) rfl rfl k) ?_
  show ownGo p.tables e below (T22.setTop (mkF m 32 #[.val (.ref a), .val (.ref p0), .val (.double w), .second, .val (.double vh), .second] [(.ref a), (.ref a)])) _
  have Q26 : Fld Z h22 a "com/example/adept_layout/adeptlayout/geometry/Box" "top" "D" (.double vy) := (F17.other W22 (Or.inr (slot_ne (Or.inr (hw _ ow43)) (Or.inr (hw _ ow45)) (by decide) (t := .double) (t' := .double) (by decide) (by decide))))
  obtain ⟨T27, X27, e27, st27⟩ := getF X22 hx hZ hown (host := "") (Or.inl (hw _ ow42)) Via.refl e22 Q26 (g := (mkF m 32 #[.val (.ref a), .val (.ref p0), .val (.double w), .second, .val (.double vh), .second] [(.ref a), (.ref a)])) rfl rfl (hb hby own_bx_d32)
  refine ownStep st27 ?_
  refine ownStep (fun _ k => XS.dload X27.here hx rfl (hb hby own_bx_d35) rfl k) ?_
  refine ownStep (fun _ k => XS.daddS X27.here hx rfl (hb hby own_bx_d37) rfl nb rfl k) ?_
  show ownGo p.tables e below (T27.setTop (mkF m 38 #[.val (.ref a), .val (.ref p0), .val (.double w), .second, .val (.double vh), .second] [(.double (FP.dadd vy vh)), (.ref a)])) _
  have Q28 : Fld Z h22 a "com/example/adept_layout/adeptlayout/geometry/Box" "bottom" "D" (.double 0) := (((F_bottom.other W4 (Or.inr (slot_ne (Or.inr (hw _ ow47)) (Or.inr (hw _ ow36)) (by decide) (t := .double) (t' := .double) (by decide) (by decide)))).other W14 (Or.inr (slot_ne (Or.inr (hw _ ow47)) (Or.inr (hw _ ow43)) (by decide) (t := .double) (t' := .double) (by decide) (by decide)))).other W22 (Or.inr (slot_ne (Or.inr (hw _ ow47)) (Or.inr (hw _ ow45)) (by decide) (t := .double) (t' := .double) (by decide) (by decide))))
  have Q29 : Exa Z h22 a "com/example/adept_layout/adeptlayout/geometry/Box" := (Q21.wr W22)
  obtain ⟨T30, h30, X30, e30, W30, st30⟩ := putF X27 hx hZ hown (host := "") (Or.inl (hw _ ow46)) Via.refl e27 Q28 Q29 (Or.inr ⟨(hw _ ow47), rfl, hnm⟩) (hw _ ow6) (ty := .double) (by decide) rfl rfl (g := (mkF m 38 #[.val (.ref a), .val (.ref p0), .val (.double w), .second, .val (.double vh), .second] [(.double (FP.dadd vy vh)), (.ref a)])) rfl rfl (hb hby own_bx_d38)
  have N31 := Fr.snoc X30 N23 g
  have KP32 : Keep h0 h30 [a] := KP24.wr W30 (Or.inl (List.mem_of_getElem? (i := 0) rfl))
  have F33 : Fld Z h30 a "com/example/adept_layout/adeptlayout/geometry/Box" "bottom" "D" (.double (FP.dadd vy vh)) := Q28.same W30
  refine ownStep st30 ?_
  show ownGo p.tables e below (T30.setTop (mkF m 41 #[.val (.ref a), .val (.ref p0), .val (.double w), .second, .val (.double vh), .second] [])) _
  have Q34 : Fld Z h30 a "com/example/adept_layout/adeptlayout/geometry/Box" "left" "D" (.double vx) := ((Q18.other W22 (Or.inr (slot_ne (Or.inr (hw _ ow36)) (Or.inr (hw _ ow45)) (by decide) (t := .double) (t' := .double) (by decide) (by decide)))).other W30 (Or.inr (slot_ne (Or.inr (hw _ ow36)) (Or.inr (hw _ ow47)) (by decide) (t := .double) (t' := .double) (by decide) (by decide))))
  have Q35 : Fld Z h30 a "com/example/adept_layout/adeptlayout/geometry/Box" "top" "D" (.double vy) := (Q26.other W30 (Or.inr (slot_ne (Or.inr (hw _ ow43)) (Or.inr (hw _ ow47)) (by decide) (t := .double) (t' := .double) (by decide) (by decide))))
  have Q36 : Fld Z h30 a "com/example/adept_layout/adeptlayout/geometry/Box" "right" "D" (.double (FP.dadd vx w)) := (F25.other W30 (Or.inr (slot_ne (Or.inr (hw _ ow45)) (Or.inr (hw _ ow47)) (by decide) (t := .double) (t' := .double) (by decide) (by decide))))
  exact ownRet X30 (v := none) Bd.notSynchronized (fun _ => rfl) (fun _ hr => X30.returnOut hx Bd.returns (hb hby own_bx_d41) hr) (by rw [e30]; exact ⟨rfl, N31, KP32, Q34, Q35, Q36, F33⟩) (by decide) (by decide)
theorem own_ct_d0 : decode prog_1_method_17_code 0 = .ok (.aload_n 1, 1) := by decide +kernel
theorem own_ct_d1 : decode prog_1_method_17_code 1 = .ok (.getfield 13, 3) := by decide +kernel
theorem own_ct_d4 : decode prog_1_method_17_code 4 = .ok (.aload_n 0, 1) := by decide +kernel
theorem own_ct_d5 : decode prog_1_method_17_code 5 = .ok (.getfield 13, 3) := by decide +kernel
theorem own_ct_d8 : decode prog_1_method_17_code 8 = .ok (.ldc2_w 69, 3) := by decide +kernel
theorem own_ct_d11 : decode prog_1_method_17_code 11 = .ok (.dsub, 1) := by decide +kernel
theorem own_ct_d12 : decode prog_1_method_17_code 12 = .ok (.dcmp .l, 1) := by decide +kernel
theorem own_ct_d13 : decode prog_1_method_17_code 13 = .ok (.ifCond .lt 55, 3) := by decide +kernel
theorem own_ct_d16 : decode prog_1_method_17_code 16 = .ok (.aload_n 1, 1) := by decide +kernel
theorem own_ct_d17 : decode prog_1_method_17_code 17 = .ok (.getfield 25, 3) := by decide +kernel
theorem own_ct_d20 : decode prog_1_method_17_code 20 = .ok (.aload_n 0, 1) := by decide +kernel
theorem own_ct_d21 : decode prog_1_method_17_code 21 = .ok (.getfield 25, 3) := by decide +kernel
theorem own_ct_d24 : decode prog_1_method_17_code 24 = .ok (.ldc2_w 69, 3) := by decide +kernel
theorem own_ct_d27 : decode prog_1_method_17_code 27 = .ok (.dadd, 1) := by decide +kernel
theorem own_ct_d28 : decode prog_1_method_17_code 28 = .ok (.dcmp .g, 1) := by decide +kernel
theorem own_ct_d29 : decode prog_1_method_17_code 29 = .ok (.ifCond .gt 39, 3) := by decide +kernel
theorem own_ct_d32 : decode prog_1_method_17_code 32 = .ok (.aload_n 1, 1) := by decide +kernel
theorem own_ct_d33 : decode prog_1_method_17_code 33 = .ok (.getfield 22, 3) := by decide +kernel
theorem own_ct_d36 : decode prog_1_method_17_code 36 = .ok (.aload_n 0, 1) := by decide +kernel
theorem own_ct_d37 : decode prog_1_method_17_code 37 = .ok (.getfield 22, 3) := by decide +kernel
theorem own_ct_d40 : decode prog_1_method_17_code 40 = .ok (.ldc2_w 69, 3) := by decide +kernel
theorem own_ct_d43 : decode prog_1_method_17_code 43 = .ok (.dsub, 1) := by decide +kernel
theorem own_ct_d44 : decode prog_1_method_17_code 44 = .ok (.dcmp .l, 1) := by decide +kernel
theorem own_ct_d45 : decode prog_1_method_17_code 45 = .ok (.ifCond .lt 23, 3) := by decide +kernel
theorem own_ct_d48 : decode prog_1_method_17_code 48 = .ok (.aload_n 1, 1) := by decide +kernel
theorem own_ct_d49 : decode prog_1_method_17_code 49 = .ok (.getfield 28, 3) := by decide +kernel
theorem own_ct_d52 : decode prog_1_method_17_code 52 = .ok (.aload_n 0, 1) := by decide +kernel
theorem own_ct_d53 : decode prog_1_method_17_code 53 = .ok (.getfield 28, 3) := by decide +kernel
theorem own_ct_d56 : decode prog_1_method_17_code 56 = .ok (.ldc2_w 69, 3) := by decide +kernel
theorem own_ct_d59 : decode prog_1_method_17_code 59 = .ok (.dadd, 1) := by decide +kernel
theorem own_ct_d60 : decode prog_1_method_17_code 60 = .ok (.dcmp .g, 1) := by decide +kernel
theorem own_ct_d61 : decode prog_1_method_17_code 61 = .ok (.ifCond .gt 7, 3) := by decide +kernel
theorem own_ct_d64 : decode prog_1_method_17_code 64 = .ok (.iconst 1, 1) := by decide +kernel
theorem own_ct_d65 : decode prog_1_method_17_code 65 = .ok (.goto 4, 3) := by decide +kernel
theorem own_ct_d68 : decode prog_1_method_17_code 68 = .ok (.iconst 0, 1) := by decide +kernel
theorem own_ct_d69 : decode prog_1_method_17_code 69 = .ok (.ireturn, 1) := by decide +kernel
theorem own_ct_pn : plainName "com/example/adept_layout/adeptlayout/geometry/Box" = true := by first | (simp [plainName, overriddenIn]; done) | decide +kernel
theorem own_ct_ef (m : MethodId) (x0 : Addr) (x1 : Addr) : entryFrame m #[(.ref x0), (.ref x1)] 2 = mkF m 0 #[.val (.ref x0), .val (.ref x1)] [] := by first | (simp [entryFrame, mkF, argsToLocals, Value.category]; done) | rfl
def own_ct_Q (Z : State) (a : Addr) (o : Addr) (l1 : UInt64) (t1 : UInt64) (r1 : UInt64) (b1 : UInt64) (l2 : UInt64) (t2 : UInt64) (r2 : UInt64) (b2 : UInt64) (h0 : Heap) (n0 : Nat) (vv_ : Option Value) (hh_ : Heap) (LL_ : List Loc) : Prop := vv_ = some (.int (own_cont l1 t1 r1 b1 l2 t2 r2 b2)) ∧ Fr n0 LL_ ∧ hh_ = h0
set_option maxRecDepth 65536 in
set_option maxHeartbeats 40000000 in
theorem own_ct (l : Launch) (Z : State) (a0 : Array Value) (hw : ∀ d ∈ tables_1, d.before a0 Z = true) (ws : List Jvm.Cond) (a : Addr) (o : Addr) (l1 : UInt64) (t1 : UInt64) (r1 : UInt64) (b1 : UInt64) (l2 : UInt64) (t2 : UInt64) (r2 : UInt64) (b2 : UInt64) (h0 : Heap) (n0 : Nat) (Z0 : n0 ≤ h0.size) (A0 : Fld Z h0 a "com/example/adept_layout/adeptlayout/geometry/Box" "left" "D" (.double l1)) (A1 : Fld Z h0 a "com/example/adept_layout/adeptlayout/geometry/Box" "top" "D" (.double t1)) (A2 : Fld Z h0 a "com/example/adept_layout/adeptlayout/geometry/Box" "right" "D" (.double r1)) (A3 : Fld Z h0 a "com/example/adept_layout/adeptlayout/geometry/Box" "bottom" "D" (.double b1)) (B0 : Fld Z h0 o "com/example/adept_layout/adeptlayout/geometry/Box" "left" "D" (.double l2)) (B1 : Fld Z h0 o "com/example/adept_layout/adeptlayout/geometry/Box" "top" "D" (.double t2)) (B2 : Fld Z h0 o "com/example/adept_layout/adeptlayout/geometry/Box" "right" "D" (.double r2)) (B3 : Fld Z h0 o "com/example/adept_layout/adeptlayout/geometry/Box" "bottom" "D" (.double b2)) (nl : NoNaN64 (FP.dsub l1 (4517329193108106637 : UInt64))) (nr : NoNaN64 (FP.dadd r1 (4517329193108106637 : UInt64))) (nt : NoNaN64 (FP.dsub t1 (4517329193108106637 : UInt64))) (nb : NoNaN64 (FP.dadd b1 (4517329193108106637 : UInt64))) :
    MetFree l (⟨"com/example/adept_layout/adeptlayout/geometry/Box", "contains", "(Lcom/example/adept_layout/adeptlayout/geometry/Box;)Z"⟩ : MethodName) (head1 (Jvm.Cond.code (⟨"com/example/adept_layout/adeptlayout/geometry/Box", "contains", "(Lcom/example/adept_layout/adeptlayout/geometry/Box;)Z"⟩ : MethodName) prog_1_method_17_code 2 (some .boolean) :: ws) ({ frames := 0, cells := 0, slots := 0, locals := 0 } : Room)) (fun aa_ UU_ => aa_ = #[(.ref a), (.ref o)] ∧ Z.Warmed39 UU_.vm ∧ UU_.heap = h0) (fun _ _ _ _ _ => True) (fun _ UU_ oo_ UV_ => ∃ vv_ LL_, oo_ = .returned vv_ ∧ own_ct_Q Z a o l1 t1 r1 b1 l2 t2 r2 b2 h0 n0 vv_ UV_.heap LL_ ∧ FrameEnd UU_ oo_ UV_ LL_ ({ frames := 0, cells := 0, slots := 0, locals := 0 } : Room).cells ({ frames := 0, cells := 0, slots := 0, locals := 0 } : Room).slots) := by
  refine MetFree.of_bodySF (plainFor_of_name own_ct_pn) hisR ?_
  intro p e s m args below meth c s₁ Bd hml0 hP hK
  obtain ⟨rfl, hZ, hh⟩ := hP
  have hx := Bd.exec
  have hby := Bd.bytes
  have hml : c.maxLocals = 2 := hml0
  have hown : s.vm.findClass "com/example/adept_layout/adeptlayout/geometry/Box" = some m.cls := findClass_of_methodNamed Bd.named
  have hnm := (name_of_methodNamed Bd.named Bd.method).1
  have X0 : Stand p l e ({ frames := 0, cells := 0, slots := 0, locals := 0 } : Room) s m #[(.ref a), (.ref o)] below meth c s₁ [] 0 0 := Stand.of_body Bd
  have e0 : s₁.heap = h0 := by rw [← hh, Bd.state]; rfl
  have N0 := Fr.nil n0
  have KP0 : Keep h0 h0 [] := Keep.refl _ _
  refine ownFin (Q := own_ct_Q Z a o l1 t1 r1 b1 l2 t2 r2 b2 h0 n0) ?_
  refine ownStep (fun _ k => castTop (own_ct_ef m a o) k) ?_
  show ownGo p.tables e below (s₁.setTop (mkF m 0 #[.val (.ref a), .val (.ref o)] [])) _
  refine ownStep (fun _ k => XS.aloadN X0.here hx rfl (hb hby own_ct_d0) rfl rfl k) ?_
  show ownGo p.tables e below (s₁.setTop (mkF m 1 #[.val (.ref a), .val (.ref o)] [(.ref o)])) _
  obtain ⟨T1, X1, e1, st1⟩ := getF X0 hx hZ hown (host := "") (Or.inl (hw _ ow35)) Via.refl e0 B0 (g := (mkF m 1 #[.val (.ref a), .val (.ref o)] [(.ref o)])) rfl rfl (hb hby own_ct_d1)
  refine ownStep st1 ?_
  refine ownStep (fun _ k => XS.aloadN X1.here hx rfl (hb hby own_ct_d4) rfl rfl k) ?_
  show ownGo p.tables e below (T1.setTop (mkF m 5 #[.val (.ref a), .val (.ref o)] [(.ref a), (.double l2)])) _
  obtain ⟨T2, X2, e2, st2⟩ := getF X1 hx hZ hown (host := "") (Or.inl (hw _ ow35)) Via.refl e1 A0 (g := (mkF m 5 #[.val (.ref a), .val (.ref o)] [(.ref a), (.double l2)])) rfl rfl (hb hby own_ct_d5)
  refine ownStep st2 ?_
  show ownGo p.tables e below (T2.setTop (mkF m 8 #[.val (.ref a), .val (.ref o)] [(.double l1), (.double l2)])) _
  refine ownStep (X2.ldc2DoubleC hx hown (mvT hZ (hw _ ow54)) (g := (mkF m 8 #[.val (.ref a), .val (.ref o)] [(.double l1), (.double l2)])) rfl (hb hby own_ct_d8)) ?_
  refine ownStep (fun _ k => XS.dsubS X2.here hx rfl (hb hby own_ct_d11) rfl nl rfl k) ?_
  refine ownStep (fun _ k => XS.dcmpS X2.here hx rfl (hb hby own_ct_d12) rfl rfl k) ?_
  show ownGo p.tables e below (T2.setTop (mkF m 13 #[.val (.ref a), .val (.ref o)] [(.int (cmpValue (FP.dcmp l2 (FP.dsub l1 (4517329193108106637 : UInt64))) .l))])) _
  by_cases hc13 : (cmpValue (FP.dcmp l2 (FP.dsub l1 (4517329193108106637 : UInt64))) .l) < (0 : Int32)
  · skip
    refine ownStep (fun _ k => XS.ifYes X2.here hx rfl (pc0 := 13) (pc' := 68) rfl (hb hby own_ct_d13) rfl ((if0 _ _).trans (tlt (hc13 : (cmpValue (FP.dcmp l2 (FP.dsub l1 (4517329193108106637 : UInt64))) .l) < (0 : Int32))).1) (by decide) (by decide) k) ?_
    refine ownStep (fun _ k => XS.iconst X2.here hx rfl (hb hby own_ct_d68) k) ?_
    show ownGo p.tables e below (T2.setTop (mkF m 69 #[.val (.ref a), .val (.ref o)] [(.int (0 : Int32))])) _
    exact ownRet X2 (v := some (.int (0 : Int32))) Bd.notSynchronized (fun h => by rw [Bd.returns] at h; cases h) (fun _ hr => retN X2 hx (t := .boolean) Bd.returns (by simp) (hb hby own_ct_d69) hr) (by rw [e2]; exact ⟨(by first | (unfold own_cont; rw [if_pos hc13]) | (unfold own_cont; rw [if_neg hc13, if_pos hc29]) | (unfold own_cont; rw [if_neg hc13, if_neg hc29, if_pos hc45]) | (unfold own_cont; rw [if_neg hc13, if_neg hc29, if_neg hc45, if_pos hc61]) | (unfold own_cont; rw [if_neg hc13, if_neg hc29, if_neg hc45, if_neg hc61])), N0, rfl⟩) (by decide) (by decide)
  · skip
    refine ownStep (fun _ k => XS.ifNo X2.here hx rfl (hb hby own_ct_d13) rfl ((if0 _ _).trans (flt (hc13 : ¬ (cmpValue (FP.dcmp l2 (FP.dsub l1 (4517329193108106637 : UInt64))) .l) < (0 : Int32))).1) k) ?_
    refine ownStep (fun _ k => XS.aloadN X2.here hx rfl (hb hby own_ct_d16) rfl rfl k) ?_
    show ownGo p.tables e below (T2.setTop (mkF m 17 #[.val (.ref a), .val (.ref o)] [(.ref o)])) _
    obtain ⟨T3, X3, e3, st3⟩ := getF X2 hx hZ hown (host := "") (Or.inl (hw _ ow44)) Via.refl e2 B2 (g := (mkF m 17 #[.val (.ref a), .val (.ref o)] [(.ref o)])) rfl rfl (hb hby own_ct_d17)
    refine ownStep st3 ?_
    refine ownStep (fun _ k => XS.aloadN X3.here hx rfl (hb hby own_ct_d20) rfl rfl k) ?_
    show ownGo p.tables e below (T3.setTop (mkF m 21 #[.val (.ref a), .val (.ref o)] [(.ref a), (.double r2)])) _
    obtain ⟨T4, X4, e4, st4⟩ := getF X3 hx hZ hown (host := "") (Or.inl (hw _ ow44)) Via.refl e3 A2 (g := (mkF m 21 #[.val (.ref a), .val (.ref o)] [(.ref a), (.double r2)])) rfl rfl (hb hby own_ct_d21)
    refine ownStep st4 ?_
    show ownGo p.tables e below (T4.setTop (mkF m 24 #[.val (.ref a), .val (.ref o)] [(.double r1), (.double r2)])) _
    refine ownStep (X4.ldc2DoubleC hx hown (mvT hZ (hw _ ow54)) (g := (mkF m 24 #[.val (.ref a), .val (.ref o)] [(.double r1), (.double r2)])) rfl (hb hby own_ct_d24)) ?_
    refine ownStep (fun _ k => XS.daddS X4.here hx rfl (hb hby own_ct_d27) rfl nr rfl k) ?_
    refine ownStep (fun _ k => XS.dcmpS X4.here hx rfl (hb hby own_ct_d28) rfl rfl k) ?_
    show ownGo p.tables e below (T4.setTop (mkF m 29 #[.val (.ref a), .val (.ref o)] [(.int (cmpValue (FP.dcmp r2 (FP.dadd r1 (4517329193108106637 : UInt64))) .g))])) _
    by_cases hc29 : (0 : Int32) < (cmpValue (FP.dcmp r2 (FP.dadd r1 (4517329193108106637 : UInt64))) .g)
    · skip
      refine ownStep (fun _ k => XS.ifYes X4.here hx rfl (pc0 := 29) (pc' := 68) rfl (hb hby own_ct_d29) rfl ((if0 _ _).trans (tlt (hc29 : (0 : Int32) < (cmpValue (FP.dcmp r2 (FP.dadd r1 (4517329193108106637 : UInt64))) .g))).2.2.1) (by decide) (by decide) k) ?_
      refine ownStep (fun _ k => XS.iconst X4.here hx rfl (hb hby own_ct_d68) k) ?_
      show ownGo p.tables e below (T4.setTop (mkF m 69 #[.val (.ref a), .val (.ref o)] [(.int (0 : Int32))])) _
      exact ownRet X4 (v := some (.int (0 : Int32))) Bd.notSynchronized (fun h => by rw [Bd.returns] at h; cases h) (fun _ hr => retN X4 hx (t := .boolean) Bd.returns (by simp) (hb hby own_ct_d69) hr) (by rw [e4]; exact ⟨(by first | (unfold own_cont; rw [if_pos hc13]) | (unfold own_cont; rw [if_neg hc13, if_pos hc29]) | (unfold own_cont; rw [if_neg hc13, if_neg hc29, if_pos hc45]) | (unfold own_cont; rw [if_neg hc13, if_neg hc29, if_neg hc45, if_pos hc61]) | (unfold own_cont; rw [if_neg hc13, if_neg hc29, if_neg hc45, if_neg hc61])), N0, rfl⟩) (by decide) (by decide)
    · skip
      refine ownStep (fun _ k => XS.ifNo X4.here hx rfl (hb hby own_ct_d29) rfl ((if0 _ _).trans (flt (hc29 : ¬ (0 : Int32) < (cmpValue (FP.dcmp r2 (FP.dadd r1 (4517329193108106637 : UInt64))) .g))).2.2.1) k) ?_
      refine ownStep (fun _ k => XS.aloadN X4.here hx rfl (hb hby own_ct_d32) rfl rfl k) ?_
      show ownGo p.tables e below (T4.setTop (mkF m 33 #[.val (.ref a), .val (.ref o)] [(.ref o)])) _
      obtain ⟨T5, X5, e5, st5⟩ := getF X4 hx hZ hown (host := "") (Or.inl (hw _ ow42)) Via.refl e4 B1 (g := (mkF m 33 #[.val (.ref a), .val (.ref o)] [(.ref o)])) rfl rfl (hb hby own_ct_d33)
      refine ownStep st5 ?_
      refine ownStep (fun _ k => XS.aloadN X5.here hx rfl (hb hby own_ct_d36) rfl rfl k) ?_
      show ownGo p.tables e below (T5.setTop (mkF m 37 #[.val (.ref a), .val (.ref o)] [(.ref a), (.double t2)])) _
      obtain ⟨T6, X6, e6, st6⟩ := getF X5 hx hZ hown (host := "") (Or.inl (hw _ ow42)) Via.refl e5 A1 (g := (mkF m 37 #[.val (.ref a), .val (.ref o)] [(.ref a), (.double t2)])) rfl rfl (hb hby own_ct_d37)
      refine ownStep st6 ?_
      show ownGo p.tables e below (T6.setTop (mkF m 40 #[.val (.ref a), .val (.ref o)] [(.double t1), (.double t2)])) _
      refine ownStep (X6.ldc2DoubleC hx hown (mvT hZ (hw _ ow54)) (g := (mkF m 40 #[.val (.ref a), .val (.ref o)] [(.double t1), (.double t2)])) rfl (hb hby own_ct_d40)) ?_
      refine ownStep (fun _ k => XS.dsubS X6.here hx rfl (hb hby own_ct_d43) rfl nt rfl k) ?_
      refine ownStep (fun _ k => XS.dcmpS X6.here hx rfl (hb hby own_ct_d44) rfl rfl k) ?_
      show ownGo p.tables e below (T6.setTop (mkF m 45 #[.val (.ref a), .val (.ref o)] [(.int (cmpValue (FP.dcmp t2 (FP.dsub t1 (4517329193108106637 : UInt64))) .l))])) _
      by_cases hc45 : (cmpValue (FP.dcmp t2 (FP.dsub t1 (4517329193108106637 : UInt64))) .l) < (0 : Int32)
      · skip
        refine ownStep (fun _ k => XS.ifYes X6.here hx rfl (pc0 := 45) (pc' := 68) rfl (hb hby own_ct_d45) rfl ((if0 _ _).trans (tlt (hc45 : (cmpValue (FP.dcmp t2 (FP.dsub t1 (4517329193108106637 : UInt64))) .l) < (0 : Int32))).1) (by decide) (by decide) k) ?_
        refine ownStep (fun _ k => XS.iconst X6.here hx rfl (hb hby own_ct_d68) k) ?_
        show ownGo p.tables e below (T6.setTop (mkF m 69 #[.val (.ref a), .val (.ref o)] [(.int (0 : Int32))])) _
        exact ownRet X6 (v := some (.int (0 : Int32))) Bd.notSynchronized (fun h => by rw [Bd.returns] at h; cases h) (fun _ hr => retN X6 hx (t := .boolean) Bd.returns (by simp) (hb hby own_ct_d69) hr) (by rw [e6]; exact ⟨(by first | (unfold own_cont; rw [if_pos hc13]) | (unfold own_cont; rw [if_neg hc13, if_pos hc29]) | (unfold own_cont; rw [if_neg hc13, if_neg hc29, if_pos hc45]) | (unfold own_cont; rw [if_neg hc13, if_neg hc29, if_neg hc45, if_pos hc61]) | (unfold own_cont; rw [if_neg hc13, if_neg hc29, if_neg hc45, if_neg hc61])), N0, rfl⟩) (by decide) (by decide)
      · skip
        refine ownStep (fun _ k => XS.ifNo X6.here hx rfl (hb hby own_ct_d45) rfl ((if0 _ _).trans (flt (hc45 : ¬ (cmpValue (FP.dcmp t2 (FP.dsub t1 (4517329193108106637 : UInt64))) .l) < (0 : Int32))).1) k) ?_
        refine ownStep (fun _ k => XS.aloadN X6.here hx rfl (hb hby own_ct_d48) rfl rfl k) ?_
        show ownGo p.tables e below (T6.setTop (mkF m 49 #[.val (.ref a), .val (.ref o)] [(.ref o)])) _
        obtain ⟨T7, X7, e7, st7⟩ := getF X6 hx hZ hown (host := "") (Or.inl (hw _ ow46)) Via.refl e6 B3 (g := (mkF m 49 #[.val (.ref a), .val (.ref o)] [(.ref o)])) rfl rfl (hb hby own_ct_d49)
        refine ownStep st7 ?_
        refine ownStep (fun _ k => XS.aloadN X7.here hx rfl (hb hby own_ct_d52) rfl rfl k) ?_
        show ownGo p.tables e below (T7.setTop (mkF m 53 #[.val (.ref a), .val (.ref o)] [(.ref a), (.double b2)])) _
        obtain ⟨T8, X8, e8, st8⟩ := getF X7 hx hZ hown (host := "") (Or.inl (hw _ ow46)) Via.refl e7 A3 (g := (mkF m 53 #[.val (.ref a), .val (.ref o)] [(.ref a), (.double b2)])) rfl rfl (hb hby own_ct_d53)
        refine ownStep st8 ?_
        show ownGo p.tables e below (T8.setTop (mkF m 56 #[.val (.ref a), .val (.ref o)] [(.double b1), (.double b2)])) _
        refine ownStep (X8.ldc2DoubleC hx hown (mvT hZ (hw _ ow54)) (g := (mkF m 56 #[.val (.ref a), .val (.ref o)] [(.double b1), (.double b2)])) rfl (hb hby own_ct_d56)) ?_
        refine ownStep (fun _ k => XS.daddS X8.here hx rfl (hb hby own_ct_d59) rfl nb rfl k) ?_
        refine ownStep (fun _ k => XS.dcmpS X8.here hx rfl (hb hby own_ct_d60) rfl rfl k) ?_
        show ownGo p.tables e below (T8.setTop (mkF m 61 #[.val (.ref a), .val (.ref o)] [(.int (cmpValue (FP.dcmp b2 (FP.dadd b1 (4517329193108106637 : UInt64))) .g))])) _
        by_cases hc61 : (0 : Int32) < (cmpValue (FP.dcmp b2 (FP.dadd b1 (4517329193108106637 : UInt64))) .g)
        · skip
          refine ownStep (fun _ k => XS.ifYes X8.here hx rfl (pc0 := 61) (pc' := 68) rfl (hb hby own_ct_d61) rfl ((if0 _ _).trans (tlt (hc61 : (0 : Int32) < (cmpValue (FP.dcmp b2 (FP.dadd b1 (4517329193108106637 : UInt64))) .g))).2.2.1) (by decide) (by decide) k) ?_
          refine ownStep (fun _ k => XS.iconst X8.here hx rfl (hb hby own_ct_d68) k) ?_
          show ownGo p.tables e below (T8.setTop (mkF m 69 #[.val (.ref a), .val (.ref o)] [(.int (0 : Int32))])) _
          exact ownRet X8 (v := some (.int (0 : Int32))) Bd.notSynchronized (fun h => by rw [Bd.returns] at h; cases h) (fun _ hr => retN X8 hx (t := .boolean) Bd.returns (by simp) (hb hby own_ct_d69) hr) (by rw [e8]; exact ⟨(by first | (unfold own_cont; rw [if_pos hc13]) | (unfold own_cont; rw [if_neg hc13, if_pos hc29]) | (unfold own_cont; rw [if_neg hc13, if_neg hc29, if_pos hc45]) | (unfold own_cont; rw [if_neg hc13, if_neg hc29, if_neg hc45, if_pos hc61]) | (unfold own_cont; rw [if_neg hc13, if_neg hc29, if_neg hc45, if_neg hc61])), N0, rfl⟩) (by decide) (by decide)
        · skip
          refine ownStep (fun _ k => XS.ifNo X8.here hx rfl (hb hby own_ct_d61) rfl ((if0 _ _).trans (flt (hc61 : ¬ (0 : Int32) < (cmpValue (FP.dcmp b2 (FP.dadd b1 (4517329193108106637 : UInt64))) .g))).2.2.1) k) ?_
          refine ownStep (fun _ k => XS.iconst X8.here hx rfl (hb hby own_ct_d64) k) ?_
          refine ownStep (fun _ k => XS.goto X8.here hx rfl (pc0 := 65) (pc' := 69) rfl (hb hby own_ct_d65) (by decide) (by decide) k) ?_
          show ownGo p.tables e below (T8.setTop (mkF m 69 #[.val (.ref a), .val (.ref o)] [(.int (1 : Int32))])) _
          exact ownRet X8 (v := some (.int (1 : Int32))) Bd.notSynchronized (fun h => by rw [Bd.returns] at h; cases h) (fun _ hr => retN X8 hx (t := .boolean) Bd.returns (by simp) (hb hby own_ct_d69) hr) (by rw [e8]; exact ⟨(by first | (unfold own_cont; rw [if_pos hc13]) | (unfold own_cont; rw [if_neg hc13, if_pos hc29]) | (unfold own_cont; rw [if_neg hc13, if_neg hc29, if_pos hc45]) | (unfold own_cont; rw [if_neg hc13, if_neg hc29, if_neg hc45, if_pos hc61]) | (unfold own_cont; rw [if_neg hc13, if_neg hc29, if_neg hc45, if_neg hc61])), N0, rfl⟩) (by decide) (by decide)
theorem own_law_pn : plainName "com/example/adept_layout/adeptlayout/geometry/BoxContainsPinLaw" = true := by first | (simp [plainName, overriddenIn]; done) | decide +kernel
theorem own_law_pd0 : parseMethodDescriptor "(JJ)J" = some ⟨[.long, .long], some .long⟩ := by decide +kernel
theorem own_law_pd1 : parseMethodDescriptor "(J)D" = some ⟨[.long], some .double⟩ := by decide +kernel
theorem own_law_pd2 : parseMethodDescriptor "(DD)V" = some ⟨[.double, .double], none⟩ := by decide +kernel
theorem own_law_pd3 : parseMethodDescriptor "(Lcom/example/adept_layout/adeptlayout/geometry/Point;DD)V" = some ⟨[(.object "com/example/adept_layout/adeptlayout/geometry/Point"), .double, .double], none⟩ := by decide +kernel
theorem own_law_pd4 : parseMethodDescriptor "(Lcom/example/adept_layout/adeptlayout/geometry/Box;)Z" = some ⟨[(.object "com/example/adept_layout/adeptlayout/geometry/Box")], some .boolean⟩ := by decide +kernel
theorem own_law_ef (m : MethodId) (x0 : Int32) (x1 : Int32) (x2 : Int32) (x3 : Int32) (x4 : Int32) (x5 : Int32) : entryFrame m #[(.int x0), (.int x1), (.int x2), (.int x3), (.int x4), (.int x5)] maxLocals = mkF m 0 #[.val (.int x0), .val (.int x1), .val (.int x2), .val (.int x3), .val (.int x4), .val (.int x5), .unset, .unset, .unset, .unset, .unset, .unset, .unset, .unset, .unset, .unset, .unset, .unset, .unset, .unset, .unset, .unset, .unset, .unset, .unset, .unset, .unset, .unset, .unset, .unset, .unset, .unset, .unset] [] := by first | (simp [entryFrame, mkF, argsToLocals, Value.category, maxLocals]; done) | rfl
def own_law_Q (Z : State) (i0 : Int32) (i1 : Int32) (i2 : Int32) (i3 : Int32) (i4 : Int32) (i5 : Int32) (h0 : Heap) (n0 : Nat) (vv_ : Option Value) (hh_ : Heap) (LL_ : List Loc) : Prop := vv_ = some (.int (1 : Int32)) ∧ Fr n0 LL_ ∧ Ext h0 hh_
set_option maxRecDepth 65536 in
set_option maxHeartbeats 40000000 in
theorem own_law (l : Launch) (Z : State) (a0 : Array Value) (hw : ∀ d ∈ tables_1, d.before a0 Z = true) (ws : List Jvm.Cond) (i0 : Int32) (i1 : Int32) (i2 : Int32) (i3 : Int32) (i4 : Int32) (i5 : Int32) (h0 : Heap) (n0 : Nat) (Z0 : n0 ≤ h0.size) :
    MetFree l x (head1 (Jvm.Cond.code x code maxLocals ret :: ws) room_1) (fun aa_ UU_ => aa_ = #[(.int i0), (.int i1), (.int i2), (.int i3), (.int i4), (.int i5)] ∧ Z.Warmed39 UU_.vm ∧ UU_.heap = h0) (fun _ _ _ _ _ => True) (fun _ UU_ oo_ UV_ => ∃ vv_ LL_, oo_ = .returned vv_ ∧ own_law_Q Z i0 i1 i2 i3 i4 i5 h0 n0 vv_ UV_.heap LL_ ∧ FrameEnd UU_ oo_ UV_ LL_ room_1.cells room_1.slots) := by
  refine MetFree.of_bodySF (plainFor_of_name own_law_pn) hisR ?_
  intro p e s m args below meth c s₁ Bd hml0 hP hK
  obtain ⟨rfl, hZ, hh⟩ := hP
  have hx := Bd.exec
  have hby := Bd.bytes
  have hml : c.maxLocals = 33 := hml0
  have hown : s.vm.findClass "com/example/adept_layout/adeptlayout/geometry/BoxContainsPinLaw" = some m.cls := findClass_of_methodNamed Bd.named
  have hnm := (name_of_methodNamed Bd.named Bd.method).1
  have X0 : Stand p l e room_1 s m #[(.int i0), (.int i1), (.int i2), (.int i3), (.int i4), (.int i5)] below meth c s₁ [] 0 0 := Stand.of_body Bd
  have e0 : s₁.heap = h0 := by rw [← hh, Bd.state]; rfl
  have N0 := Fr.nil n0
  have KP0 : Keep h0 h0 [] := Keep.refl _ _
  refine ownFin (Q := own_law_Q Z i0 i1 i2 i3 i4 i5 h0 n0) ?_
  refine ownStep (fun _ k => castTop (own_law_ef m i0 i1 i2 i3 i4 i5) k) ?_
  show ownGo p.tables e below (s₁.setTop (mkF m 0 #[.val (.int i0), .val (.int i1), .val (.int i2), .val (.int i3), .val (.int i4), .val (.int i5), .unset, .unset, .unset, .unset, .unset, .unset, .unset, .unset, .unset, .unset, .unset, .unset, .unset, .unset, .unset, .unset, .unset, .unset, .unset, .unset, .unset, .unset, .unset, .unset, .unset, .unset, .unset] [])) _
  refine ownStep (fun _ k => XS.iloadN X0.here hx rfl (hb hby at_0) rfl  k) ?_
  refine ownStep (fun _ k => XS.i2l X0.here hx rfl (hb hby at_1) rfl k) ?_
  refine ownStep (fun _ k => XS.lstore X0.here hx rfl (hb hby at_2) rfl (l' := #[.val (.int i0), .val (.int i1), .val (.int i2), .val (.int i3), .val (.int i4), .val (.int i5), .val (.long (i0.toInt64)), .second, .unset, .unset, .unset, .unset, .unset, .unset, .unset, .unset, .unset, .unset, .unset, .unset, .unset, .unset, .unset, .unset, .unset, .unset, .unset, .unset, .unset, .unset, .unset, .unset, .unset]) rfl k) ?_
  refine ownStep (fun _ k => XS.iloadN X0.here hx rfl (hb hby at_4) rfl  k) ?_
  refine ownStep (fun _ k => XS.i2l X0.here hx rfl (hb hby at_5) rfl k) ?_
  refine ownStep (fun _ k => XS.lstore X0.here hx rfl (hb hby at_6) rfl (l' := #[.val (.int i0), .val (.int i1), .val (.int i2), .val (.int i3), .val (.int i4), .val (.int i5), .val (.long (i0.toInt64)), .second, .val (.long (i1.toInt64)), .second, .unset, .unset, .unset, .unset, .unset, .unset, .unset, .unset, .unset, .unset, .unset, .unset, .unset, .unset, .unset, .unset, .unset, .unset, .unset, .unset, .unset, .unset, .unset]) rfl k) ?_
  refine ownStep (fun _ k => XS.iloadN X0.here hx rfl (hb hby at_8) rfl  k) ?_
  show ownGo p.tables e below (s₁.setTop (mkF m 9 #[.val (.int i0), .val (.int i1), .val (.int i2), .val (.int i3), .val (.int i4), .val (.int i5), .val (.long (i0.toInt64)), .second, .val (.long (i1.toInt64)), .second, .unset, .unset, .unset, .unset, .unset, .unset, .unset, .unset, .unset, .unset, .unset, .unset, .unset, .unset, .unset, .unset, .unset, .unset, .unset, .unset, .unset, .unset, .unset] [(.int i2)])) _
  refine ownStep (X0.ldcInt hx hown (mvT hZ (hw _ ow0)) (g := (mkF m 9 #[.val (.int i0), .val (.int i1), .val (.int i2), .val (.int i3), .val (.int i4), .val (.int i5), .val (.long (i0.toInt64)), .second, .val (.long (i1.toInt64)), .second, .unset, .unset, .unset, .unset, .unset, .unset, .unset, .unset, .unset, .unset, .unset, .unset, .unset, .unset, .unset, .unset, .unset, .unset, .unset, .unset, .unset, .unset, .unset] [(.int i2)])) rfl (hb hby at_9)) ?_
  refine ownStep (fun _ k => XS.iand X0.here hx rfl (hb hby at_11) rfl k) ?_
  refine ownStep (fun _ k => XS.i2l X0.here hx rfl (hb hby at_12) rfl k) ?_
  refine ownStep (fun _ k => XS.lstore X0.here hx rfl (hb hby at_13) rfl (l' := #[.val (.int i0), .val (.int i1), .val (.int i2), .val (.int i3), .val (.int i4), .val (.int i5), .val (.long (i0.toInt64)), .second, .val (.long (i1.toInt64)), .second, .val (.long ((i2 &&& (2147483647 : Int32)).toInt64)), .second, .unset, .unset, .unset, .unset, .unset, .unset, .unset, .unset, .unset, .unset, .unset, .unset, .unset, .unset, .unset, .unset, .unset, .unset, .unset, .unset, .unset]) rfl k) ?_
  refine ownStep (fun _ k => XS.iloadN X0.here hx rfl (hb hby at_15) rfl  k) ?_
  show ownGo p.tables e below (s₁.setTop (mkF m 16 #[.val (.int i0), .val (.int i1), .val (.int i2), .val (.int i3), .val (.int i4), .val (.int i5), .val (.long (i0.toInt64)), .second, .val (.long (i1.toInt64)), .second, .val (.long ((i2 &&& (2147483647 : Int32)).toInt64)), .second, .unset, .unset, .unset, .unset, .unset, .unset, .unset, .unset, .unset, .unset, .unset, .unset, .unset, .unset, .unset, .unset, .unset, .unset, .unset, .unset, .unset] [(.int i3)])) _
  refine ownStep (X0.ldcInt hx hown (mvT hZ (hw _ ow0)) (g := (mkF m 16 #[.val (.int i0), .val (.int i1), .val (.int i2), .val (.int i3), .val (.int i4), .val (.int i5), .val (.long (i0.toInt64)), .second, .val (.long (i1.toInt64)), .second, .val (.long ((i2 &&& (2147483647 : Int32)).toInt64)), .second, .unset, .unset, .unset, .unset, .unset, .unset, .unset, .unset, .unset, .unset, .unset, .unset, .unset, .unset, .unset, .unset, .unset, .unset, .unset, .unset, .unset] [(.int i3)])) rfl (hb hby at_16)) ?_
  refine ownStep (fun _ k => XS.iand X0.here hx rfl (hb hby at_18) rfl k) ?_
  refine ownStep (fun _ k => XS.i2l X0.here hx rfl (hb hby at_19) rfl k) ?_
  refine ownStep (fun _ k => XS.lstore X0.here hx rfl (hb hby at_20) rfl (l' := #[.val (.int i0), .val (.int i1), .val (.int i2), .val (.int i3), .val (.int i4), .val (.int i5), .val (.long (i0.toInt64)), .second, .val (.long (i1.toInt64)), .second, .val (.long ((i2 &&& (2147483647 : Int32)).toInt64)), .second, .val (.long ((i3 &&& (2147483647 : Int32)).toInt64)), .second, .unset, .unset, .unset, .unset, .unset, .unset, .unset, .unset, .unset, .unset, .unset, .unset, .unset, .unset, .unset, .unset, .unset, .unset, .unset]) rfl k) ?_
  refine ownStep (fun _ k => XS.iload X0.here hx rfl (hb hby at_22) rfl  k) ?_
  refine ownStep (fun _ k => XS.bipush X0.here hx rfl (hb hby at_24) k) ?_
  refine ownStep (fun _ k => XS.ishl X0.here hx rfl (hb hby at_26) rfl k) ?_
  refine ownStep (fun _ k => XS.bipush X0.here hx rfl (hb hby at_27) k) ?_
  refine ownStep (fun _ k => XS.ishr X0.here hx rfl (hb hby at_29) rfl k) ?_
  refine ownStep (fun _ k => XS.i2l X0.here hx rfl (hb hby at_30) rfl k) ?_
  refine ownStep (fun _ k => XS.lstore X0.here hx rfl (hb hby at_31) rfl (l' := #[.val (.int i0), .val (.int i1), .val (.int i2), .val (.int i3), .val (.int i4), .val (.int i5), .val (.long (i0.toInt64)), .second, .val (.long (i1.toInt64)), .second, .val (.long ((i2 &&& (2147483647 : Int32)).toInt64)), .second, .val (.long ((i3 &&& (2147483647 : Int32)).toInt64)), .second, .val (.long (((i4 <<< ((24 : Int32) &&& 31)) >>> ((24 : Int32) &&& 31)).toInt64)), .second, .unset, .unset, .unset, .unset, .unset, .unset, .unset, .unset, .unset, .unset, .unset, .unset, .unset, .unset, .unset, .unset, .unset]) rfl k) ?_
  refine ownStep (fun _ k => XS.iload X0.here hx rfl (hb hby at_33) rfl  k) ?_
  refine ownStep (fun _ k => XS.bipush X0.here hx rfl (hb hby at_35) k) ?_
  show ownGo p.tables e below (s₁.setTop (mkF m 37 #[.val (.int i0), .val (.int i1), .val (.int i2), .val (.int i3), .val (.int i4), .val (.int i5), .val (.long (i0.toInt64)), .second, .val (.long (i1.toInt64)), .second, .val (.long ((i2 &&& (2147483647 : Int32)).toInt64)), .second, .val (.long ((i3 &&& (2147483647 : Int32)).toInt64)), .second, .val (.long (((i4 <<< ((24 : Int32) &&& 31)) >>> ((24 : Int32) &&& 31)).toInt64)), .second, .unset, .unset, .unset, .unset, .unset, .unset, .unset, .unset, .unset, .unset, .unset, .unset, .unset, .unset, .unset, .unset, .unset] [(.int (16 : Int32)), (.int i4)])) _
  refine ownStep (fun _ k => XS.ishl X0.here hx rfl (hb hby at_37) rfl k) ?_
  refine ownStep (fun _ k => XS.bipush X0.here hx rfl (hb hby at_38) k) ?_
  refine ownStep (fun _ k => XS.ishr X0.here hx rfl (hb hby at_40) rfl k) ?_
  refine ownStep (fun _ k => XS.i2l X0.here hx rfl (hb hby at_41) rfl k) ?_
  refine ownStep (fun _ k => XS.lstore X0.here hx rfl (hb hby at_42) rfl (l' := #[.val (.int i0), .val (.int i1), .val (.int i2), .val (.int i3), .val (.int i4), .val (.int i5), .val (.long (i0.toInt64)), .second, .val (.long (i1.toInt64)), .second, .val (.long ((i2 &&& (2147483647 : Int32)).toInt64)), .second, .val (.long ((i3 &&& (2147483647 : Int32)).toInt64)), .second, .val (.long (((i4 <<< ((24 : Int32) &&& 31)) >>> ((24 : Int32) &&& 31)).toInt64)), .second, .val (.long (((i4 <<< ((16 : Int32) &&& 31)) >>> ((24 : Int32) &&& 31)).toInt64)), .second, .unset, .unset, .unset, .unset, .unset, .unset, .unset, .unset, .unset, .unset, .unset, .unset, .unset, .unset, .unset]) rfl k) ?_
  refine ownStep (fun _ k => XS.iload X0.here hx rfl (hb hby at_44) rfl  k) ?_
  refine ownStep (fun _ k => XS.bipush X0.here hx rfl (hb hby at_46) k) ?_
  refine ownStep (fun _ k => XS.ishl X0.here hx rfl (hb hby at_48) rfl k) ?_
  refine ownStep (fun _ k => XS.bipush X0.here hx rfl (hb hby at_49) k) ?_
  refine ownStep (fun _ k => XS.ishr X0.here hx rfl (hb hby at_51) rfl k) ?_
  refine ownStep (fun _ k => XS.i2l X0.here hx rfl (hb hby at_52) rfl k) ?_
  refine ownStep (fun _ k => XS.lstore X0.here hx rfl (hb hby at_53) rfl (l' := #[.val (.int i0), .val (.int i1), .val (.int i2), .val (.int i3), .val (.int i4), .val (.int i5), .val (.long (i0.toInt64)), .second, .val (.long (i1.toInt64)), .second, .val (.long ((i2 &&& (2147483647 : Int32)).toInt64)), .second, .val (.long ((i3 &&& (2147483647 : Int32)).toInt64)), .second, .val (.long (((i4 <<< ((24 : Int32) &&& 31)) >>> ((24 : Int32) &&& 31)).toInt64)), .second, .val (.long (((i4 <<< ((16 : Int32) &&& 31)) >>> ((24 : Int32) &&& 31)).toInt64)), .second, .val (.long (((i5 <<< ((24 : Int32) &&& 31)) >>> ((24 : Int32) &&& 31)).toInt64)), .second, .unset, .unset, .unset, .unset, .unset, .unset, .unset, .unset, .unset, .unset, .unset, .unset, .unset]) rfl k) ?_
  refine ownStep (fun _ k => XS.iload X0.here hx rfl (hb hby at_55) rfl  k) ?_
  show ownGo p.tables e below (s₁.setTop (mkF m 57 #[.val (.int i0), .val (.int i1), .val (.int i2), .val (.int i3), .val (.int i4), .val (.int i5), .val (.long (i0.toInt64)), .second, .val (.long (i1.toInt64)), .second, .val (.long ((i2 &&& (2147483647 : Int32)).toInt64)), .second, .val (.long ((i3 &&& (2147483647 : Int32)).toInt64)), .second, .val (.long (((i4 <<< ((24 : Int32) &&& 31)) >>> ((24 : Int32) &&& 31)).toInt64)), .second, .val (.long (((i4 <<< ((16 : Int32) &&& 31)) >>> ((24 : Int32) &&& 31)).toInt64)), .second, .val (.long (((i5 <<< ((24 : Int32) &&& 31)) >>> ((24 : Int32) &&& 31)).toInt64)), .second, .unset, .unset, .unset, .unset, .unset, .unset, .unset, .unset, .unset, .unset, .unset, .unset, .unset] [(.int i5)])) _
  refine ownStep (fun _ k => XS.bipush X0.here hx rfl (hb hby at_57) k) ?_
  refine ownStep (fun _ k => XS.ishl X0.here hx rfl (hb hby at_59) rfl k) ?_
  refine ownStep (fun _ k => XS.bipush X0.here hx rfl (hb hby at_60) k) ?_
  refine ownStep (fun _ k => XS.ishr X0.here hx rfl (hb hby at_62) rfl k) ?_
  refine ownStep (fun _ k => XS.i2l X0.here hx rfl (hb hby at_63) rfl k) ?_
  refine ownStep (fun _ k => XS.lstore X0.here hx rfl (hb hby at_64) rfl (l' := #[.val (.int i0), .val (.int i1), .val (.int i2), .val (.int i3), .val (.int i4), .val (.int i5), .val (.long (i0.toInt64)), .second, .val (.long (i1.toInt64)), .second, .val (.long ((i2 &&& (2147483647 : Int32)).toInt64)), .second, .val (.long ((i3 &&& (2147483647 : Int32)).toInt64)), .second, .val (.long (((i4 <<< ((24 : Int32) &&& 31)) >>> ((24 : Int32) &&& 31)).toInt64)), .second, .val (.long (((i4 <<< ((16 : Int32) &&& 31)) >>> ((24 : Int32) &&& 31)).toInt64)), .second, .val (.long (((i5 <<< ((24 : Int32) &&& 31)) >>> ((24 : Int32) &&& 31)).toInt64)), .second, .val (.long (((i5 <<< ((16 : Int32) &&& 31)) >>> ((24 : Int32) &&& 31)).toInt64)), .second, .unset, .unset, .unset, .unset, .unset, .unset, .unset, .unset, .unset, .unset, .unset]) rfl k) ?_
  refine ownStep (fun _ k => XS.lload X0.here hx rfl (hb hby at_66) rfl  k) ?_
  refine ownStep (fun _ k => XS.lload X0.here hx rfl (hb hby at_68) rfl  k) ?_
  refine ownStep (fun _ k => XS.ladd X0.here hx rfl (hb hby at_70) rfl k) ?_
  refine ownStep (fun _ k => XS.lstore X0.here hx rfl (hb hby at_71) rfl (l' := #[.val (.int i0), .val (.int i1), .val (.int i2), .val (.int i3), .val (.int i4), .val (.int i5), .val (.long (i0.toInt64)), .second, .val (.long (i1.toInt64)), .second, .val (.long ((i2 &&& (2147483647 : Int32)).toInt64)), .second, .val (.long ((i3 &&& (2147483647 : Int32)).toInt64)), .second, .val (.long (((i4 <<< ((24 : Int32) &&& 31)) >>> ((24 : Int32) &&& 31)).toInt64)), .second, .val (.long (((i4 <<< ((16 : Int32) &&& 31)) >>> ((24 : Int32) &&& 31)).toInt64)), .second, .val (.long (((i5 <<< ((24 : Int32) &&& 31)) >>> ((24 : Int32) &&& 31)).toInt64)), .second, .val (.long (((i5 <<< ((16 : Int32) &&& 31)) >>> ((24 : Int32) &&& 31)).toInt64)), .second, .val (.long ((i0.toInt64) + (((i4 <<< ((24 : Int32) &&& 31)) >>> ((24 : Int32) &&& 31)).toInt64))), .second, .unset, .unset, .unset, .unset, .unset, .unset, .unset, .unset, .unset]) rfl k) ?_
  refine ownStep (fun _ k => XS.lload X0.here hx rfl (hb hby at_73) rfl  k) ?_
  refine ownStep (fun _ k => XS.lload X0.here hx rfl (hb hby at_75) rfl  k) ?_
  refine ownStep (fun _ k => XS.ladd X0.here hx rfl (hb hby at_77) rfl k) ?_
  show ownGo p.tables e below (s₁.setTop (mkF m 78 #[.val (.int i0), .val (.int i1), .val (.int i2), .val (.int i3), .val (.int i4), .val (.int i5), .val (.long (i0.toInt64)), .second, .val (.long (i1.toInt64)), .second, .val (.long ((i2 &&& (2147483647 : Int32)).toInt64)), .second, .val (.long ((i3 &&& (2147483647 : Int32)).toInt64)), .second, .val (.long (((i4 <<< ((24 : Int32) &&& 31)) >>> ((24 : Int32) &&& 31)).toInt64)), .second, .val (.long (((i4 <<< ((16 : Int32) &&& 31)) >>> ((24 : Int32) &&& 31)).toInt64)), .second, .val (.long (((i5 <<< ((24 : Int32) &&& 31)) >>> ((24 : Int32) &&& 31)).toInt64)), .second, .val (.long (((i5 <<< ((16 : Int32) &&& 31)) >>> ((24 : Int32) &&& 31)).toInt64)), .second, .val (.long ((i0.toInt64) + (((i4 <<< ((24 : Int32) &&& 31)) >>> ((24 : Int32) &&& 31)).toInt64))), .second, .unset, .unset, .unset, .unset, .unset, .unset, .unset, .unset, .unset] [(.long ((i1.toInt64) + (((i5 <<< ((24 : Int32) &&& 31)) >>> ((24 : Int32) &&& 31)).toInt64)))])) _
  refine ownStep (fun _ k => XS.lstore X0.here hx rfl (hb hby at_78) rfl (l' := #[.val (.int i0), .val (.int i1), .val (.int i2), .val (.int i3), .val (.int i4), .val (.int i5), .val (.long (i0.toInt64)), .second, .val (.long (i1.toInt64)), .second, .val (.long ((i2 &&& (2147483647 : Int32)).toInt64)), .second, .val (.long ((i3 &&& (2147483647 : Int32)).toInt64)), .second, .val (.long (((i4 <<< ((24 : Int32) &&& 31)) >>> ((24 : Int32) &&& 31)).toInt64)), .second, .val (.long (((i4 <<< ((16 : Int32) &&& 31)) >>> ((24 : Int32) &&& 31)).toInt64)), .second, .val (.long (((i5 <<< ((24 : Int32) &&& 31)) >>> ((24 : Int32) &&& 31)).toInt64)), .second, .val (.long (((i5 <<< ((16 : Int32) &&& 31)) >>> ((24 : Int32) &&& 31)).toInt64)), .second, .val (.long ((i0.toInt64) + (((i4 <<< ((24 : Int32) &&& 31)) >>> ((24 : Int32) &&& 31)).toInt64))), .second, .val (.long ((i1.toInt64) + (((i5 <<< ((24 : Int32) &&& 31)) >>> ((24 : Int32) &&& 31)).toInt64))), .second, .unset, .unset, .unset, .unset, .unset, .unset, .unset]) rfl k) ?_
  refine ownStep (fun _ k => XS.lconst X0.here hx rfl (hb hby at_80) k) ?_
  refine ownStep (fun _ k => XS.lload X0.here hx rfl (hb hby at_81) rfl  k) ?_
  refine ownStep (fun _ k => XS.lload X0.here hx rfl (hb hby at_83) rfl  k) ?_
  refine ownStep (fun _ k => XS.ladd X0.here hx rfl (hb hby at_85) rfl k) ?_
  show ownGo p.tables e below (s₁.setTop (mkF m 86 #[.val (.int i0), .val (.int i1), .val (.int i2), .val (.int i3), .val (.int i4), .val (.int i5), .val (.long (i0.toInt64)), .second, .val (.long (i1.toInt64)), .second, .val (.long ((i2 &&& (2147483647 : Int32)).toInt64)), .second, .val (.long ((i3 &&& (2147483647 : Int32)).toInt64)), .second, .val (.long (((i4 <<< ((24 : Int32) &&& 31)) >>> ((24 : Int32) &&& 31)).toInt64)), .second, .val (.long (((i4 <<< ((16 : Int32) &&& 31)) >>> ((24 : Int32) &&& 31)).toInt64)), .second, .val (.long (((i5 <<< ((24 : Int32) &&& 31)) >>> ((24 : Int32) &&& 31)).toInt64)), .second, .val (.long (((i5 <<< ((16 : Int32) &&& 31)) >>> ((24 : Int32) &&& 31)).toInt64)), .second, .val (.long ((i0.toInt64) + (((i4 <<< ((24 : Int32) &&& 31)) >>> ((24 : Int32) &&& 31)).toInt64))), .second, .val (.long ((i1.toInt64) + (((i5 <<< ((24 : Int32) &&& 31)) >>> ((24 : Int32) &&& 31)).toInt64))), .second, .unset, .unset, .unset, .unset, .unset, .unset, .unset] [(.long (((i2 &&& (2147483647 : Int32)).toInt64) + (((i4 <<< ((16 : Int32) &&& 31)) >>> ((24 : Int32) &&& 31)).toInt64))), (.long (0 : Int64))])) _
  have Zs2 : n0 ≤ h0.size := Nat.le_trans Z0 KP0.1
  obtain ⟨_, _, ⟨T1, L1, k1, n1⟩, -, X1, ⟨Lc1, hQ1, l1, y1, z1⟩, st1⟩ := Jvm.LawKit.callS X0 hx (y := (⟨"java/lang/Math", "max", "(JJ)J"⟩ : MethodName)) hown (mvT hZ (hw _ ow1)) (mvT hZ (hw _ ow2)) (mvT hZ (hw _ ow3)) (mvT hZ (hw _ ow4)) (by decide) (backOf (W := 0) (own_mmax l Z a0 hw [] (0 : Int64) (((i2 &&& (2147483647 : Int32)).toInt64) + (((i4 <<< ((16 : Int32) &&& 31)) >>> ((24 : Int32) &&& 31)).toInt64)) h0 n0 Zs2 ) hZ (hw _ ow4) (hw _ ow3) (by decide) (by decide)) (g := (mkF m 86 #[.val (.int i0), .val (.int i1), .val (.int i2), .val (.int i3), .val (.int i4), .val (.int i5), .val (.long (i0.toInt64)), .second, .val (.long (i1.toInt64)), .second, .val (.long ((i2 &&& (2147483647 : Int32)).toInt64)), .second, .val (.long ((i3 &&& (2147483647 : Int32)).toInt64)), .second, .val (.long (((i4 <<< ((24 : Int32) &&& 31)) >>> ((24 : Int32) &&& 31)).toInt64)), .second, .val (.long (((i4 <<< ((16 : Int32) &&& 31)) >>> ((24 : Int32) &&& 31)).toInt64)), .second, .val (.long (((i5 <<< ((24 : Int32) &&& 31)) >>> ((24 : Int32) &&& 31)).toInt64)), .second, .val (.long (((i5 <<< ((16 : Int32) &&& 31)) >>> ((24 : Int32) &&& 31)).toInt64)), .second, .val (.long ((i0.toInt64) + (((i4 <<< ((24 : Int32) &&& 31)) >>> ((24 : Int32) &&& 31)).toInt64))), .second, .val (.long ((i1.toInt64) + (((i5 <<< ((24 : Int32) &&& 31)) >>> ((24 : Int32) &&& 31)).toInt64))), .second, .unset, .unset, .unset, .unset, .unset, .unset, .unset] [(.long (((i2 &&& (2147483647 : Int32)).toInt64) + (((i4 <<< ((16 : Int32) &&& 31)) >>> ((24 : Int32) &&& 31)).toInt64))), (.long (0 : Int64))])) rfl (by rw [hml]; rfl) (argsL := [(.long (0 : Int64)), (.long (((i2 &&& (2147483647 : Int32)).toInt64) + (((i4 <<< ((16 : Int32) &&& 31)) >>> ((24 : Int32) &&& 31)).toInt64)))]) (rest := []) (lenOf own_law_pd0 rfl) rfl (by show 2 * 0 + _ ≤ _; exact Nat.le_of_eq rfl) (hb hby at_86) (fun _ _ => ⟨rfl, e0, (by decide : 0 + 0 ≤ _), (by decide : 0 + 0 ≤ _)⟩)
  dsimp only [Pt.U, Pt.locs, Pt.cells, Pt.slots] at X1 l1 y1 z1 st1 hQ1
  obtain rfl : k1 = 0 := y1
  obtain rfl : n1 = 0 := z1
  obtain ⟨rfl, N1q, R1⟩ := hQ1
  have N1 : Fr n0 L1 := l1 ▸ Fr.app N0 N1q
  refine ownStep (fun _ k => st1 _ k) ?_
  refine ownStep (fun _ k => XS.lstore X1.here hx rfl (hb hby at_89) rfl (l' := #[.val (.int i0), .val (.int i1), .val (.int i2), .val (.int i3), .val (.int i4), .val (.int i5), .val (.long (i0.toInt64)), .second, .val (.long (i1.toInt64)), .second, .val (.long ((i2 &&& (2147483647 : Int32)).toInt64)), .second, .val (.long ((i3 &&& (2147483647 : Int32)).toInt64)), .second, .val (.long (((i4 <<< ((24 : Int32) &&& 31)) >>> ((24 : Int32) &&& 31)).toInt64)), .second, .val (.long (((i4 <<< ((16 : Int32) &&& 31)) >>> ((24 : Int32) &&& 31)).toInt64)), .second, .val (.long (((i5 <<< ((24 : Int32) &&& 31)) >>> ((24 : Int32) &&& 31)).toInt64)), .second, .val (.long (((i5 <<< ((16 : Int32) &&& 31)) >>> ((24 : Int32) &&& 31)).toInt64)), .second, .val (.long ((i0.toInt64) + (((i4 <<< ((24 : Int32) &&& 31)) >>> ((24 : Int32) &&& 31)).toInt64))), .second, .val (.long ((i1.toInt64) + (((i5 <<< ((24 : Int32) &&& 31)) >>> ((24 : Int32) &&& 31)).toInt64))), .second, .val (.long (own_max (0 : Int64) (((i2 &&& (2147483647 : Int32)).toInt64) + (((i4 <<< ((16 : Int32) &&& 31)) >>> ((24 : Int32) &&& 31)).toInt64)))), .second, .unset, .unset, .unset, .unset, .unset]) rfl k) ?_
  refine ownStep (fun _ k => XS.lconst X1.here hx rfl (hb hby at_91) k) ?_
  refine ownStep (fun _ k => XS.lload X1.here hx rfl (hb hby at_92) rfl  k) ?_
  refine ownStep (fun _ k => XS.lload X1.here hx rfl (hb hby at_94) rfl  k) ?_
  refine ownStep (fun _ k => XS.ladd X1.here hx rfl (hb hby at_96) rfl k) ?_
  show ownGo p.tables e below (T1.setTop (mkF m 97 #[.val (.int i0), .val (.int i1), .val (.int i2), .val (.int i3), .val (.int i4), .val (.int i5), .val (.long (i0.toInt64)), .second, .val (.long (i1.toInt64)), .second, .val (.long ((i2 &&& (2147483647 : Int32)).toInt64)), .second, .val (.long ((i3 &&& (2147483647 : Int32)).toInt64)), .second, .val (.long (((i4 <<< ((24 : Int32) &&& 31)) >>> ((24 : Int32) &&& 31)).toInt64)), .second, .val (.long (((i4 <<< ((16 : Int32) &&& 31)) >>> ((24 : Int32) &&& 31)).toInt64)), .second, .val (.long (((i5 <<< ((24 : Int32) &&& 31)) >>> ((24 : Int32) &&& 31)).toInt64)), .second, .val (.long (((i5 <<< ((16 : Int32) &&& 31)) >>> ((24 : Int32) &&& 31)).toInt64)), .second, .val (.long ((i0.toInt64) + (((i4 <<< ((24 : Int32) &&& 31)) >>> ((24 : Int32) &&& 31)).toInt64))), .second, .val (.long ((i1.toInt64) + (((i5 <<< ((24 : Int32) &&& 31)) >>> ((24 : Int32) &&& 31)).toInt64))), .second, .val (.long (own_max (0 : Int64) (((i2 &&& (2147483647 : Int32)).toInt64) + (((i4 <<< ((16 : Int32) &&& 31)) >>> ((24 : Int32) &&& 31)).toInt64)))), .second, .unset, .unset, .unset, .unset, .unset] [(.long (((i3 &&& (2147483647 : Int32)).toInt64) + (((i5 <<< ((16 : Int32) &&& 31)) >>> ((24 : Int32) &&& 31)).toInt64))), (.long (0 : Int64))])) _
  have Zs4 : n0 ≤ h0.size := Nat.le_trans Z0 KP0.1
  obtain ⟨_, _, ⟨T3, L3, k3, n3⟩, -, X3, ⟨Lc3, hQ3, l3, y3, z3⟩, st3⟩ := Jvm.LawKit.callS X1 hx (y := (⟨"java/lang/Math", "max", "(JJ)J"⟩ : MethodName)) hown (mvT hZ (hw _ ow1)) (mvT hZ (hw _ ow2)) (mvT hZ (hw _ ow3)) (mvT hZ (hw _ ow4)) (by decide) (backOf (W := 0) (own_mmax l Z a0 hw [] (0 : Int64) (((i3 &&& (2147483647 : Int32)).toInt64) + (((i5 <<< ((16 : Int32) &&& 31)) >>> ((24 : Int32) &&& 31)).toInt64)) h0 n0 Zs4 ) hZ (hw _ ow4) (hw _ ow3) (by decide) (by decide)) (g := (mkF m 97 #[.val (.int i0), .val (.int i1), .val (.int i2), .val (.int i3), .val (.int i4), .val (.int i5), .val (.long (i0.toInt64)), .second, .val (.long (i1.toInt64)), .second, .val (.long ((i2 &&& (2147483647 : Int32)).toInt64)), .second, .val (.long ((i3 &&& (2147483647 : Int32)).toInt64)), .second, .val (.long (((i4 <<< ((24 : Int32) &&& 31)) >>> ((24 : Int32) &&& 31)).toInt64)), .second, .val (.long (((i4 <<< ((16 : Int32) &&& 31)) >>> ((24 : Int32) &&& 31)).toInt64)), .second, .val (.long (((i5 <<< ((24 : Int32) &&& 31)) >>> ((24 : Int32) &&& 31)).toInt64)), .second, .val (.long (((i5 <<< ((16 : Int32) &&& 31)) >>> ((24 : Int32) &&& 31)).toInt64)), .second, .val (.long ((i0.toInt64) + (((i4 <<< ((24 : Int32) &&& 31)) >>> ((24 : Int32) &&& 31)).toInt64))), .second, .val (.long ((i1.toInt64) + (((i5 <<< ((24 : Int32) &&& 31)) >>> ((24 : Int32) &&& 31)).toInt64))), .second, .val (.long (own_max (0 : Int64) (((i2 &&& (2147483647 : Int32)).toInt64) + (((i4 <<< ((16 : Int32) &&& 31)) >>> ((24 : Int32) &&& 31)).toInt64)))), .second, .unset, .unset, .unset, .unset, .unset] [(.long (((i3 &&& (2147483647 : Int32)).toInt64) + (((i5 <<< ((16 : Int32) &&& 31)) >>> ((24 : Int32) &&& 31)).toInt64))), (.long (0 : Int64))])) rfl (by rw [hml]; rfl) (argsL := [(.long (0 : Int64)), (.long (((i3 &&& (2147483647 : Int32)).toInt64) + (((i5 <<< ((16 : Int32) &&& 31)) >>> ((24 : Int32) &&& 31)).toInt64)))]) (rest := []) (lenOf own_law_pd0 rfl) rfl (by show 2 * 0 + _ ≤ _; exact Nat.le_of_eq rfl) (hb hby at_97) (fun _ _ => ⟨rfl, R1, (by decide : 0 + 0 ≤ _), (by decide : 0 + 0 ≤ _)⟩)
  dsimp only [Pt.U, Pt.locs, Pt.cells, Pt.slots] at X3 l3 y3 z3 st3 hQ3
  obtain rfl : k3 = 0 := y3
  obtain rfl : n3 = 0 := z3
  obtain ⟨rfl, N3q, R3⟩ := hQ3
  have N3 : Fr n0 L3 := l3 ▸ Fr.app N1 N3q
  refine ownStep (fun _ k => st3 _ k) ?_
  refine ownStep (fun _ k => XS.lstore X3.here hx rfl (hb hby at_100) rfl (l' := #[.val (.int i0), .val (.int i1), .val (.int i2), .val (.int i3), .val (.int i4), .val (.int i5), .val (.long (i0.toInt64)), .second, .val (.long (i1.toInt64)), .second, .val (.long ((i2 &&& (2147483647 : Int32)).toInt64)), .second, .val (.long ((i3 &&& (2147483647 : Int32)).toInt64)), .second, .val (.long (((i4 <<< ((24 : Int32) &&& 31)) >>> ((24 : Int32) &&& 31)).toInt64)), .second, .val (.long (((i4 <<< ((16 : Int32) &&& 31)) >>> ((24 : Int32) &&& 31)).toInt64)), .second, .val (.long (((i5 <<< ((24 : Int32) &&& 31)) >>> ((24 : Int32) &&& 31)).toInt64)), .second, .val (.long (((i5 <<< ((16 : Int32) &&& 31)) >>> ((24 : Int32) &&& 31)).toInt64)), .second, .val (.long ((i0.toInt64) + (((i4 <<< ((24 : Int32) &&& 31)) >>> ((24 : Int32) &&& 31)).toInt64))), .second, .val (.long ((i1.toInt64) + (((i5 <<< ((24 : Int32) &&& 31)) >>> ((24 : Int32) &&& 31)).toInt64))), .second, .val (.long (own_max (0 : Int64) (((i2 &&& (2147483647 : Int32)).toInt64) + (((i4 <<< ((16 : Int32) &&& 31)) >>> ((24 : Int32) &&& 31)).toInt64)))), .second, .val (.long (own_max (0 : Int64) (((i3 &&& (2147483647 : Int32)).toInt64) + (((i5 <<< ((16 : Int32) &&& 31)) >>> ((24 : Int32) &&& 31)).toInt64)))), .second, .unset, .unset, .unset]) rfl k) ?_
  show ownGo p.tables e below (T3.setTop (mkF m 102 #[.val (.int i0), .val (.int i1), .val (.int i2), .val (.int i3), .val (.int i4), .val (.int i5), .val (.long (i0.toInt64)), .second, .val (.long (i1.toInt64)), .second, .val (.long ((i2 &&& (2147483647 : Int32)).toInt64)), .second, .val (.long ((i3 &&& (2147483647 : Int32)).toInt64)), .second, .val (.long (((i4 <<< ((24 : Int32) &&& 31)) >>> ((24 : Int32) &&& 31)).toInt64)), .second, .val (.long (((i4 <<< ((16 : Int32) &&& 31)) >>> ((24 : Int32) &&& 31)).toInt64)), .second, .val (.long (((i5 <<< ((24 : Int32) &&& 31)) >>> ((24 : Int32) &&& 31)).toInt64)), .second, .val (.long (((i5 <<< ((16 : Int32) &&& 31)) >>> ((24 : Int32) &&& 31)).toInt64)), .second, .val (.long ((i0.toInt64) + (((i4 <<< ((24 : Int32) &&& 31)) >>> ((24 : Int32) &&& 31)).toInt64))), .second, .val (.long ((i1.toInt64) + (((i5 <<< ((24 : Int32) &&& 31)) >>> ((24 : Int32) &&& 31)).toInt64))), .second, .val (.long (own_max (0 : Int64) (((i2 &&& (2147483647 : Int32)).toInt64) + (((i4 <<< ((16 : Int32) &&& 31)) >>> ((24 : Int32) &&& 31)).toInt64)))), .second, .val (.long (own_max (0 : Int64) (((i3 &&& (2147483647 : Int32)).toInt64) + (((i5 <<< ((16 : Int32) &&& 31)) >>> ((24 : Int32) &&& 31)).toInt64)))), .second, .unset, .unset, .unset] [])) _
  obtain ⟨T5, h5, X5, e5, E5, A5, D5, U5, st5⟩ := newO X3 hx hZ hown (hw _ ow5) (hw _ ow6) (hw _ ow7) R3 (g := (mkF m 102 #[.val (.int i0), .val (.int i1), .val (.int i2), .val (.int i3), .val (.int i4), .val (.int i5), .val (.long (i0.toInt64)), .second, .val (.long (i1.toInt64)), .second, .val (.long ((i2 &&& (2147483647 : Int32)).toInt64)), .second, .val (.long ((i3 &&& (2147483647 : Int32)).toInt64)), .second, .val (.long (((i4 <<< ((24 : Int32) &&& 31)) >>> ((24 : Int32) &&& 31)).toInt64)), .second, .val (.long (((i4 <<< ((16 : Int32) &&& 31)) >>> ((24 : Int32) &&& 31)).toInt64)), .second, .val (.long (((i5 <<< ((24 : Int32) &&& 31)) >>> ((24 : Int32) &&& 31)).toInt64)), .second, .val (.long (((i5 <<< ((16 : Int32) &&& 31)) >>> ((24 : Int32) &&& 31)).toInt64)), .second, .val (.long ((i0.toInt64) + (((i4 <<< ((24 : Int32) &&& 31)) >>> ((24 : Int32) &&& 31)).toInt64))), .second, .val (.long ((i1.toInt64) + (((i5 <<< ((24 : Int32) &&& 31)) >>> ((24 : Int32) &&& 31)).toInt64))), .second, .val (.long (own_max (0 : Int64) (((i2 &&& (2147483647 : Int32)).toInt64) + (((i4 <<< ((16 : Int32) &&& 31)) >>> ((24 : Int32) &&& 31)).toInt64)))), .second, .val (.long (own_max (0 : Int64) (((i3 &&& (2147483647 : Int32)).toInt64) + (((i5 <<< ((16 : Int32) &&& 31)) >>> ((24 : Int32) &&& 31)).toInt64)))), .second, .unset, .unset, .unset] [])) rfl (hb hby at_102) (by decide) (by decide)
  obtain ⟨b5, g5⟩ : ∃ z, z = h0.size := ⟨_, rfl⟩
  rw [← g5] at A5 D5 U5 st5
  have gh_b5 : h0.size ≤ b5 := Nat.le_trans KP0.1 (Nat.le_of_eq g5.symm)
  have gn_b5 : n0 ≤ b5 := Nat.le_trans Z0 gh_b5
  have KP6 : Keep h0 h5 [] := KP0.ext E5
  have F7 : Fld Z h5 b5 "com/example/adept_layout/adeptlayout/geometry/Box" "left" "D" (.double 0) := D5 (Or.inr (hw _ ow36)) (ty := .double) (by decide)
  have F8 : Fld Z h5 b5 "com/example/adept_layout/adeptlayout/geometry/Box" "top" "D" (.double 0) := D5 (Or.inr (hw _ ow43)) (ty := .double) (by decide)
  have F9 : Fld Z h5 b5 "com/example/adept_layout/adeptlayout/geometry/Box" "right" "D" (.double 0) := D5 (Or.inr (hw _ ow45)) (ty := .double) (by decide)
  have F10 : Fld Z h5 b5 "com/example/adept_layout/adeptlayout/geometry/Box" "bottom" "D" (.double 0) := D5 (Or.inr (hw _ ow47)) (ty := .double) (by decide)
  refine ownStep st5 ?_
  refine ownStep (fun _ k => XS.dup X5.here hx rfl (hb hby at_105) rfl rfl k) ?_
  show ownGo p.tables e below (T5.setTop (mkF m 106 #[.val (.int i0), .val (.int i1), .val (.int i2), .val (.int i3), .val (.int i4), .val (.int i5), .val (.long (i0.toInt64)), .second, .val (.long (i1.toInt64)), .second, .val (.long ((i2 &&& (2147483647 : Int32)).toInt64)), .second, .val (.long ((i3 &&& (2147483647 : Int32)).toInt64)), .second, .val (.long (((i4 <<< ((24 : Int32) &&& 31)) >>> ((24 : Int32) &&& 31)).toInt64)), .second, .val (.long (((i4 <<< ((16 : Int32) &&& 31)) >>> ((24 : Int32) &&& 31)).toInt64)), .second, .val (.long (((i5 <<< ((24 : Int32) &&& 31)) >>> ((24 : Int32) &&& 31)).toInt64)), .second, .val (.long (((i5 <<< ((16 : Int32) &&& 31)) >>> ((24 : Int32) &&& 31)).toInt64)), .second, .val (.long ((i0.toInt64) + (((i4 <<< ((24 : Int32) &&& 31)) >>> ((24 : Int32) &&& 31)).toInt64))), .second, .val (.long ((i1.toInt64) + (((i5 <<< ((24 : Int32) &&& 31)) >>> ((24 : Int32) &&& 31)).toInt64))), .second, .val (.long (own_max (0 : Int64) (((i2 &&& (2147483647 : Int32)).toInt64) + (((i4 <<< ((16 : Int32) &&& 31)) >>> ((24 : Int32) &&& 31)).toInt64)))), .second, .val (.long (own_max (0 : Int64) (((i3 &&& (2147483647 : Int32)).toInt64) + (((i5 <<< ((16 : Int32) &&& 31)) >>> ((24 : Int32) &&& 31)).toInt64)))), .second, .unset, .unset, .unset] [(.ref b5), (.ref b5)])) _
  obtain ⟨T11, h11, X11, e11, E11, A11, D11, U11, st11⟩ := newO X5 hx hZ hown (hw _ ow8) (hw _ ow9) (hw _ ow10) e5 (g := (mkF m 106 #[.val (.int i0), .val (.int i1), .val (.int i2), .val (.int i3), .val (.int i4), .val (.int i5), .val (.long (i0.toInt64)), .second, .val (.long (i1.toInt64)), .second, .val (.long ((i2 &&& (2147483647 : Int32)).toInt64)), .second, .val (.long ((i3 &&& (2147483647 : Int32)).toInt64)), .second, .val (.long (((i4 <<< ((24 : Int32) &&& 31)) >>> ((24 : Int32) &&& 31)).toInt64)), .second, .val (.long (((i4 <<< ((16 : Int32) &&& 31)) >>> ((24 : Int32) &&& 31)).toInt64)), .second, .val (.long (((i5 <<< ((24 : Int32) &&& 31)) >>> ((24 : Int32) &&& 31)).toInt64)), .second, .val (.long (((i5 <<< ((16 : Int32) &&& 31)) >>> ((24 : Int32) &&& 31)).toInt64)), .second, .val (.long ((i0.toInt64) + (((i4 <<< ((24 : Int32) &&& 31)) >>> ((24 : Int32) &&& 31)).toInt64))), .second, .val (.long ((i1.toInt64) + (((i5 <<< ((24 : Int32) &&& 31)) >>> ((24 : Int32) &&& 31)).toInt64))), .second, .val (.long (own_max (0 : Int64) (((i2 &&& (2147483647 : Int32)).toInt64) + (((i4 <<< ((16 : Int32) &&& 31)) >>> ((24 : Int32) &&& 31)).toInt64)))), .second, .val (.long (own_max (0 : Int64) (((i3 &&& (2147483647 : Int32)).toInt64) + (((i5 <<< ((16 : Int32) &&& 31)) >>> ((24 : Int32) &&& 31)).toInt64)))), .second, .unset, .unset, .unset] [(.ref b5), (.ref b5)])) rfl (hb hby at_106) (by decide) (by decide)
  obtain ⟨b11, g11⟩ : ∃ z, z = h5.size := ⟨_, rfl⟩
  rw [← g11] at A11 D11 U11 st11
  have gh_b11 : h0.size ≤ b11 := Nat.le_trans KP6.1 (Nat.le_of_eq g11.symm)
  have gn_b11 : n0 ≤ b11 := Nat.le_trans Z0 gh_b11
  have KP12 : Keep h0 h11 [] := KP6.ext E11
  have F13 : Fld Z h11 b11 "com/example/adept_layout/adeptlayout/geometry/Point" "x" "D" (.double 0) := D11 (Or.inr (hw _ ow23)) (ty := .double) (by decide)
  have F14 : Fld Z h11 b11 "com/example/adept_layout/adeptlayout/geometry/Point" "y" "D" (.double 0) := D11 (Or.inr (hw _ ow25)) (ty := .double) (by decide)
  refine ownStep st11 ?_
  refine ownStep (fun _ k => XS.dup X11.here hx rfl (hb hby at_109) rfl rfl k) ?_
  refine ownStep (fun _ k => XS.lload X11.here hx rfl (hb hby at_110) rfl  k) ?_
  show ownGo p.tables e below (T11.setTop (mkF m 112 #[.val (.int i0), .val (.int i1), .val (.int i2), .val (.int i3), .val (.int i4), .val (.int i5), .val (.long (i0.toInt64)), .second, .val (.long (i1.toInt64)), .second, .val (.long ((i2 &&& (2147483647 : Int32)).toInt64)), .second, .val (.long ((i3 &&& (2147483647 : Int32)).toInt64)), .second, .val (.long (((i4 <<< ((24 : Int32) &&& 31)) >>> ((24 : Int32) &&& 31)).toInt64)), .second, .val (.long (((i4 <<< ((16 : Int32) &&& 31)) >>> ((24 : Int32) &&& 31)).toInt64)), .second, .val (.long (((i5 <<< ((24 : Int32) &&& 31)) >>> ((24 : Int32) &&& 31)).toInt64)), .second, .val (.long (((i5 <<< ((16 : Int32) &&& 31)) >>> ((24 : Int32) &&& 31)).toInt64)), .second, .val (.long ((i0.toInt64) + (((i4 <<< ((24 : Int32) &&& 31)) >>> ((24 : Int32) &&& 31)).toInt64))), .second, .val (.long ((i1.toInt64) + (((i5 <<< ((24 : Int32) &&& 31)) >>> ((24 : Int32) &&& 31)).toInt64))), .second, .val (.long (own_max (0 : Int64) (((i2 &&& (2147483647 : Int32)).toInt64) + (((i4 <<< ((16 : Int32) &&& 31)) >>> ((24 : Int32) &&& 31)).toInt64)))), .second, .val (.long (own_max (0 : Int64) (((i3 &&& (2147483647 : Int32)).toInt64) + (((i5 <<< ((16 : Int32) &&& 31)) >>> ((24 : Int32) &&& 31)).toInt64)))), .second, .unset, .unset, .unset] [(.long (i0.toInt64)), (.ref b11), (.ref b11), (.ref b5), (.ref b5)])) _
  have Zs16 : n0 ≤ h11.size := Nat.le_trans Z0 KP12.1
  obtain ⟨_, _, ⟨T15, L15, k15, n15⟩, -, X15, ⟨Lc15, hQ15, l15, y15, z15⟩, st15⟩ := Jvm.LawKit.callS X11 hx (y := (⟨"com/example/adept_layout/adeptlayout/geometry/BoxContainsPinLaw", "u", "(J)D"⟩ : MethodName)) hown (mvT hZ (hw _ ow11)) (mvT hZ (hw _ ow12)) (mvT hZ (hw _ ow13)) (mvT hZ (hw _ ow14)) (by decide) (backOf (W := 4) (own_u l Z a0 hw [] (i0.toInt64) h11 n0 Zs16 ) hZ (hw _ ow14) (hw _ ow13) (by decide) (by decide)) (g := (mkF m 112 #[.val (.int i0), .val (.int i1), .val (.int i2), .val (.int i3), .val (.int i4), .val (.int i5), .val (.long (i0.toInt64)), .second, .val (.long (i1.toInt64)), .second, .val (.long ((i2 &&& (2147483647 : Int32)).toInt64)), .second, .val (.long ((i3 &&& (2147483647 : Int32)).toInt64)), .second, .val (.long (((i4 <<< ((24 : Int32) &&& 31)) >>> ((24 : Int32) &&& 31)).toInt64)), .second, .val (.long (((i4 <<< ((16 : Int32) &&& 31)) >>> ((24 : Int32) &&& 31)).toInt64)), .second, .val (.long (((i5 <<< ((24 : Int32) &&& 31)) >>> ((24 : Int32) &&& 31)).toInt64)), .second, .val (.long (((i5 <<< ((16 : Int32) &&& 31)) >>> ((24 : Int32) &&& 31)).toInt64)), .second, .val (.long ((i0.toInt64) + (((i4 <<< ((24 : Int32) &&& 31)) >>> ((24 : Int32) &&& 31)).toInt64))), .second, .val (.long ((i1.toInt64) + (((i5 <<< ((24 : Int32) &&& 31)) >>> ((24 : Int32) &&& 31)).toInt64))), .second, .val (.long (own_max (0 : Int64) (((i2 &&& (2147483647 : Int32)).toInt64) + (((i4 <<< ((16 : Int32) &&& 31)) >>> ((24 : Int32) &&& 31)).toInt64)))), .second, .val (.long (own_max (0 : Int64) (((i3 &&& (2147483647 : Int32)).toInt64) + (((i5 <<< ((16 : Int32) &&& 31)) >>> ((24 : Int32) &&& 31)).toInt64)))), .second, .unset, .unset, .unset] [(.long (i0.toInt64)), (.ref b11), (.ref b11), (.ref b5), (.ref b5)])) rfl (by rw [hml]; rfl) (argsL := [(.long (i0.toInt64))]) (rest := [(.ref b11), (.ref b11), (.ref b5), (.ref b5)]) (lenOf own_law_pd1 rfl) rfl (by show 2 * 0 + _ ≤ _; exact Nat.le_of_eq rfl) (hb hby at_112) (fun _ _ => ⟨rfl, e11, (by decide : 2 + 0 ≤ _), (by decide : 6 + 0 ≤ _)⟩)
  dsimp only [Pt.U, Pt.locs, Pt.cells, Pt.slots] at X15 l15 y15 z15 st15 hQ15
  obtain rfl : k15 = 2 := y15
  obtain rfl : n15 = 6 := z15
  obtain ⟨rfl, N15q, R15⟩ := hQ15
  have N15 : Fr n0 L15 := l15 ▸ Fr.app N3 N15q
  refine ownStep (fun _ k => st15 _ k) ?_
  refine ownStep (fun _ k => XS.lload X15.here hx rfl (hb hby at_115) rfl  k) ?_
  show ownGo p.tables e below (T15.setTop (mkF m 117 #[.val (.int i0), .val (.int i1), .val (.int i2), .val (.int i3), .val (.int i4), .val (.int i5), .val (.long (i0.toInt64)), .second, .val (.long (i1.toInt64)), .second, .val (.long ((i2 &&& (2147483647 : Int32)).toInt64)), .second, .val (.long ((i3 &&& (2147483647 : Int32)).toInt64)), .second, .val (.long (((i4 <<< ((24 : Int32) &&& 31)) >>> ((24 : Int32) &&& 31)).toInt64)), .second, .val (.long (((i4 <<< ((16 : Int32) &&& 31)) >>> ((24 : Int32) &&& 31)).toInt64)), .second, .val (.long (((i5 <<< ((24 : Int32) &&& 31)) >>> ((24 : Int32) &&& 31)).toInt64)), .second, .val (.long (((i5 <<< ((16 : Int32) &&& 31)) >>> ((24 : Int32) &&& 31)).toInt64)), .second, .val (.long ((i0.toInt64) + (((i4 <<< ((24 : Int32) &&& 31)) >>> ((24 : Int32) &&& 31)).toInt64))), .second, .val (.long ((i1.toInt64) + (((i5 <<< ((24 : Int32) &&& 31)) >>> ((24 : Int32) &&& 31)).toInt64))), .second, .val (.long (own_max (0 : Int64) (((i2 &&& (2147483647 : Int32)).toInt64) + (((i4 <<< ((16 : Int32) &&& 31)) >>> ((24 : Int32) &&& 31)).toInt64)))), .second, .val (.long (own_max (0 : Int64) (((i3 &&& (2147483647 : Int32)).toInt64) + (((i5 <<< ((16 : Int32) &&& 31)) >>> ((24 : Int32) &&& 31)).toInt64)))), .second, .unset, .unset, .unset] [(.long (i1.toInt64)), (.double (own_uu (i0.toInt64))), (.ref b11), (.ref b11), (.ref b5), (.ref b5)])) _
  have Zs18 : n0 ≤ h11.size := Nat.le_trans Z0 KP12.1
  obtain ⟨_, _, ⟨T17, L17, k17, n17⟩, -, X17, ⟨Lc17, hQ17, l17, y17, z17⟩, st17⟩ := Jvm.LawKit.callS X15 hx (y := (⟨"com/example/adept_layout/adeptlayout/geometry/BoxContainsPinLaw", "u", "(J)D"⟩ : MethodName)) hown (mvT hZ (hw _ ow11)) (mvT hZ (hw _ ow12)) (mvT hZ (hw _ ow13)) (mvT hZ (hw _ ow14)) (by decide) (backOf (W := 6) (own_u l Z a0 hw [] (i1.toInt64) h11 n0 Zs18 ) hZ (hw _ ow14) (hw _ ow13) (by decide) (by decide)) (g := (mkF m 117 #[.val (.int i0), .val (.int i1), .val (.int i2), .val (.int i3), .val (.int i4), .val (.int i5), .val (.long (i0.toInt64)), .second, .val (.long (i1.toInt64)), .second, .val (.long ((i2 &&& (2147483647 : Int32)).toInt64)), .second, .val (.long ((i3 &&& (2147483647 : Int32)).toInt64)), .second, .val (.long (((i4 <<< ((24 : Int32) &&& 31)) >>> ((24 : Int32) &&& 31)).toInt64)), .second, .val (.long (((i4 <<< ((16 : Int32) &&& 31)) >>> ((24 : Int32) &&& 31)).toInt64)), .second, .val (.long (((i5 <<< ((24 : Int32) &&& 31)) >>> ((24 : Int32) &&& 31)).toInt64)), .second, .val (.long (((i5 <<< ((16 : Int32) &&& 31)) >>> ((24 : Int32) &&& 31)).toInt64)), .second, .val (.long ((i0.toInt64) + (((i4 <<< ((24 : Int32) &&& 31)) >>> ((24 : Int32) &&& 31)).toInt64))), .second, .val (.long ((i1.toInt64) + (((i5 <<< ((24 : Int32) &&& 31)) >>> ((24 : Int32) &&& 31)).toInt64))), .second, .val (.long (own_max (0 : Int64) (((i2 &&& (2147483647 : Int32)).toInt64) + (((i4 <<< ((16 : Int32) &&& 31)) >>> ((24 : Int32) &&& 31)).toInt64)))), .second, .val (.long (own_max (0 : Int64) (((i3 &&& (2147483647 : Int32)).toInt64) + (((i5 <<< ((16 : Int32) &&& 31)) >>> ((24 : Int32) &&& 31)).toInt64)))), .second, .unset, .unset, .unset] [(.long (i1.toInt64)), (.double (own_uu (i0.toInt64))), (.ref b11), (.ref b11), (.ref b5), (.ref b5)])) rfl (by rw [hml]; rfl) (argsL := [(.long (i1.toInt64))]) (rest := [(.double (own_uu (i0.toInt64))), (.ref b11), (.ref b11), (.ref b5), (.ref b5)]) (lenOf own_law_pd1 rfl) rfl (by show 2 * 0 + _ ≤ _; exact Nat.le_of_eq rfl) (hb hby at_117) (fun _ _ => ⟨rfl, R15, (by decide : 2 + 0 ≤ _), (by decide : 6 + 0 ≤ _)⟩)
  dsimp only [Pt.U, Pt.locs, Pt.cells, Pt.slots] at X17 l17 y17 z17 st17 hQ17
  obtain rfl : k17 = 2 := y17
  obtain rfl : n17 = 6 := z17
  obtain ⟨rfl, N17q, R17⟩ := hQ17
  have N17 : Fr n0 L17 := l17 ▸ Fr.app N15 N17q
  refine ownStep (fun _ k => st17 _ k) ?_
  show ownGo p.tables e below (T17.setTop (mkF m 120 #[.val (.int i0), .val (.int i1), .val (.int i2), .val (.int i3), .val (.int i4), .val (.int i5), .val (.long (i0.toInt64)), .second, .val (.long (i1.toInt64)), .second, .val (.long ((i2 &&& (2147483647 : Int32)).toInt64)), .second, .val (.long ((i3 &&& (2147483647 : Int32)).toInt64)), .second, .val (.long (((i4 <<< ((24 : Int32) &&& 31)) >>> ((24 : Int32) &&& 31)).toInt64)), .second, .val (.long (((i4 <<< ((16 : Int32) &&& 31)) >>> ((24 : Int32) &&& 31)).toInt64)), .second, .val (.long (((i5 <<< ((24 : Int32) &&& 31)) >>> ((24 : Int32) &&& 31)).toInt64)), .second, .val (.long (((i5 <<< ((16 : Int32) &&& 31)) >>> ((24 : Int32) &&& 31)).toInt64)), .second, .val (.long ((i0.toInt64) + (((i4 <<< ((24 : Int32) &&& 31)) >>> ((24 : Int32) &&& 31)).toInt64))), .second, .val (.long ((i1.toInt64) + (((i5 <<< ((24 : Int32) &&& 31)) >>> ((24 : Int32) &&& 31)).toInt64))), .second, .val (.long (own_max (0 : Int64) (((i2 &&& (2147483647 : Int32)).toInt64) + (((i4 <<< ((16 : Int32) &&& 31)) >>> ((24 : Int32) &&& 31)).toInt64)))), .second, .val (.long (own_max (0 : Int64) (((i3 &&& (2147483647 : Int32)).toInt64) + (((i5 <<< ((16 : Int32) &&& 31)) >>> ((24 : Int32) &&& 31)).toInt64)))), .second, .unset, .unset, .unset] [(.double (own_uu (i1.toInt64))), (.double (own_uu (i0.toInt64))), (.ref b11), (.ref b11), (.ref b5), (.ref b5)])) _
  have Zs20 : n0 ≤ h11.size := Nat.le_trans Z0 KP12.1
  obtain ⟨_, _, ⟨T19, L19, k19, n19⟩, -, X19, ⟨Lc19, hQ19, l19, y19, z19⟩, st19⟩ := X17.specialBack hx (y := (⟨"com/example/adept_layout/adeptlayout/geometry/Point", "<init>", "(DD)V"⟩ : MethodName)) rfl hown (mvT hZ (hw _ ow16)) (mvT hZ (hw _ ow17)) (mvT hZ (hw _ ow18)) (by decide) (backOf (W := 3) (own_pt l Z a0 hw [] b11 (own_uu (i0.toInt64)) (own_uu (i1.toInt64)) h11 n0 Zs20 A11 gn_b11 F13 F14) hZ (hw _ ow18) (hw _ ow10) (by decide) (by decide)) (g := (mkF m 120 #[.val (.int i0), .val (.int i1), .val (.int i2), .val (.int i3), .val (.int i4), .val (.int i5), .val (.long (i0.toInt64)), .second, .val (.long (i1.toInt64)), .second, .val (.long ((i2 &&& (2147483647 : Int32)).toInt64)), .second, .val (.long ((i3 &&& (2147483647 : Int32)).toInt64)), .second, .val (.long (((i4 <<< ((24 : Int32) &&& 31)) >>> ((24 : Int32) &&& 31)).toInt64)), .second, .val (.long (((i4 <<< ((16 : Int32) &&& 31)) >>> ((24 : Int32) &&& 31)).toInt64)), .second, .val (.long (((i5 <<< ((24 : Int32) &&& 31)) >>> ((24 : Int32) &&& 31)).toInt64)), .second, .val (.long (((i5 <<< ((16 : Int32) &&& 31)) >>> ((24 : Int32) &&& 31)).toInt64)), .second, .val (.long ((i0.toInt64) + (((i4 <<< ((24 : Int32) &&& 31)) >>> ((24 : Int32) &&& 31)).toInt64))), .second, .val (.long ((i1.toInt64) + (((i5 <<< ((24 : Int32) &&& 31)) >>> ((24 : Int32) &&& 31)).toInt64))), .second, .val (.long (own_max (0 : Int64) (((i2 &&& (2147483647 : Int32)).toInt64) + (((i4 <<< ((16 : Int32) &&& 31)) >>> ((24 : Int32) &&& 31)).toInt64)))), .second, .val (.long (own_max (0 : Int64) (((i3 &&& (2147483647 : Int32)).toInt64) + (((i5 <<< ((16 : Int32) &&& 31)) >>> ((24 : Int32) &&& 31)).toInt64)))), .second, .unset, .unset, .unset] [(.double (own_uu (i1.toInt64))), (.double (own_uu (i0.toInt64))), (.ref b11), (.ref b11), (.ref b5), (.ref b5)])) rfl (by rw [hml]; rfl) (Steps.refl _) (a := b11) (argsL := [(.double (own_uu (i0.toInt64))), (.double (own_uu (i1.toInt64)))]) (rest := [(.ref b11), (.ref b5), (.ref b5)]) (lenOf own_law_pd2 rfl) rfl (by show 2 * 0 + _ ≤ _; exact Nat.le_of_eq rfl) (hb hby at_120) (fun _ _ => ⟨rfl, R17, (by decide : 2 + 0 ≤ _), (by decide : 6 + 0 ≤ _)⟩)
  dsimp only [Pt.U, Pt.locs, Pt.cells, Pt.slots] at X19 l19 y19 z19 st19 hQ19
  obtain rfl : k19 = 2 := y19
  obtain rfl : n19 = 6 := z19
  obtain ⟨rfl, N19q, R19, P21, P22⟩ := hQ19
  have N19 : Fr n0 L19 := l19 ▸ Fr.app N17 N19q
  refine ownStep (fun _ k => st19.trans k) ?_
  have KP23 : Keep h0 T19.heap [] := KP12.trans R19 (allS (Or.inr gh_b11) all0)
  refine ownStep (fun _ k => XS.lload X19.here hx rfl (hb hby at_123) rfl  k) ?_
  show ownGo p.tables e below (T19.setTop (mkF m 125 #[.val (.int i0), .val (.int i1), .val (.int i2), .val (.int i3), .val (.int i4), .val (.int i5), .val (.long (i0.toInt64)), .second, .val (.long (i1.toInt64)), .second, .val (.long ((i2 &&& (2147483647 : Int32)).toInt64)), .second, .val (.long ((i3 &&& (2147483647 : Int32)).toInt64)), .second, .val (.long (((i4 <<< ((24 : Int32) &&& 31)) >>> ((24 : Int32) &&& 31)).toInt64)), .second, .val (.long (((i4 <<< ((16 : Int32) &&& 31)) >>> ((24 : Int32) &&& 31)).toInt64)), .second, .val (.long (((i5 <<< ((24 : Int32) &&& 31)) >>> ((24 : Int32) &&& 31)).toInt64)), .second, .val (.long (((i5 <<< ((16 : Int32) &&& 31)) >>> ((24 : Int32) &&& 31)).toInt64)), .second, .val (.long ((i0.toInt64) + (((i4 <<< ((24 : Int32) &&& 31)) >>> ((24 : Int32) &&& 31)).toInt64))), .second, .val (.long ((i1.toInt64) + (((i5 <<< ((24 : Int32) &&& 31)) >>> ((24 : Int32) &&& 31)).toInt64))), .second, .val (.long (own_max (0 : Int64) (((i2 &&& (2147483647 : Int32)).toInt64) + (((i4 <<< ((16 : Int32) &&& 31)) >>> ((24 : Int32) &&& 31)).toInt64)))), .second, .val (.long (own_max (0 : Int64) (((i3 &&& (2147483647 : Int32)).toInt64) + (((i5 <<< ((16 : Int32) &&& 31)) >>> ((24 : Int32) &&& 31)).toInt64)))), .second, .unset, .unset, .unset] [(.long ((i2 &&& (2147483647 : Int32)).toInt64)), (.ref b11), (.ref b5), (.ref b5)])) _
  have Zs25 : n0 ≤ T19.heap.size := Nat.le_trans Z0 KP23.1
  obtain ⟨_, _, ⟨T24, L24, k24, n24⟩, -, X24, ⟨Lc24, hQ24, l24, y24, z24⟩, st24⟩ := Jvm.LawKit.callS X19 hx (y := (⟨"com/example/adept_layout/adeptlayout/geometry/BoxContainsPinLaw", "u", "(J)D"⟩ : MethodName)) hown (mvT hZ (hw _ ow11)) (mvT hZ (hw _ ow12)) (mvT hZ (hw _ ow13)) (mvT hZ (hw _ ow14)) (by decide) (backOf (W := 3) (own_u l Z a0 hw [] ((i2 &&& (2147483647 : Int32)).toInt64) T19.heap n0 Zs25 ) hZ (hw _ ow14) (hw _ ow13) (by decide) (by decide)) (g := (mkF m 125 #[.val (.int i0), .val (.int i1), .val (.int i2), .val (.int i3), .val (.int i4), .val (.int i5), .val (.long (i0.toInt64)), .second, .val (.long (i1.toInt64)), .second, .val (.long ((i2 &&& (2147483647 : Int32)).toInt64)), .second, .val (.long ((i3 &&& (2147483647 : Int32)).toInt64)), .second, .val (.long (((i4 <<< ((24 : Int32) &&& 31)) >>> ((24 : Int32) &&& 31)).toInt64)), .second, .val (.long (((i4 <<< ((16 : Int32) &&& 31)) >>> ((24 : Int32) &&& 31)).toInt64)), .second, .val (.long (((i5 <<< ((24 : Int32) &&& 31)) >>> ((24 : Int32) &&& 31)).toInt64)), .second, .val (.long (((i5 <<< ((16 : Int32) &&& 31)) >>> ((24 : Int32) &&& 31)).toInt64)), .second, .val (.long ((i0.toInt64) + (((i4 <<< ((24 : Int32) &&& 31)) >>> ((24 : Int32) &&& 31)).toInt64))), .second, .val (.long ((i1.toInt64) + (((i5 <<< ((24 : Int32) &&& 31)) >>> ((24 : Int32) &&& 31)).toInt64))), .second, .val (.long (own_max (0 : Int64) (((i2 &&& (2147483647 : Int32)).toInt64) + (((i4 <<< ((16 : Int32) &&& 31)) >>> ((24 : Int32) &&& 31)).toInt64)))), .second, .val (.long (own_max (0 : Int64) (((i3 &&& (2147483647 : Int32)).toInt64) + (((i5 <<< ((16 : Int32) &&& 31)) >>> ((24 : Int32) &&& 31)).toInt64)))), .second, .unset, .unset, .unset] [(.long ((i2 &&& (2147483647 : Int32)).toInt64)), (.ref b11), (.ref b5), (.ref b5)])) rfl (by rw [hml]; rfl) (argsL := [(.long ((i2 &&& (2147483647 : Int32)).toInt64))]) (rest := [(.ref b11), (.ref b5), (.ref b5)]) (lenOf own_law_pd1 rfl) rfl (by show 2 * 0 + _ ≤ _; exact Nat.le_of_eq rfl) (hb hby at_125) (fun _ _ => ⟨rfl, rfl, (by decide : 2 + 0 ≤ _), (by decide : 6 + 0 ≤ _)⟩)
  dsimp only [Pt.U, Pt.locs, Pt.cells, Pt.slots] at X24 l24 y24 z24 st24 hQ24
  obtain rfl : k24 = 2 := y24
  obtain rfl : n24 = 6 := z24
  obtain ⟨rfl, N24q, R24⟩ := hQ24
  have N24 : Fr n0 L24 := l24 ▸ Fr.app N19 N24q
  refine ownStep (fun _ k => st24 _ k) ?_
  refine ownStep (fun _ k => XS.lload X24.here hx rfl (hb hby at_128) rfl  k) ?_
  show ownGo p.tables e below (T24.setTop (mkF m 130 #[.val (.int i0), .val (.int i1), .val (.int i2), .val (.int i3), .val (.int i4), .val (.int i5), .val (.long (i0.toInt64)), .second, .val (.long (i1.toInt64)), .second, .val (.long ((i2 &&& (2147483647 : Int32)).toInt64)), .second, .val (.long ((i3 &&& (2147483647 : Int32)).toInt64)), .second, .val (.long (((i4 <<< ((24 : Int32) &&& 31)) >>> ((24 : Int32) &&& 31)).toInt64)), .second, .val (.long (((i4 <<< ((16 : Int32) &&& 31)) >>> ((24 : Int32) &&& 31)).toInt64)), .second, .val (.long (((i5 <<< ((24 : Int32) &&& 31)) >>> ((24 : Int32) &&& 31)).toInt64)), .second, .val (.long (((i5 <<< ((16 : Int32) &&& 31)) >>> ((24 : Int32) &&& 31)).toInt64)), .second, .val (.long ((i0.toInt64) + (((i4 <<< ((24 : Int32) &&& 31)) >>> ((24 : Int32) &&& 31)).toInt64))), .second, .val (.long ((i1.toInt64) + (((i5 <<< ((24 : Int32) &&& 31)) >>> ((24 : Int32) &&& 31)).toInt64))), .second, .val (.long (own_max (0 : Int64) (((i2 &&& (2147483647 : Int32)).toInt64) + (((i4 <<< ((16 : Int32) &&& 31)) >>> ((24 : Int32) &&& 31)).toInt64)))), .second, .val (.long (own_max (0 : Int64) (((i3 &&& (2147483647 : Int32)).toInt64) + (((i5 <<< ((16 : Int32) &&& 31)) >>> ((24 : Int32) &&& 31)).toInt64)))), .second, .unset, .unset, .unset] [(.long ((i3 &&& (2147483647 : Int32)).toInt64)), (.double (own_uu ((i2 &&& (2147483647 : Int32)).toInt64))), (.ref b11), (.ref b5), (.ref b5)])) _
  have Zs27 : n0 ≤ T19.heap.size := Nat.le_trans Z0 KP23.1
  obtain ⟨_, _, ⟨T26, L26, k26, n26⟩, -, X26, ⟨Lc26, hQ26, l26, y26, z26⟩, st26⟩ := Jvm.LawKit.callS X24 hx (y := (⟨"com/example/adept_layout/adeptlayout/geometry/BoxContainsPinLaw", "u", "(J)D"⟩ : MethodName)) hown (mvT hZ (hw _ ow11)) (mvT hZ (hw _ ow12)) (mvT hZ (hw _ ow13)) (mvT hZ (hw _ ow14)) (by decide) (backOf (W := 5) (own_u l Z a0 hw [] ((i3 &&& (2147483647 : Int32)).toInt64) T19.heap n0 Zs27 ) hZ (hw _ ow14) (hw _ ow13) (by decide) (by decide)) (g := (mkF m 130 #[.val (.int i0), .val (.int i1), .val (.int i2), .val (.int i3), .val (.int i4), .val (.int i5), .val (.long (i0.toInt64)), .second, .val (.long (i1.toInt64)), .second, .val (.long ((i2 &&& (2147483647 : Int32)).toInt64)), .second, .val (.long ((i3 &&& (2147483647 : Int32)).toInt64)), .second, .val (.long (((i4 <<< ((24 : Int32) &&& 31)) >>> ((24 : Int32) &&& 31)).toInt64)), .second, .val (.long (((i4 <<< ((16 : Int32) &&& 31)) >>> ((24 : Int32) &&& 31)).toInt64)), .second, .val (.long (((i5 <<< ((24 : Int32) &&& 31)) >>> ((24 : Int32) &&& 31)).toInt64)), .second, .val (.long (((i5 <<< ((16 : Int32) &&& 31)) >>> ((24 : Int32) &&& 31)).toInt64)), .second, .val (.long ((i0.toInt64) + (((i4 <<< ((24 : Int32) &&& 31)) >>> ((24 : Int32) &&& 31)).toInt64))), .second, .val (.long ((i1.toInt64) + (((i5 <<< ((24 : Int32) &&& 31)) >>> ((24 : Int32) &&& 31)).toInt64))), .second, .val (.long (own_max (0 : Int64) (((i2 &&& (2147483647 : Int32)).toInt64) + (((i4 <<< ((16 : Int32) &&& 31)) >>> ((24 : Int32) &&& 31)).toInt64)))), .second, .val (.long (own_max (0 : Int64) (((i3 &&& (2147483647 : Int32)).toInt64) + (((i5 <<< ((16 : Int32) &&& 31)) >>> ((24 : Int32) &&& 31)).toInt64)))), .second, .unset, .unset, .unset] [(.long ((i3 &&& (2147483647 : Int32)).toInt64)), (.double (own_uu ((i2 &&& (2147483647 : Int32)).toInt64))), (.ref b11), (.ref b5), (.ref b5)])) rfl (by rw [hml]; rfl) (argsL := [(.long ((i3 &&& (2147483647 : Int32)).toInt64))]) (rest := [(.double (own_uu ((i2 &&& (2147483647 : Int32)).toInt64))), (.ref b11), (.ref b5), (.ref b5)]) (lenOf own_law_pd1 rfl) rfl (by show 2 * 0 + _ ≤ _; exact Nat.le_of_eq rfl) (hb hby at_130) (fun _ _ => ⟨rfl, R24, (by decide : 2 + 0 ≤ _), (by decide : 6 + 0 ≤ _)⟩)
  dsimp only [Pt.U, Pt.locs, Pt.cells, Pt.slots] at X26 l26 y26 z26 st26 hQ26
  obtain rfl : k26 = 2 := y26
  obtain rfl : n26 = 6 := z26
  obtain ⟨rfl, N26q, R26⟩ := hQ26
  have N26 : Fr n0 L26 := l26 ▸ Fr.app N24 N26q
  refine ownStep (fun _ k => st26 _ k) ?_
  show ownGo p.tables e below (T26.setTop (mkF m 133 #[.val (.int i0), .val (.int i1), .val (.int i2), .val (.int i3), .val (.int i4), .val (.int i5), .val (.long (i0.toInt64)), .second, .val (.long (i1.toInt64)), .second, .val (.long ((i2 &&& (2147483647 : Int32)).toInt64)), .second, .val (.long ((i3 &&& (2147483647 : Int32)).toInt64)), .second, .val (.long (((i4 <<< ((24 : Int32) &&& 31)) >>> ((24 : Int32) &&& 31)).toInt64)), .second, .val (.long (((i4 <<< ((16 : Int32) &&& 31)) >>> ((24 : Int32) &&& 31)).toInt64)), .second, .val (.long (((i5 <<< ((24 : Int32) &&& 31)) >>> ((24 : Int32) &&& 31)).toInt64)), .second, .val (.long (((i5 <<< ((16 : Int32) &&& 31)) >>> ((24 : Int32) &&& 31)).toInt64)), .second, .val (.long ((i0.toInt64) + (((i4 <<< ((24 : Int32) &&& 31)) >>> ((24 : Int32) &&& 31)).toInt64))), .second, .val (.long ((i1.toInt64) + (((i5 <<< ((24 : Int32) &&& 31)) >>> ((24 : Int32) &&& 31)).toInt64))), .second, .val (.long (own_max (0 : Int64) (((i2 &&& (2147483647 : Int32)).toInt64) + (((i4 <<< ((16 : Int32) &&& 31)) >>> ((24 : Int32) &&& 31)).toInt64)))), .second, .val (.long (own_max (0 : Int64) (((i3 &&& (2147483647 : Int32)).toInt64) + (((i5 <<< ((16 : Int32) &&& 31)) >>> ((24 : Int32) &&& 31)).toInt64)))), .second, .unset, .unset, .unset] [(.double (own_uu ((i3 &&& (2147483647 : Int32)).toInt64))), (.double (own_uu ((i2 &&& (2147483647 : Int32)).toInt64))), (.ref b11), (.ref b5), (.ref b5)])) _
  have ax := own_axis i0 (i2 &&& (2147483647 : Int32)) ((i4 <<< ((24 : Int32) &&& 31)) >>> ((24 : Int32) &&& 31)) ((i4 <<< ((16 : Int32) &&& 31)) >>> ((24 : Int32) &&& 31))
  have ay := own_axis i1 (i3 &&& (2147483647 : Int32)) ((i5 <<< ((24 : Int32) &&& 31)) >>> ((24 : Int32) &&& 31)) ((i5 <<< ((16 : Int32) &&& 31)) >>> ((24 : Int32) &&& 31))
  have ne28 : b5 ≠ b11 := Nat.ne_of_lt (Nat.lt_of_lt_of_le (Nat.lt_of_lt_of_le A5.lt (Nat.le_refl _)) (Nat.le_of_eq g11.symm))
  have Q29 : Exa Z T19.heap b5 "com/example/adept_layout/adeptlayout/geometry/Box" := ((A5.ext E11).keep R19)
  have Q30 : Exa Z T19.heap b11 "com/example/adept_layout/adeptlayout/geometry/Point" := (A11.keep R19)
  have Q31 : Fld Z T19.heap b5 "com/example/adept_layout/adeptlayout/geometry/Box" "left" "D" (.double 0) := ((F7.ext E11).keep R19 (ninS ne28 nin0))
  have Q32 : Fld Z T19.heap b5 "com/example/adept_layout/adeptlayout/geometry/Box" "top" "D" (.double 0) := ((F8.ext E11).keep R19 (ninS ne28 nin0))
  have Q33 : Fld Z T19.heap b5 "com/example/adept_layout/adeptlayout/geometry/Box" "right" "D" (.double 0) := ((F9.ext E11).keep R19 (ninS ne28 nin0))
  have Q34 : Fld Z T19.heap b5 "com/example/adept_layout/adeptlayout/geometry/Box" "bottom" "D" (.double 0) := ((F10.ext E11).keep R19 (ninS ne28 nin0))
  have Zs36 : n0 ≤ T19.heap.size := Nat.le_trans Z0 KP23.1
  obtain ⟨_, _, ⟨T35, L35, k35, n35⟩, -, X35, ⟨Lc35, hQ35, l35, y35, z35⟩, st35⟩ := X26.specialBack hx (y := (⟨"com/example/adept_layout/adeptlayout/geometry/Box", "<init>", "(Lcom/example/adept_layout/adeptlayout/geometry/Point;DD)V"⟩ : MethodName)) rfl hown (mvT hZ (hw _ ow26)) (mvT hZ (hw _ ow27)) (mvT hZ (hw _ ow28)) (by decide) (backOf (W := 1) (own_bx l Z a0 hw [] b5 b11 (own_uu (i0.toInt64)) (own_uu (i1.toInt64)) (own_uu ((i2 &&& (2147483647 : Int32)).toInt64)) (own_uu ((i3 &&& (2147483647 : Int32)).toInt64)) T19.heap n0 Zs36 Q29 gn_b5 Q30 (Ne.symm ne28) P21 P22 ax.1 ay.1 Q31 Q32 Q33 Q34) hZ (hw _ ow28) (hw _ ow7) (by decide) (by decide)) (g := (mkF m 133 #[.val (.int i0), .val (.int i1), .val (.int i2), .val (.int i3), .val (.int i4), .val (.int i5), .val (.long (i0.toInt64)), .second, .val (.long (i1.toInt64)), .second, .val (.long ((i2 &&& (2147483647 : Int32)).toInt64)), .second, .val (.long ((i3 &&& (2147483647 : Int32)).toInt64)), .second, .val (.long (((i4 <<< ((24 : Int32) &&& 31)) >>> ((24 : Int32) &&& 31)).toInt64)), .second, .val (.long (((i4 <<< ((16 : Int32) &&& 31)) >>> ((24 : Int32) &&& 31)).toInt64)), .second, .val (.long (((i5 <<< ((24 : Int32) &&& 31)) >>> ((24 : Int32) &&& 31)).toInt64)), .second, .val (.long (((i5 <<< ((16 : Int32) &&& 31)) >>> ((24 : Int32) &&& 31)).toInt64)), .second, .val (.long ((i0.toInt64) + (((i4 <<< ((24 : Int32) &&& 31)) >>> ((24 : Int32) &&& 31)).toInt64))), .second, .val (.long ((i1.toInt64) + (((i5 <<< ((24 : Int32) &&& 31)) >>> ((24 : Int32) &&& 31)).toInt64))), .second, .val (.long (own_max (0 : Int64) (((i2 &&& (2147483647 : Int32)).toInt64) + (((i4 <<< ((16 : Int32) &&& 31)) >>> ((24 : Int32) &&& 31)).toInt64)))), .second, .val (.long (own_max (0 : Int64) (((i3 &&& (2147483647 : Int32)).toInt64) + (((i5 <<< ((16 : Int32) &&& 31)) >>> ((24 : Int32) &&& 31)).toInt64)))), .second, .unset, .unset, .unset] [(.double (own_uu ((i3 &&& (2147483647 : Int32)).toInt64))), (.double (own_uu ((i2 &&& (2147483647 : Int32)).toInt64))), (.ref b11), (.ref b5), (.ref b5)])) rfl (by rw [hml]; rfl) (Steps.refl _) (a := b5) (argsL := [(.ref b11), (.double (own_uu ((i2 &&& (2147483647 : Int32)).toInt64))), (.double (own_uu ((i3 &&& (2147483647 : Int32)).toInt64)))]) (rest := [(.ref b5)]) (lenOf own_law_pd3 rfl) rfl (by show 2 * 0 + _ ≤ _; exact Nat.le_of_eq rfl) (hb hby at_133) (fun _ _ => ⟨rfl, R26, (by decide : 2 + 0 ≤ _), (by decide : 6 + 0 ≤ _)⟩)
  dsimp only [Pt.U, Pt.locs, Pt.cells, Pt.slots] at X35 l35 y35 z35 st35 hQ35
  obtain rfl : k35 = 2 := y35
  obtain rfl : n35 = 6 := z35
  obtain ⟨rfl, N35q, R35, P37, P38, P39, P40⟩ := hQ35
  have N35 : Fr n0 L35 := l35 ▸ Fr.app N26 N35q
  refine ownStep (fun _ k => st35.trans k) ?_
  have KP41 : Keep h0 T35.heap [] := KP23.trans R35 (allS (Or.inr gh_b5) all0)
  refine ownStep (fun _ k => XS.astore X35.here hx rfl (hb hby at_136) rfl rfl (l' := #[.val (.int i0), .val (.int i1), .val (.int i2), .val (.int i3), .val (.int i4), .val (.int i5), .val (.long (i0.toInt64)), .second, .val (.long (i1.toInt64)), .second, .val (.long ((i2 &&& (2147483647 : Int32)).toInt64)), .second, .val (.long ((i3 &&& (2147483647 : Int32)).toInt64)), .second, .val (.long (((i4 <<< ((24 : Int32) &&& 31)) >>> ((24 : Int32) &&& 31)).toInt64)), .second, .val (.long (((i4 <<< ((16 : Int32) &&& 31)) >>> ((24 : Int32) &&& 31)).toInt64)), .second, .val (.long (((i5 <<< ((24 : Int32) &&& 31)) >>> ((24 : Int32) &&& 31)).toInt64)), .second, .val (.long (((i5 <<< ((16 : Int32) &&& 31)) >>> ((24 : Int32) &&& 31)).toInt64)), .second, .val (.long ((i0.toInt64) + (((i4 <<< ((24 : Int32) &&& 31)) >>> ((24 : Int32) &&& 31)).toInt64))), .second, .val (.long ((i1.toInt64) + (((i5 <<< ((24 : Int32) &&& 31)) >>> ((24 : Int32) &&& 31)).toInt64))), .second, .val (.long (own_max (0 : Int64) (((i2 &&& (2147483647 : Int32)).toInt64) + (((i4 <<< ((16 : Int32) &&& 31)) >>> ((24 : Int32) &&& 31)).toInt64)))), .second, .val (.long (own_max (0 : Int64) (((i3 &&& (2147483647 : Int32)).toInt64) + (((i5 <<< ((16 : Int32) &&& 31)) >>> ((24 : Int32) &&& 31)).toInt64)))), .second, .val (.ref b5), .unset, .unset]) rfl k) ?_
  show ownGo p.tables e below (T35.setTop (mkF m 138 #[.val (.int i0), .val (.int i1), .val (.int i2), .val (.int i3), .val (.int i4), .val (.int i5), .val (.long (i0.toInt64)), .second, .val (.long (i1.toInt64)), .second, .val (.long ((i2 &&& (2147483647 : Int32)).toInt64)), .second, .val (.long ((i3 &&& (2147483647 : Int32)).toInt64)), .second, .val (.long (((i4 <<< ((24 : Int32) &&& 31)) >>> ((24 : Int32) &&& 31)).toInt64)), .second, .val (.long (((i4 <<< ((16 : Int32) &&& 31)) >>> ((24 : Int32) &&& 31)).toInt64)), .second, .val (.long (((i5 <<< ((24 : Int32) &&& 31)) >>> ((24 : Int32) &&& 31)).toInt64)), .second, .val (.long (((i5 <<< ((16 : Int32) &&& 31)) >>> ((24 : Int32) &&& 31)).toInt64)), .second, .val (.long ((i0.toInt64) + (((i4 <<< ((24 : Int32) &&& 31)) >>> ((24 : Int32) &&& 31)).toInt64))), .second, .val (.long ((i1.toInt64) + (((i5 <<< ((24 : Int32) &&& 31)) >>> ((24 : Int32) &&& 31)).toInt64))), .second, .val (.long (own_max (0 : Int64) (((i2 &&& (2147483647 : Int32)).toInt64) + (((i4 <<< ((16 : Int32) &&& 31)) >>> ((24 : Int32) &&& 31)).toInt64)))), .second, .val (.long (own_max (0 : Int64) (((i3 &&& (2147483647 : Int32)).toInt64) + (((i5 <<< ((16 : Int32) &&& 31)) >>> ((24 : Int32) &&& 31)).toInt64)))), .second, .val (.ref b5), .unset, .unset] [])) _
  obtain ⟨T42, h42, X42, e42, E42, A42, D42, U42, st42⟩ := newO X35 hx hZ hown (hw _ ow5) (hw _ ow6) (hw _ ow7) rfl (g := (mkF m 138 #[.val (.int i0), .val (.int i1), .val (.int i2), .val (.int i3), .val (.int i4), .val (.int i5), .val (.long (i0.toInt64)), .second, .val (.long (i1.toInt64)), .second, .val (.long ((i2 &&& (2147483647 : Int32)).toInt64)), .second, .val (.long ((i3 &&& (2147483647 : Int32)).toInt64)), .second, .val (.long (((i4 <<< ((24 : Int32) &&& 31)) >>> ((24 : Int32) &&& 31)).toInt64)), .second, .val (.long (((i4 <<< ((16 : Int32) &&& 31)) >>> ((24 : Int32) &&& 31)).toInt64)), .second, .val (.long (((i5 <<< ((24 : Int32) &&& 31)) >>> ((24 : Int32) &&& 31)).toInt64)), .second, .val (.long (((i5 <<< ((16 : Int32) &&& 31)) >>> ((24 : Int32) &&& 31)).toInt64)), .second, .val (.long ((i0.toInt64) + (((i4 <<< ((24 : Int32) &&& 31)) >>> ((24 : Int32) &&& 31)).toInt64))), .second, .val (.long ((i1.toInt64) + (((i5 <<< ((24 : Int32) &&& 31)) >>> ((24 : Int32) &&& 31)).toInt64))), .second, .val (.long (own_max (0 : Int64) (((i2 &&& (2147483647 : Int32)).toInt64) + (((i4 <<< ((16 : Int32) &&& 31)) >>> ((24 : Int32) &&& 31)).toInt64)))), .second, .val (.long (own_max (0 : Int64) (((i3 &&& (2147483647 : Int32)).toInt64) + (((i5 <<< ((16 : Int32) &&& 31)) >>> ((24 : Int32) &&& 31)).toInt64)))), .second, .val (.ref b5), .unset, .unset] [])) rfl (hb hby at_138) (by decide) (by decide)
  obtain ⟨b42, g42⟩ : ∃ z, z = T35.heap.size := ⟨_, rfl⟩
  rw [← g42] at A42 D42 U42 st42
  have gh_b42 : h0.size ≤ b42 := Nat.le_trans KP41.1 (Nat.le_of_eq g42.symm)
  have gn_b42 : n0 ≤ b42 := Nat.le_trans Z0 gh_b42
  have KP43 : Keep h0 h42 [] := KP41.ext E42
  have F44 : Fld Z h42 b42 "com/example/adept_layout/adeptlayout/geometry/Box" "left" "D" (.double 0) := D42 (Or.inr (hw _ ow36)) (ty := .double) (by decide)
  have F45 : Fld Z h42 b42 "com/example/adept_layout/adeptlayout/geometry/Box" "top" "D" (.double 0) := D42 (Or.inr (hw _ ow43)) (ty := .double) (by decide)
  have F46 : Fld Z h42 b42 "com/example/adept_layout/adeptlayout/geometry/Box" "right" "D" (.double 0) := D42 (Or.inr (hw _ ow45)) (ty := .double) (by decide)
  have F47 : Fld Z h42 b42 "com/example/adept_layout/adeptlayout/geometry/Box" "bottom" "D" (.double 0) := D42 (Or.inr (hw _ ow47)) (ty := .double) (by decide)
  refine ownStep st42 ?_
  refine ownStep (fun _ k => XS.dup X42.here hx rfl (hb hby at_141) rfl rfl k) ?_
  show ownGo p.tables e below (T42.setTop (mkF m 142 #[.val (.int i0), .val (.int i1), .val (.int i2), .val (.int i3), .val (.int i4), .val (.int i5), .val (.long (i0.toInt64)), .second, .val (.long (i1.toInt64)), .second, .val (.long ((i2 &&& (2147483647 : Int32)).toInt64)), .second, .val (.long ((i3 &&& (2147483647 : Int32)).toInt64)), .second, .val (.long (((i4 <<< ((24 : Int32) &&& 31)) >>> ((24 : Int32) &&& 31)).toInt64)), .second, .val (.long (((i4 <<< ((16 : Int32) &&& 31)) >>> ((24 : Int32) &&& 31)).toInt64)), .second, .val (.long (((i5 <<< ((24 : Int32) &&& 31)) >>> ((24 : Int32) &&& 31)).toInt64)), .second, .val (.long (((i5 <<< ((16 : Int32) &&& 31)) >>> ((24 : Int32) &&& 31)).toInt64)), .second, .val (.long ((i0.toInt64) + (((i4 <<< ((24 : Int32) &&& 31)) >>> ((24 : Int32) &&& 31)).toInt64))), .second, .val (.long ((i1.toInt64) + (((i5 <<< ((24 : Int32) &&& 31)) >>> ((24 : Int32) &&& 31)).toInt64))), .second, .val (.long (own_max (0 : Int64) (((i2 &&& (2147483647 : Int32)).toInt64) + (((i4 <<< ((16 : Int32) &&& 31)) >>> ((24 : Int32) &&& 31)).toInt64)))), .second, .val (.long (own_max (0 : Int64) (((i3 &&& (2147483647 : Int32)).toInt64) + (((i5 <<< ((16 : Int32) &&& 31)) >>> ((24 : Int32) &&& 31)).toInt64)))), .second, .val (.ref b5), .unset, .unset] [(.ref b42), (.ref b42)])) _
  obtain ⟨T48, h48, X48, e48, E48, A48, D48, U48, st48⟩ := newO X42 hx hZ hown (hw _ ow8) (hw _ ow9) (hw _ ow10) e42 (g := (mkF m 142 #[.val (.int i0), .val (.int i1), .val (.int i2), .val (.int i3), .val (.int i4), .val (.int i5), .val (.long (i0.toInt64)), .second, .val (.long (i1.toInt64)), .second, .val (.long ((i2 &&& (2147483647 : Int32)).toInt64)), .second, .val (.long ((i3 &&& (2147483647 : Int32)).toInt64)), .second, .val (.long (((i4 <<< ((24 : Int32) &&& 31)) >>> ((24 : Int32) &&& 31)).toInt64)), .second, .val (.long (((i4 <<< ((16 : Int32) &&& 31)) >>> ((24 : Int32) &&& 31)).toInt64)), .second, .val (.long (((i5 <<< ((24 : Int32) &&& 31)) >>> ((24 : Int32) &&& 31)).toInt64)), .second, .val (.long (((i5 <<< ((16 : Int32) &&& 31)) >>> ((24 : Int32) &&& 31)).toInt64)), .second, .val (.long ((i0.toInt64) + (((i4 <<< ((24 : Int32) &&& 31)) >>> ((24 : Int32) &&& 31)).toInt64))), .second, .val (.long ((i1.toInt64) + (((i5 <<< ((24 : Int32) &&& 31)) >>> ((24 : Int32) &&& 31)).toInt64))), .second, .val (.long (own_max (0 : Int64) (((i2 &&& (2147483647 : Int32)).toInt64) + (((i4 <<< ((16 : Int32) &&& 31)) >>> ((24 : Int32) &&& 31)).toInt64)))), .second, .val (.long (own_max (0 : Int64) (((i3 &&& (2147483647 : Int32)).toInt64) + (((i5 <<< ((16 : Int32) &&& 31)) >>> ((24 : Int32) &&& 31)).toInt64)))), .second, .val (.ref b5), .unset, .unset] [(.ref b42), (.ref b42)])) rfl (hb hby at_142) (by decide) (by decide)
  obtain ⟨b48, g48⟩ : ∃ z, z = h42.size := ⟨_, rfl⟩
  rw [← g48] at A48 D48 U48 st48
  have gh_b48 : h0.size ≤ b48 := Nat.le_trans KP43.1 (Nat.le_of_eq g48.symm)
  have gn_b48 : n0 ≤ b48 := Nat.le_trans Z0 gh_b48
  have KP49 : Keep h0 h48 [] := KP43.ext E48
  have F50 : Fld Z h48 b48 "com/example/adept_layout/adeptlayout/geometry/Point" "x" "D" (.double 0) := D48 (Or.inr (hw _ ow23)) (ty := .double) (by decide)
  have F51 : Fld Z h48 b48 "com/example/adept_layout/adeptlayout/geometry/Point" "y" "D" (.double 0) := D48 (Or.inr (hw _ ow25)) (ty := .double) (by decide)
  refine ownStep st48 ?_
  refine ownStep (fun _ k => XS.dup X48.here hx rfl (hb hby at_145) rfl rfl k) ?_
  refine ownStep (fun _ k => XS.lload X48.here hx rfl (hb hby at_146) rfl  k) ?_
  show ownGo p.tables e below (T48.setTop (mkF m 148 #[.val (.int i0), .val (.int i1), .val (.int i2), .val (.int i3), .val (.int i4), .val (.int i5), .val (.long (i0.toInt64)), .second, .val (.long (i1.toInt64)), .second, .val (.long ((i2 &&& (2147483647 : Int32)).toInt64)), .second, .val (.long ((i3 &&& (2147483647 : Int32)).toInt64)), .second, .val (.long (((i4 <<< ((24 : Int32) &&& 31)) >>> ((24 : Int32) &&& 31)).toInt64)), .second, .val (.long (((i4 <<< ((16 : Int32) &&& 31)) >>> ((24 : Int32) &&& 31)).toInt64)), .second, .val (.long (((i5 <<< ((24 : Int32) &&& 31)) >>> ((24 : Int32) &&& 31)).toInt64)), .second, .val (.long (((i5 <<< ((16 : Int32) &&& 31)) >>> ((24 : Int32) &&& 31)).toInt64)), .second, .val (.long ((i0.toInt64) + (((i4 <<< ((24 : Int32) &&& 31)) >>> ((24 : Int32) &&& 31)).toInt64))), .second, .val (.long ((i1.toInt64) + (((i5 <<< ((24 : Int32) &&& 31)) >>> ((24 : Int32) &&& 31)).toInt64))), .second, .val (.long (own_max (0 : Int64) (((i2 &&& (2147483647 : Int32)).toInt64) + (((i4 <<< ((16 : Int32) &&& 31)) >>> ((24 : Int32) &&& 31)).toInt64)))), .second, .val (.long (own_max (0 : Int64) (((i3 &&& (2147483647 : Int32)).toInt64) + (((i5 <<< ((16 : Int32) &&& 31)) >>> ((24 : Int32) &&& 31)).toInt64)))), .second, .val (.ref b5), .unset, .unset] [(.long ((i0.toInt64) + (((i4 <<< ((24 : Int32) &&& 31)) >>> ((24 : Int32) &&& 31)).toInt64))), (.ref b48), (.ref b48), (.ref b42), (.ref b42)])) _
  have Zs53 : n0 ≤ h48.size := Nat.le_trans Z0 KP49.1
  obtain ⟨_, _, ⟨T52, L52, k52, n52⟩, -, X52, ⟨Lc52, hQ52, l52, y52, z52⟩, st52⟩ := Jvm.LawKit.callS X48 hx (y := (⟨"com/example/adept_layout/adeptlayout/geometry/BoxContainsPinLaw", "u", "(J)D"⟩ : MethodName)) hown (mvT hZ (hw _ ow11)) (mvT hZ (hw _ ow12)) (mvT hZ (hw _ ow13)) (mvT hZ (hw _ ow14)) (by decide) (backOf (W := 4) (own_u l Z a0 hw [] ((i0.toInt64) + (((i4 <<< ((24 : Int32) &&& 31)) >>> ((24 : Int32) &&& 31)).toInt64)) h48 n0 Zs53 ) hZ (hw _ ow14) (hw _ ow13) (by decide) (by decide)) (g := (mkF m 148 #[.val (.int i0), .val (.int i1), .val (.int i2), .val (.int i3), .val (.int i4), .val (.int i5), .val (.long (i0.toInt64)), .second, .val (.long (i1.toInt64)), .second, .val (.long ((i2 &&& (2147483647 : Int32)).toInt64)), .second, .val (.long ((i3 &&& (2147483647 : Int32)).toInt64)), .second, .val (.long (((i4 <<< ((24 : Int32) &&& 31)) >>> ((24 : Int32) &&& 31)).toInt64)), .second, .val (.long (((i4 <<< ((16 : Int32) &&& 31)) >>> ((24 : Int32) &&& 31)).toInt64)), .second, .val (.long (((i5 <<< ((24 : Int32) &&& 31)) >>> ((24 : Int32) &&& 31)).toInt64)), .second, .val (.long (((i5 <<< ((16 : Int32) &&& 31)) >>> ((24 : Int32) &&& 31)).toInt64)), .second, .val (.long ((i0.toInt64) + (((i4 <<< ((24 : Int32) &&& 31)) >>> ((24 : Int32) &&& 31)).toInt64))), .second, .val (.long ((i1.toInt64) + (((i5 <<< ((24 : Int32) &&& 31)) >>> ((24 : Int32) &&& 31)).toInt64))), .second, .val (.long (own_max (0 : Int64) (((i2 &&& (2147483647 : Int32)).toInt64) + (((i4 <<< ((16 : Int32) &&& 31)) >>> ((24 : Int32) &&& 31)).toInt64)))), .second, .val (.long (own_max (0 : Int64) (((i3 &&& (2147483647 : Int32)).toInt64) + (((i5 <<< ((16 : Int32) &&& 31)) >>> ((24 : Int32) &&& 31)).toInt64)))), .second, .val (.ref b5), .unset, .unset] [(.long ((i0.toInt64) + (((i4 <<< ((24 : Int32) &&& 31)) >>> ((24 : Int32) &&& 31)).toInt64))), (.ref b48), (.ref b48), (.ref b42), (.ref b42)])) rfl (by rw [hml]; rfl) (argsL := [(.long ((i0.toInt64) + (((i4 <<< ((24 : Int32) &&& 31)) >>> ((24 : Int32) &&& 31)).toInt64)))]) (rest := [(.ref b48), (.ref b48), (.ref b42), (.ref b42)]) (lenOf own_law_pd1 rfl) rfl (by show 2 * 0 + _ ≤ _; exact Nat.le_of_eq rfl) (hb hby at_148) (fun _ _ => ⟨rfl, e48, (by decide : 4 + 0 ≤ _), (by decide : 12 + 0 ≤ _)⟩)
  dsimp only [Pt.U, Pt.locs, Pt.cells, Pt.slots] at X52 l52 y52 z52 st52 hQ52
  obtain rfl : k52 = 4 := y52
  obtain rfl : n52 = 12 := z52
  obtain ⟨rfl, N52q, R52⟩ := hQ52
  have N52 : Fr n0 L52 := l52 ▸ Fr.app N35 N52q
  refine ownStep (fun _ k => st52 _ k) ?_
  refine ownStep (fun _ k => XS.lload X52.here hx rfl (hb hby at_151) rfl  k) ?_
  show ownGo p.tables e below (T52.setTop (mkF m 153 #[.val (.int i0), .val (.int i1), .val (.int i2), .val (.int i3), .val (.int i4), .val (.int i5), .val (.long (i0.toInt64)), .second, .val (.long (i1.toInt64)), .second, .val (.long ((i2 &&& (2147483647 : Int32)).toInt64)), .second, .val (.long ((i3 &&& (2147483647 : Int32)).toInt64)), .second, .val (.long (((i4 <<< ((24 : Int32) &&& 31)) >>> ((24 : Int32) &&& 31)).toInt64)), .second, .val (.long (((i4 <<< ((16 : Int32) &&& 31)) >>> ((24 : Int32) &&& 31)).toInt64)), .second, .val (.long (((i5 <<< ((24 : Int32) &&& 31)) >>> ((24 : Int32) &&& 31)).toInt64)), .second, .val (.long (((i5 <<< ((16 : Int32) &&& 31)) >>> ((24 : Int32) &&& 31)).toInt64)), .second, .val (.long ((i0.toInt64) + (((i4 <<< ((24 : Int32) &&& 31)) >>> ((24 : Int32) &&& 31)).toInt64))), .second, .val (.long ((i1.toInt64) + (((i5 <<< ((24 : Int32) &&& 31)) >>> ((24 : Int32) &&& 31)).toInt64))), .second, .val (.long (own_max (0 : Int64) (((i2 &&& (2147483647 : Int32)).toInt64) + (((i4 <<< ((16 : Int32) &&& 31)) >>> ((24 : Int32) &&& 31)).toInt64)))), .second, .val (.long (own_max (0 : Int64) (((i3 &&& (2147483647 : Int32)).toInt64) + (((i5 <<< ((16 : Int32) &&& 31)) >>> ((24 : Int32) &&& 31)).toInt64)))), .second, .val (.ref b5), .unset, .unset] [(.long ((i1.toInt64) + (((i5 <<< ((24 : Int32) &&& 31)) >>> ((24 : Int32) &&& 31)).toInt64))), (.double (own_uu ((i0.toInt64) + (((i4 <<< ((24 : Int32) &&& 31)) >>> ((24 : Int32) &&& 31)).toInt64)))), (.ref b48), (.ref b48), (.ref b42), (.ref b42)])) _
  have Zs55 : n0 ≤ h48.size := Nat.le_trans Z0 KP49.1
  obtain ⟨_, _, ⟨T54, L54, k54, n54⟩, -, X54, ⟨Lc54, hQ54, l54, y54, z54⟩, st54⟩ := Jvm.LawKit.callS X52 hx (y := (⟨"com/example/adept_layout/adeptlayout/geometry/BoxContainsPinLaw", "u", "(J)D"⟩ : MethodName)) hown (mvT hZ (hw _ ow11)) (mvT hZ (hw _ ow12)) (mvT hZ (hw _ ow13)) (mvT hZ (hw _ ow14)) (by decide) (backOf (W := 6) (own_u l Z a0 hw [] ((i1.toInt64) + (((i5 <<< ((24 : Int32) &&& 31)) >>> ((24 : Int32) &&& 31)).toInt64)) h48 n0 Zs55 ) hZ (hw _ ow14) (hw _ ow13) (by decide) (by decide)) (g := (mkF m 153 #[.val (.int i0), .val (.int i1), .val (.int i2), .val (.int i3), .val (.int i4), .val (.int i5), .val (.long (i0.toInt64)), .second, .val (.long (i1.toInt64)), .second, .val (.long ((i2 &&& (2147483647 : Int32)).toInt64)), .second, .val (.long ((i3 &&& (2147483647 : Int32)).toInt64)), .second, .val (.long (((i4 <<< ((24 : Int32) &&& 31)) >>> ((24 : Int32) &&& 31)).toInt64)), .second, .val (.long (((i4 <<< ((16 : Int32) &&& 31)) >>> ((24 : Int32) &&& 31)).toInt64)), .second, .val (.long (((i5 <<< ((24 : Int32) &&& 31)) >>> ((24 : Int32) &&& 31)).toInt64)), .second, .val (.long (((i5 <<< ((16 : Int32) &&& 31)) >>> ((24 : Int32) &&& 31)).toInt64)), .second, .val (.long ((i0.toInt64) + (((i4 <<< ((24 : Int32) &&& 31)) >>> ((24 : Int32) &&& 31)).toInt64))), .second, .val (.long ((i1.toInt64) + (((i5 <<< ((24 : Int32) &&& 31)) >>> ((24 : Int32) &&& 31)).toInt64))), .second, .val (.long (own_max (0 : Int64) (((i2 &&& (2147483647 : Int32)).toInt64) + (((i4 <<< ((16 : Int32) &&& 31)) >>> ((24 : Int32) &&& 31)).toInt64)))), .second, .val (.long (own_max (0 : Int64) (((i3 &&& (2147483647 : Int32)).toInt64) + (((i5 <<< ((16 : Int32) &&& 31)) >>> ((24 : Int32) &&& 31)).toInt64)))), .second, .val (.ref b5), .unset, .unset] [(.long ((i1.toInt64) + (((i5 <<< ((24 : Int32) &&& 31)) >>> ((24 : Int32) &&& 31)).toInt64))), (.double (own_uu ((i0.toInt64) + (((i4 <<< ((24 : Int32) &&& 31)) >>> ((24 : Int32) &&& 31)).toInt64)))), (.ref b48), (.ref b48), (.ref b42), (.ref b42)])) rfl (by rw [hml]; rfl) (argsL := [(.long ((i1.toInt64) + (((i5 <<< ((24 : Int32) &&& 31)) >>> ((24 : Int32) &&& 31)).toInt64)))]) (rest := [(.double (own_uu ((i0.toInt64) + (((i4 <<< ((24 : Int32) &&& 31)) >>> ((24 : Int32) &&& 31)).toInt64)))), (.ref b48), (.ref b48), (.ref b42), (.ref b42)]) (lenOf own_law_pd1 rfl) rfl (by show 2 * 0 + _ ≤ _; exact Nat.le_of_eq rfl) (hb hby at_153) (fun _ _ => ⟨rfl, R52, (by decide : 4 + 0 ≤ _), (by decide : 12 + 0 ≤ _)⟩)
  dsimp only [Pt.U, Pt.locs, Pt.cells, Pt.slots] at X54 l54 y54 z54 st54 hQ54
  obtain rfl : k54 = 4 := y54
  obtain rfl : n54 = 12 := z54
  obtain ⟨rfl, N54q, R54⟩ := hQ54
  have N54 : Fr n0 L54 := l54 ▸ Fr.app N52 N54q
  refine ownStep (fun _ k => st54 _ k) ?_
  show ownGo p.tables e below (T54.setTop (mkF m 156 #[.val (.int i0), .val (.int i1), .val (.int i2), .val (.int i3), .val (.int i4), .val (.int i5), .val (.long (i0.toInt64)), .second, .val (.long (i1.toInt64)), .second, .val (.long ((i2 &&& (2147483647 : Int32)).toInt64)), .second, .val (.long ((i3 &&& (2147483647 : Int32)).toInt64)), .second, .val (.long (((i4 <<< ((24 : Int32) &&& 31)) >>> ((24 : Int32) &&& 31)).toInt64)), .second, .val (.long (((i4 <<< ((16 : Int32) &&& 31)) >>> ((24 : Int32) &&& 31)).toInt64)), .second, .val (.long (((i5 <<< ((24 : Int32) &&& 31)) >>> ((24 : Int32) &&& 31)).toInt64)), .second, .val (.long (((i5 <<< ((16 : Int32) &&& 31)) >>> ((24 : Int32) &&& 31)).toInt64)), .second, .val (.long ((i0.toInt64) + (((i4 <<< ((24 : Int32) &&& 31)) >>> ((24 : Int32) &&& 31)).toInt64))), .second, .val (.long ((i1.toInt64) + (((i5 <<< ((24 : Int32) &&& 31)) >>> ((24 : Int32) &&& 31)).toInt64))), .second, .val (.long (own_max (0 : Int64) (((i2 &&& (2147483647 : Int32)).toInt64) + (((i4 <<< ((16 : Int32) &&& 31)) >>> ((24 : Int32) &&& 31)).toInt64)))), .second, .val (.long (own_max (0 : Int64) (((i3 &&& (2147483647 : Int32)).toInt64) + (((i5 <<< ((16 : Int32) &&& 31)) >>> ((24 : Int32) &&& 31)).toInt64)))), .second, .val (.ref b5), .unset, .unset] [(.double (own_uu ((i1.toInt64) + (((i5 <<< ((24 : Int32) &&& 31)) >>> ((24 : Int32) &&& 31)).toInt64)))), (.double (own_uu ((i0.toInt64) + (((i4 <<< ((24 : Int32) &&& 31)) >>> ((24 : Int32) &&& 31)).toInt64)))), (.ref b48), (.ref b48), (.ref b42), (.ref b42)])) _
  have Zs57 : n0 ≤ h48.size := Nat.le_trans Z0 KP49.1
  obtain ⟨_, _, ⟨T56, L56, k56, n56⟩, -, X56, ⟨Lc56, hQ56, l56, y56, z56⟩, st56⟩ := X54.specialBack hx (y := (⟨"com/example/adept_layout/adeptlayout/geometry/Point", "<init>", "(DD)V"⟩ : MethodName)) rfl hown (mvT hZ (hw _ ow16)) (mvT hZ (hw _ ow17)) (mvT hZ (hw _ ow18)) (by decide) (backOf (W := 3) (own_pt l Z a0 hw [] b48 (own_uu ((i0.toInt64) + (((i4 <<< ((24 : Int32) &&& 31)) >>> ((24 : Int32) &&& 31)).toInt64))) (own_uu ((i1.toInt64) + (((i5 <<< ((24 : Int32) &&& 31)) >>> ((24 : Int32) &&& 31)).toInt64))) h48 n0 Zs57 A48 gn_b48 F50 F51) hZ (hw _ ow18) (hw _ ow10) (by decide) (by decide)) (g := (mkF m 156 #[.val (.int i0), .val (.int i1), .val (.int i2), .val (.int i3), .val (.int i4), .val (.int i5), .val (.long (i0.toInt64)), .second, .val (.long (i1.toInt64)), .second, .val (.long ((i2 &&& (2147483647 : Int32)).toInt64)), .second, .val (.long ((i3 &&& (2147483647 : Int32)).toInt64)), .second, .val (.long (((i4 <<< ((24 : Int32) &&& 31)) >>> ((24 : Int32) &&& 31)).toInt64)), .second, .val (.long (((i4 <<< ((16 : Int32) &&& 31)) >>> ((24 : Int32) &&& 31)).toInt64)), .second, .val (.long (((i5 <<< ((24 : Int32) &&& 31)) >>> ((24 : Int32) &&& 31)).toInt64)), .second, .val (.long (((i5 <<< ((16 : Int32) &&& 31)) >>> ((24 : Int32) &&& 31)).toInt64)), .second, .val (.long ((i0.toInt64) + (((i4 <<< ((24 : Int32) &&& 31)) >>> ((24 : Int32) &&& 31)).toInt64))), .second, .val (.long ((i1.toInt64) + (((i5 <<< ((24 : Int32) &&& 31)) >>> ((24 : Int32) &&& 31)).toInt64))), .second, .val (.long (own_max (0 : Int64) (((i2 &&& (2147483647 : Int32)).toInt64) + (((i4 <<< ((16 : Int32) &&& 31)) >>> ((24 : Int32) &&& 31)).toInt64)))), .second, .val (.long (own_max (0 : Int64) (((i3 &&& (2147483647 : Int32)).toInt64) + (((i5 <<< ((16 : Int32) &&& 31)) >>> ((24 : Int32) &&& 31)).toInt64)))), .second, .val (.ref b5), .unset, .unset] [(.double (own_uu ((i1.toInt64) + (((i5 <<< ((24 : Int32) &&& 31)) >>> ((24 : Int32) &&& 31)).toInt64)))), (.double (own_uu ((i0.toInt64) + (((i4 <<< ((24 : Int32) &&& 31)) >>> ((24 : Int32) &&& 31)).toInt64)))), (.ref b48), (.ref b48), (.ref b42), (.ref b42)])) rfl (by rw [hml]; rfl) (Steps.refl _) (a := b48) (argsL := [(.double (own_uu ((i0.toInt64) + (((i4 <<< ((24 : Int32) &&& 31)) >>> ((24 : Int32) &&& 31)).toInt64)))), (.double (own_uu ((i1.toInt64) + (((i5 <<< ((24 : Int32) &&& 31)) >>> ((24 : Int32) &&& 31)).toInt64))))]) (rest := [(.ref b48), (.ref b42), (.ref b42)]) (lenOf own_law_pd2 rfl) rfl (by show 2 * 0 + _ ≤ _; exact Nat.le_of_eq rfl) (hb hby at_156) (fun _ _ => ⟨rfl, R54, (by decide : 4 + 0 ≤ _), (by decide : 12 + 0 ≤ _)⟩)
  dsimp only [Pt.U, Pt.locs, Pt.cells, Pt.slots] at X56 l56 y56 z56 st56 hQ56
  obtain rfl : k56 = 4 := y56
  obtain rfl : n56 = 12 := z56
  obtain ⟨rfl, N56q, R56, P58, P59⟩ := hQ56
  have N56 : Fr n0 L56 := l56 ▸ Fr.app N54 N56q
  refine ownStep (fun _ k => st56.trans k) ?_
  have KP60 : Keep h0 T56.heap [] := KP49.trans R56 (allS (Or.inr gh_b48) all0)
  refine ownStep (fun _ k => XS.lload X56.here hx rfl (hb hby at_159) rfl  k) ?_
  show ownGo p.tables e below (T56.setTop (mkF m 161 #[.val (.int i0), .val (.int i1), .val (.int i2), .val (.int i3), .val (.int i4), .val (.int i5), .val (.long (i0.toInt64)), .second, .val (.long (i1.toInt64)), .second, .val (.long ((i2 &&& (2147483647 : Int32)).toInt64)), .second, .val (.long ((i3 &&& (2147483647 : Int32)).toInt64)), .second, .val (.long (((i4 <<< ((24 : Int32) &&& 31)) >>> ((24 : Int32) &&& 31)).toInt64)), .second, .val (.long (((i4 <<< ((16 : Int32) &&& 31)) >>> ((24 : Int32) &&& 31)).toInt64)), .second, .val (.long (((i5 <<< ((24 : Int32) &&& 31)) >>> ((24 : Int32) &&& 31)).toInt64)), .second, .val (.long (((i5 <<< ((16 : Int32) &&& 31)) >>> ((24 : Int32) &&& 31)).toInt64)), .second, .val (.long ((i0.toInt64) + (((i4 <<< ((24 : Int32) &&& 31)) >>> ((24 : Int32) &&& 31)).toInt64))), .second, .val (.long ((i1.toInt64) + (((i5 <<< ((24 : Int32) &&& 31)) >>> ((24 : Int32) &&& 31)).toInt64))), .second, .val (.long (own_max (0 : Int64) (((i2 &&& (2147483647 : Int32)).toInt64) + (((i4 <<< ((16 : Int32) &&& 31)) >>> ((24 : Int32) &&& 31)).toInt64)))), .second, .val (.long (own_max (0 : Int64) (((i3 &&& (2147483647 : Int32)).toInt64) + (((i5 <<< ((16 : Int32) &&& 31)) >>> ((24 : Int32) &&& 31)).toInt64)))), .second, .val (.ref b5), .unset, .unset] [(.long (own_max (0 : Int64) (((i2 &&& (2147483647 : Int32)).toInt64) + (((i4 <<< ((16 : Int32) &&& 31)) >>> ((24 : Int32) &&& 31)).toInt64)))), (.ref b48), (.ref b42), (.ref b42)])) _
  have Zs62 : n0 ≤ T56.heap.size := Nat.le_trans Z0 KP60.1
  obtain ⟨_, _, ⟨T61, L61, k61, n61⟩, -, X61, ⟨Lc61, hQ61, l61, y61, z61⟩, st61⟩ := Jvm.LawKit.callS X56 hx (y := (⟨"com/example/adept_layout/adeptlayout/geometry/BoxContainsPinLaw", "u", "(J)D"⟩ : MethodName)) hown (mvT hZ (hw _ ow11)) (mvT hZ (hw _ ow12)) (mvT hZ (hw _ ow13)) (mvT hZ (hw _ ow14)) (by decide) (backOf (W := 3) (own_u l Z a0 hw [] (own_max (0 : Int64) (((i2 &&& (2147483647 : Int32)).toInt64) + (((i4 <<< ((16 : Int32) &&& 31)) >>> ((24 : Int32) &&& 31)).toInt64))) T56.heap n0 Zs62 ) hZ (hw _ ow14) (hw _ ow13) (by decide) (by decide)) (g := (mkF m 161 #[.val (.int i0), .val (.int i1), .val (.int i2), .val (.int i3), .val (.int i4), .val (.int i5), .val (.long (i0.toInt64)), .second, .val (.long (i1.toInt64)), .second, .val (.long ((i2 &&& (2147483647 : Int32)).toInt64)), .second, .val (.long ((i3 &&& (2147483647 : Int32)).toInt64)), .second, .val (.long (((i4 <<< ((24 : Int32) &&& 31)) >>> ((24 : Int32) &&& 31)).toInt64)), .second, .val (.long (((i4 <<< ((16 : Int32) &&& 31)) >>> ((24 : Int32) &&& 31)).toInt64)), .second, .val (.long (((i5 <<< ((24 : Int32) &&& 31)) >>> ((24 : Int32) &&& 31)).toInt64)), .second, .val (.long (((i5 <<< ((16 : Int32) &&& 31)) >>> ((24 : Int32) &&& 31)).toInt64)), .second, .val (.long ((i0.toInt64) + (((i4 <<< ((24 : Int32) &&& 31)) >>> ((24 : Int32) &&& 31)).toInt64))), .second, .val (.long ((i1.toInt64) + (((i5 <<< ((24 : Int32) &&& 31)) >>> ((24 : Int32) &&& 31)).toInt64))), .second, .val (.long (own_max (0 : Int64) (((i2 &&& (2147483647 : Int32)).toInt64) + (((i4 <<< ((16 : Int32) &&& 31)) >>> ((24 : Int32) &&& 31)).toInt64)))), .second, .val (.long (own_max (0 : Int64) (((i3 &&& (2147483647 : Int32)).toInt64) + (((i5 <<< ((16 : Int32) &&& 31)) >>> ((24 : Int32) &&& 31)).toInt64)))), .second, .val (.ref b5), .unset, .unset] [(.long (own_max (0 : Int64) (((i2 &&& (2147483647 : Int32)).toInt64) + (((i4 <<< ((16 : Int32) &&& 31)) >>> ((24 : Int32) &&& 31)).toInt64)))), (.ref b48), (.ref b42), (.ref b42)])) rfl (by rw [hml]; rfl) (argsL := [(.long (own_max (0 : Int64) (((i2 &&& (2147483647 : Int32)).toInt64) + (((i4 <<< ((16 : Int32) &&& 31)) >>> ((24 : Int32) &&& 31)).toInt64))))]) (rest := [(.ref b48), (.ref b42), (.ref b42)]) (lenOf own_law_pd1 rfl) rfl (by show 2 * 0 + _ ≤ _; exact Nat.le_of_eq rfl) (hb hby at_161) (fun _ _ => ⟨rfl, rfl, (by decide : 4 + 0 ≤ _), (by decide : 12 + 0 ≤ _)⟩)
  dsimp only [Pt.U, Pt.locs, Pt.cells, Pt.slots] at X61 l61 y61 z61 st61 hQ61
  obtain rfl : k61 = 4 := y61
  obtain rfl : n61 = 12 := z61
  obtain ⟨rfl, N61q, R61⟩ := hQ61
  have N61 : Fr n0 L61 := l61 ▸ Fr.app N56 N61q
  refine ownStep (fun _ k => st61 _ k) ?_
  refine ownStep (fun _ k => XS.lload X61.here hx rfl (hb hby at_164) rfl  k) ?_
  show ownGo p.tables e below (T61.setTop (mkF m 166 #[.val (.int i0), .val (.int i1), .val (.int i2), .val (.int i3), .val (.int i4), .val (.int i5), .val (.long (i0.toInt64)), .second, .val (.long (i1.toInt64)), .second, .val (.long ((i2 &&& (2147483647 : Int32)).toInt64)), .second, .val (.long ((i3 &&& (2147483647 : Int32)).toInt64)), .second, .val (.long (((i4 <<< ((24 : Int32) &&& 31)) >>> ((24 : Int32) &&& 31)).toInt64)), .second, .val (.long (((i4 <<< ((16 : Int32) &&& 31)) >>> ((24 : Int32) &&& 31)).toInt64)), .second, .val (.long (((i5 <<< ((24 : Int32) &&& 31)) >>> ((24 : Int32) &&& 31)).toInt64)), .second, .val (.long (((i5 <<< ((16 : Int32) &&& 31)) >>> ((24 : Int32) &&& 31)).toInt64)), .second, .val (.long ((i0.toInt64) + (((i4 <<< ((24 : Int32) &&& 31)) >>> ((24 : Int32) &&& 31)).toInt64))), .second, .val (.long ((i1.toInt64) + (((i5 <<< ((24 : Int32) &&& 31)) >>> ((24 : Int32) &&& 31)).toInt64))), .second, .val (.long (own_max (0 : Int64) (((i2 &&& (2147483647 : Int32)).toInt64) + (((i4 <<< ((16 : Int32) &&& 31)) >>> ((24 : Int32) &&& 31)).toInt64)))), .second, .val (.long (own_max (0 : Int64) (((i3 &&& (2147483647 : Int32)).toInt64) + (((i5 <<< ((16 : Int32) &&& 31)) >>> ((24 : Int32) &&& 31)).toInt64)))), .second, .val (.ref b5), .unset, .unset] [(.long (own_max (0 : Int64) (((i3 &&& (2147483647 : Int32)).toInt64) + (((i5 <<< ((16 : Int32) &&& 31)) >>> ((24 : Int32) &&& 31)).toInt64)))), (.double (own_uu (own_max (0 : Int64) (((i2 &&& (2147483647 : Int32)).toInt64) + (((i4 <<< ((16 : Int32) &&& 31)) >>> ((24 : Int32) &&& 31)).toInt64))))), (.ref b48), (.ref b42), (.ref b42)])) _
  have Zs64 : n0 ≤ T56.heap.size := Nat.le_trans Z0 KP60.1
  obtain ⟨_, _, ⟨T63, L63, k63, n63⟩, -, X63, ⟨Lc63, hQ63, l63, y63, z63⟩, st63⟩ := Jvm.LawKit.callS X61 hx (y := (⟨"com/example/adept_layout/adeptlayout/geometry/BoxContainsPinLaw", "u", "(J)D"⟩ : MethodName)) hown (mvT hZ (hw _ ow11)) (mvT hZ (hw _ ow12)) (mvT hZ (hw _ ow13)) (mvT hZ (hw _ ow14)) (by decide) (backOf (W := 5) (own_u l Z a0 hw [] (own_max (0 : Int64) (((i3 &&& (2147483647 : Int32)).toInt64) + (((i5 <<< ((16 : Int32) &&& 31)) >>> ((24 : Int32) &&& 31)).toInt64))) T56.heap n0 Zs64 ) hZ (hw _ ow14) (hw _ ow13) (by decide) (by decide)) (g := (mkF m 166 #[.val (.int i0), .val (.int i1), .val (.int i2), .val (.int i3), .val (.int i4), .val (.int i5), .val (.long (i0.toInt64)), .second, .val (.long (i1.toInt64)), .second, .val (.long ((i2 &&& (2147483647 : Int32)).toInt64)), .second, .val (.long ((i3 &&& (2147483647 : Int32)).toInt64)), .second, .val (.long (((i4 <<< ((24 : Int32) &&& 31)) >>> ((24 : Int32) &&& 31)).toInt64)), .second, .val (.long (((i4 <<< ((16 : Int32) &&& 31)) >>> ((24 : Int32) &&& 31)).toInt64)), .second, .val (.long (((i5 <<< ((24 : Int32) &&& 31)) >>> ((24 : Int32) &&& 31)).toInt64)), .second, .val (.long (((i5 <<< ((16 : Int32) &&& 31)) >>> ((24 : Int32) &&& 31)).toInt64)), .second, .val (.long ((i0.toInt64) + (((i4 <<< ((24 : Int32) &&& 31)) >>> ((24 : Int32) &&& 31)).toInt64))), .second, .val (.long ((i1.toInt64) + (((i5 <<< ((24 : Int32) &&& 31)) >>> ((24 : Int32) &&& 31)).toInt64))), .second, .val (.long (own_max (0 : Int64) (((i2 &&& (2147483647 : Int32)).toInt64) + (((i4 <<< ((16 : Int32) &&& 31)) >>> ((24 : Int32) &&& 31)).toInt64)))), .second, .val (.long (own_max (0 : Int64) (((i3 &&& (2147483647 : Int32)).toInt64) + (((i5 <<< ((16 : Int32) &&& 31)) >>> ((24 : Int32) &&& 31)).toInt64)))), .second, .val (.ref b5), .unset, .unset] [(.long (own_max (0 : Int64) (((i3 &&& (2147483647 : Int32)).toInt64) + (((i5 <<< ((16 : Int32) &&& 31)) >>> ((24 : Int32) &&& 31)).toInt64)))), (.double (own_uu (own_max (0 : Int64) (((i2 &&& (2147483647 : Int32)).toInt64) + (((i4 <<< ((16 : Int32) &&& 31)) >>> ((24 : Int32) &&& 31)).toInt64))))), (.ref b48), (.ref b42), (.ref b42)])) rfl (by rw [hml]; rfl) (argsL := [(.long (own_max (0 : Int64) (((i3 &&& (2147483647 : Int32)).toInt64) + (((i5 <<< ((16 : Int32) &&& 31)) >>> ((24 : Int32) &&& 31)).toInt64))))]) (rest := [(.double (own_uu (own_max (0 : Int64) (((i2 &&& (2147483647 : Int32)).toInt64) + (((i4 <<< ((16 : Int32) &&& 31)) >>> ((24 : Int32) &&& 31)).toInt64))))), (.ref b48), (.ref b42), (.ref b42)]) (lenOf own_law_pd1 rfl) rfl (by show 2 * 0 + _ ≤ _; exact Nat.le_of_eq rfl) (hb hby at_166) (fun _ _ => ⟨rfl, R61, (by decide : 4 + 0 ≤ _), (by decide : 12 + 0 ≤ _)⟩)
  dsimp only [Pt.U, Pt.locs, Pt.cells, Pt.slots] at X63 l63 y63 z63 st63 hQ63
  obtain rfl : k63 = 4 := y63
  obtain rfl : n63 = 12 := z63
  obtain ⟨rfl, N63q, R63⟩ := hQ63
  have N63 : Fr n0 L63 := l63 ▸ Fr.app N61 N63q
  refine ownStep (fun _ k => st63 _ k) ?_
  show ownGo p.tables e below (T63.setTop (mkF m 169 #[.val (.int i0), .val (.int i1), .val (.int i2), .val (.int i3), .val (.int i4), .val (.int i5), .val (.long (i0.toInt64)), .second, .val (.long (i1.toInt64)), .second, .val (.long ((i2 &&& (2147483647 : Int32)).toInt64)), .second, .val (.long ((i3 &&& (2147483647 : Int32)).toInt64)), .second, .val (.long (((i4 <<< ((24 : Int32) &&& 31)) >>> ((24 : Int32) &&& 31)).toInt64)), .second, .val (.long (((i4 <<< ((16 : Int32) &&& 31)) >>> ((24 : Int32) &&& 31)).toInt64)), .second, .val (.long (((i5 <<< ((24 : Int32) &&& 31)) >>> ((24 : Int32) &&& 31)).toInt64)), .second, .val (.long (((i5 <<< ((16 : Int32) &&& 31)) >>> ((24 : Int32) &&& 31)).toInt64)), .second, .val (.long ((i0.toInt64) + (((i4 <<< ((24 : Int32) &&& 31)) >>> ((24 : Int32) &&& 31)).toInt64))), .second, .val (.long ((i1.toInt64) + (((i5 <<< ((24 : Int32) &&& 31)) >>> ((24 : Int32) &&& 31)).toInt64))), .second, .val (.long (own_max (0 : Int64) (((i2 &&& (2147483647 : Int32)).toInt64) + (((i4 <<< ((16 : Int32) &&& 31)) >>> ((24 : Int32) &&& 31)).toInt64)))), .second, .val (.long (own_max (0 : Int64) (((i3 &&& (2147483647 : Int32)).toInt64) + (((i5 <<< ((16 : Int32) &&& 31)) >>> ((24 : Int32) &&& 31)).toInt64)))), .second, .val (.ref b5), .unset, .unset] [(.double (own_uu (own_max (0 : Int64) (((i3 &&& (2147483647 : Int32)).toInt64) + (((i5 <<< ((16 : Int32) &&& 31)) >>> ((24 : Int32) &&& 31)).toInt64))))), (.double (own_uu (own_max (0 : Int64) (((i2 &&& (2147483647 : Int32)).toInt64) + (((i4 <<< ((16 : Int32) &&& 31)) >>> ((24 : Int32) &&& 31)).toInt64))))), (.ref b48), (.ref b42), (.ref b42)])) _
  have ne65 : b42 ≠ b48 := Nat.ne_of_lt (Nat.lt_of_lt_of_le (Nat.lt_of_lt_of_le A42.lt (Nat.le_refl _)) (Nat.le_of_eq g48.symm))
  have Q66 : Exa Z T56.heap b42 "com/example/adept_layout/adeptlayout/geometry/Box" := ((A42.ext E48).keep R56)
  have Q67 : Exa Z T56.heap b48 "com/example/adept_layout/adeptlayout/geometry/Point" := (A48.keep R56)
  have Q68 : Fld Z T56.heap b42 "com/example/adept_layout/adeptlayout/geometry/Box" "left" "D" (.double 0) := ((F44.ext E48).keep R56 (ninS ne65 nin0))
  have Q69 : Fld Z T56.heap b42 "com/example/adept_layout/adeptlayout/geometry/Box" "top" "D" (.double 0) := ((F45.ext E48).keep R56 (ninS ne65 nin0))
  have Q70 : Fld Z T56.heap b42 "com/example/adept_layout/adeptlayout/geometry/Box" "right" "D" (.double 0) := ((F46.ext E48).keep R56 (ninS ne65 nin0))
  have Q71 : Fld Z T56.heap b42 "com/example/adept_layout/adeptlayout/geometry/Box" "bottom" "D" (.double 0) := ((F47.ext E48).keep R56 (ninS ne65 nin0))
  have Zs73 : n0 ≤ T56.heap.size := Nat.le_trans Z0 KP60.1
  obtain ⟨_, _, ⟨T72, L72, k72, n72⟩, -, X72, ⟨Lc72, hQ72, l72, y72, z72⟩, st72⟩ := X63.specialBack hx (y := (⟨"com/example/adept_layout/adeptlayout/geometry/Box", "<init>", "(Lcom/example/adept_layout/adeptlayout/geometry/Point;DD)V"⟩ : MethodName)) rfl hown (mvT hZ (hw _ ow26)) (mvT hZ (hw _ ow27)) (mvT hZ (hw _ ow28)) (by decide) (backOf (W := 1) (own_bx l Z a0 hw [] b42 b48 (own_uu ((i0.toInt64) + (((i4 <<< ((24 : Int32) &&& 31)) >>> ((24 : Int32) &&& 31)).toInt64))) (own_uu ((i1.toInt64) + (((i5 <<< ((24 : Int32) &&& 31)) >>> ((24 : Int32) &&& 31)).toInt64))) (own_uu (own_max (0 : Int64) (((i2 &&& (2147483647 : Int32)).toInt64) + (((i4 <<< ((16 : Int32) &&& 31)) >>> ((24 : Int32) &&& 31)).toInt64)))) (own_uu (own_max (0 : Int64) (((i3 &&& (2147483647 : Int32)).toInt64) + (((i5 <<< ((16 : Int32) &&& 31)) >>> ((24 : Int32) &&& 31)).toInt64)))) T56.heap n0 Zs73 Q66 gn_b42 Q67 (Ne.symm ne65) P58 P59 ax.2.1 ay.2.1 Q68 Q69 Q70 Q71) hZ (hw _ ow28) (hw _ ow7) (by decide) (by decide)) (g := (mkF m 169 #[.val (.int i0), .val (.int i1), .val (.int i2), .val (.int i3), .val (.int i4), .val (.int i5), .val (.long (i0.toInt64)), .second, .val (.long (i1.toInt64)), .second, .val (.long ((i2 &&& (2147483647 : Int32)).toInt64)), .second, .val (.long ((i3 &&& (2147483647 : Int32)).toInt64)), .second, .val (.long (((i4 <<< ((24 : Int32) &&& 31)) >>> ((24 : Int32) &&& 31)).toInt64)), .second, .val (.long (((i4 <<< ((16 : Int32) &&& 31)) >>> ((24 : Int32) &&& 31)).toInt64)), .second, .val (.long (((i5 <<< ((24 : Int32) &&& 31)) >>> ((24 : Int32) &&& 31)).toInt64)), .second, .val (.long (((i5 <<< ((16 : Int32) &&& 31)) >>> ((24 : Int32) &&& 31)).toInt64)), .second, .val (.long ((i0.toInt64) + (((i4 <<< ((24 : Int32) &&& 31)) >>> ((24 : Int32) &&& 31)).toInt64))), .second, .val (.long ((i1.toInt64) + (((i5 <<< ((24 : Int32) &&& 31)) >>> ((24 : Int32) &&& 31)).toInt64))), .second, .val (.long (own_max (0 : Int64) (((i2 &&& (2147483647 : Int32)).toInt64) + (((i4 <<< ((16 : Int32) &&& 31)) >>> ((24 : Int32) &&& 31)).toInt64)))), .second, .val (.long (own_max (0 : Int64) (((i3 &&& (2147483647 : Int32)).toInt64) + (((i5 <<< ((16 : Int32) &&& 31)) >>> ((24 : Int32) &&& 31)).toInt64)))), .second, .val (.ref b5), .unset, .unset] [(.double (own_uu (own_max (0 : Int64) (((i3 &&& (2147483647 : Int32)).toInt64) + (((i5 <<< ((16 : Int32) &&& 31)) >>> ((24 : Int32) &&& 31)).toInt64))))), (.double (own_uu (own_max (0 : Int64) (((i2 &&& (2147483647 : Int32)).toInt64) + (((i4 <<< ((16 : Int32) &&& 31)) >>> ((24 : Int32) &&& 31)).toInt64))))), (.ref b48), (.ref b42), (.ref b42)])) rfl (by rw [hml]; rfl) (Steps.refl _) (a := b42) (argsL := [(.ref b48), (.double (own_uu (own_max (0 : Int64) (((i2 &&& (2147483647 : Int32)).toInt64) + (((i4 <<< ((16 : Int32) &&& 31)) >>> ((24 : Int32) &&& 31)).toInt64))))), (.double (own_uu (own_max (0 : Int64) (((i3 &&& (2147483647 : Int32)).toInt64) + (((i5 <<< ((16 : Int32) &&& 31)) >>> ((24 : Int32) &&& 31)).toInt64)))))]) (rest := [(.ref b42)]) (lenOf own_law_pd3 rfl) rfl (by show 2 * 0 + _ ≤ _; exact Nat.le_of_eq rfl) (hb hby at_169) (fun _ _ => ⟨rfl, R63, (by decide : 4 + 0 ≤ _), (by decide : 12 + 0 ≤ _)⟩)
  dsimp only [Pt.U, Pt.locs, Pt.cells, Pt.slots] at X72 l72 y72 z72 st72 hQ72
  obtain rfl : k72 = 4 := y72
  obtain rfl : n72 = 12 := z72
  obtain ⟨rfl, N72q, R72, P74, P75, P76, P77⟩ := hQ72
  have N72 : Fr n0 L72 := l72 ▸ Fr.app N63 N72q
  refine ownStep (fun _ k => st72.trans k) ?_
  have KP78 : Keep h0 T72.heap [] := KP60.trans R72 (allS (Or.inr gh_b42) all0)
  refine ownStep (fun _ k => XS.astore X72.here hx rfl (hb hby at_172) rfl rfl (l' := #[.val (.int i0), .val (.int i1), .val (.int i2), .val (.int i3), .val (.int i4), .val (.int i5), .val (.long (i0.toInt64)), .second, .val (.long (i1.toInt64)), .second, .val (.long ((i2 &&& (2147483647 : Int32)).toInt64)), .second, .val (.long ((i3 &&& (2147483647 : Int32)).toInt64)), .second, .val (.long (((i4 <<< ((24 : Int32) &&& 31)) >>> ((24 : Int32) &&& 31)).toInt64)), .second, .val (.long (((i4 <<< ((16 : Int32) &&& 31)) >>> ((24 : Int32) &&& 31)).toInt64)), .second, .val (.long (((i5 <<< ((24 : Int32) &&& 31)) >>> ((24 : Int32) &&& 31)).toInt64)), .second, .val (.long (((i5 <<< ((16 : Int32) &&& 31)) >>> ((24 : Int32) &&& 31)).toInt64)), .second, .val (.long ((i0.toInt64) + (((i4 <<< ((24 : Int32) &&& 31)) >>> ((24 : Int32) &&& 31)).toInt64))), .second, .val (.long ((i1.toInt64) + (((i5 <<< ((24 : Int32) &&& 31)) >>> ((24 : Int32) &&& 31)).toInt64))), .second, .val (.long (own_max (0 : Int64) (((i2 &&& (2147483647 : Int32)).toInt64) + (((i4 <<< ((16 : Int32) &&& 31)) >>> ((24 : Int32) &&& 31)).toInt64)))), .second, .val (.long (own_max (0 : Int64) (((i3 &&& (2147483647 : Int32)).toInt64) + (((i5 <<< ((16 : Int32) &&& 31)) >>> ((24 : Int32) &&& 31)).toInt64)))), .second, .val (.ref b5), .val (.ref b42), .unset]) rfl k) ?_
  refine ownStep (fun _ k => XS.lload X72.here hx rfl (hb hby at_174) rfl  k) ?_
  refine ownStep (fun _ k => XS.lload X72.here hx rfl (hb hby at_176) rfl  k) ?_
  show ownGo p.tables e below (T72.setTop (mkF m 178 #[.val (.int i0), .val (.int i1), .val (.int i2), .val (.int i3), .val (.int i4), .val (.int i5), .val (.long (i0.toInt64)), .second, .val (.long (i1.toInt64)), .second, .val (.long ((i2 &&& (2147483647 : Int32)).toInt64)), .second, .val (.long ((i3 &&& (2147483647 : Int32)).toInt64)), .second, .val (.long (((i4 <<< ((24 : Int32) &&& 31)) >>> ((24 : Int32) &&& 31)).toInt64)), .second, .val (.long (((i4 <<< ((16 : Int32) &&& 31)) >>> ((24 : Int32) &&& 31)).toInt64)), .second, .val (.long (((i5 <<< ((24 : Int32) &&& 31)) >>> ((24 : Int32) &&& 31)).toInt64)), .second, .val (.long (((i5 <<< ((16 : Int32) &&& 31)) >>> ((24 : Int32) &&& 31)).toInt64)), .second, .val (.long ((i0.toInt64) + (((i4 <<< ((24 : Int32) &&& 31)) >>> ((24 : Int32) &&& 31)).toInt64))), .second, .val (.long ((i1.toInt64) + (((i5 <<< ((24 : Int32) &&& 31)) >>> ((24 : Int32) &&& 31)).toInt64))), .second, .val (.long (own_max (0 : Int64) (((i2 &&& (2147483647 : Int32)).toInt64) + (((i4 <<< ((16 : Int32) &&& 31)) >>> ((24 : Int32) &&& 31)).toInt64)))), .second, .val (.long (own_max (0 : Int64) (((i3 &&& (2147483647 : Int32)).toInt64) + (((i5 <<< ((16 : Int32) &&& 31)) >>> ((24 : Int32) &&& 31)).toInt64)))), .second, .val (.ref b5), .val (.ref b42), .unset] [(.long (i0.toInt64)), (.long ((i0.toInt64) + (((i4 <<< ((24 : Int32) &&& 31)) >>> ((24 : Int32) &&& 31)).toInt64)))])) _
  refine ownStep (X72.ldc2Long hx hown (mvT hZ (hw _ ow48)) (g := (mkF m 178 #[.val (.int i0), .val (.int i1), .val (.int i2), .val (.int i3), .val (.int i4), .val (.int i5), .val (.long (i0.toInt64)), .second, .val (.long (i1.toInt64)), .second, .val (.long ((i2 &&& (2147483647 : Int32)).toInt64)), .second, .val (.long ((i3 &&& (2147483647 : Int32)).toInt64)), .second, .val (.long (((i4 <<< ((24 : Int32) &&& 31)) >>> ((24 : Int32) &&& 31)).toInt64)), .second, .val (.long (((i4 <<< ((16 : Int32) &&& 31)) >>> ((24 : Int32) &&& 31)).toInt64)), .second, .val (.long (((i5 <<< ((24 : Int32) &&& 31)) >>> ((24 : Int32) &&& 31)).toInt64)), .second, .val (.long (((i5 <<< ((16 : Int32) &&& 31)) >>> ((24 : Int32) &&& 31)).toInt64)), .second, .val (.long ((i0.toInt64) + (((i4 <<< ((24 : Int32) &&& 31)) >>> ((24 : Int32) &&& 31)).toInt64))), .second, .val (.long ((i1.toInt64) + (((i5 <<< ((24 : Int32) &&& 31)) >>> ((24 : Int32) &&& 31)).toInt64))), .second, .val (.long (own_max (0 : Int64) (((i2 &&& (2147483647 : Int32)).toInt64) + (((i4 <<< ((16 : Int32) &&& 31)) >>> ((24 : Int32) &&& 31)).toInt64)))), .second, .val (.long (own_max (0 : Int64) (((i3 &&& (2147483647 : Int32)).toInt64) + (((i5 <<< ((16 : Int32) &&& 31)) >>> ((24 : Int32) &&& 31)).toInt64)))), .second, .val (.ref b5), .val (.ref b42), .unset] [(.long (i0.toInt64)), (.long ((i0.toInt64) + (((i4 <<< ((24 : Int32) &&& 31)) >>> ((24 : Int32) &&& 31)).toInt64)))])) rfl (hb hby at_178)) ?_
  refine ownStep (fun _ k => XS.lsub X72.here hx rfl (hb hby at_181) rfl k) ?_
  refine ownStep (fun _ k => XS.lcmp X72.here hx rfl (hb hby at_182) rfl k) ?_
  show ownGo p.tables e below (T72.setTop (mkF m 183 #[.val (.int i0), .val (.int i1), .val (.int i2), .val (.int i3), .val (.int i4), .val (.int i5), .val (.long (i0.toInt64)), .second, .val (.long (i1.toInt64)), .second, .val (.long ((i2 &&& (2147483647 : Int32)).toInt64)), .second, .val (.long ((i3 &&& (2147483647 : Int32)).toInt64)), .second, .val (.long (((i4 <<< ((24 : Int32) &&& 31)) >>> ((24 : Int32) &&& 31)).toInt64)), .second, .val (.long (((i4 <<< ((16 : Int32) &&& 31)) >>> ((24 : Int32) &&& 31)).toInt64)), .second, .val (.long (((i5 <<< ((24 : Int32) &&& 31)) >>> ((24 : Int32) &&& 31)).toInt64)), .second, .val (.long (((i5 <<< ((16 : Int32) &&& 31)) >>> ((24 : Int32) &&& 31)).toInt64)), .second, .val (.long ((i0.toInt64) + (((i4 <<< ((24 : Int32) &&& 31)) >>> ((24 : Int32) &&& 31)).toInt64))), .second, .val (.long ((i1.toInt64) + (((i5 <<< ((24 : Int32) &&& 31)) >>> ((24 : Int32) &&& 31)).toInt64))), .second, .val (.long (own_max (0 : Int64) (((i2 &&& (2147483647 : Int32)).toInt64) + (((i4 <<< ((16 : Int32) &&& 31)) >>> ((24 : Int32) &&& 31)).toInt64)))), .second, .val (.long (own_max (0 : Int64) (((i3 &&& (2147483647 : Int32)).toInt64) + (((i5 <<< ((16 : Int32) &&& 31)) >>> ((24 : Int32) &&& 31)).toInt64)))), .second, .val (.ref b5), .val (.ref b42), .unset] [(.int (lcmpW ((i0.toInt64) + (((i4 <<< ((24 : Int32) &&& 31)) >>> ((24 : Int32) &&& 31)).toInt64)) ((i0.toInt64) - (2 : Int64))))])) _
  by_cases hc183 : (lcmpW ((i0.toInt64) + (((i4 <<< ((24 : Int32) &&& 31)) >>> ((24 : Int32) &&& 31)).toInt64)) ((i0.toInt64) - (2 : Int64))) < (0 : Int32)
  · skip
    refine ownStep (fun _ k => XS.ifYes X72.here hx rfl (pc0 := 183) (pc' := 238) rfl (hb hby at_183) rfl ((if0 _ _).trans (tlt (hc183 : (lcmpW ((i0.toInt64) + (((i4 <<< ((24 : Int32) &&& 31)) >>> ((24 : Int32) &&& 31)).toInt64)) ((i0.toInt64) - (2 : Int64))) < (0 : Int32))).1) (by decide) (by decide) k) ?_
    refine ownStep (fun _ k => XS.iconst X72.here hx rfl (hb hby at_238) k) ?_
    refine ownStep (fun _ k => XS.istore X72.here hx rfl (hb hby at_239) rfl (l' := #[.val (.int i0), .val (.int i1), .val (.int i2), .val (.int i3), .val (.int i4), .val (.int i5), .val (.long (i0.toInt64)), .second, .val (.long (i1.toInt64)), .second, .val (.long ((i2 &&& (2147483647 : Int32)).toInt64)), .second, .val (.long ((i3 &&& (2147483647 : Int32)).toInt64)), .second, .val (.long (((i4 <<< ((24 : Int32) &&& 31)) >>> ((24 : Int32) &&& 31)).toInt64)), .second, .val (.long (((i4 <<< ((16 : Int32) &&& 31)) >>> ((24 : Int32) &&& 31)).toInt64)), .second, .val (.long (((i5 <<< ((24 : Int32) &&& 31)) >>> ((24 : Int32) &&& 31)).toInt64)), .second, .val (.long (((i5 <<< ((16 : Int32) &&& 31)) >>> ((24 : Int32) &&& 31)).toInt64)), .second, .val (.long ((i0.toInt64) + (((i4 <<< ((24 : Int32) &&& 31)) >>> ((24 : Int32) &&& 31)).toInt64))), .second, .val (.long ((i1.toInt64) + (((i5 <<< ((24 : Int32) &&& 31)) >>> ((24 : Int32) &&& 31)).toInt64))), .second, .val (.long (own_max (0 : Int64) (((i2 &&& (2147483647 : Int32)).toInt64) + (((i4 <<< ((16 : Int32) &&& 31)) >>> ((24 : Int32) &&& 31)).toInt64)))), .second, .val (.long (own_max (0 : Int64) (((i3 &&& (2147483647 : Int32)).toInt64) + (((i5 <<< ((16 : Int32) &&& 31)) >>> ((24 : Int32) &&& 31)).toInt64)))), .second, .val (.ref b5), .val (.ref b42), .val (.int (0 : Int32))]) rfl k) ?_
    refine ownStep (fun _ k => XS.aload X72.here hx rfl (hb hby at_241) rfl rfl k) ?_
    refine ownStep (fun _ k => XS.aload X72.here hx rfl (hb hby at_243) rfl rfl k) ?_
    show ownGo p.tables e below (T72.setTop (mkF m 245 #[.val (.int i0), .val (.int i1), .val (.int i2), .val (.int i3), .val (.int i4), .val (.int i5), .val (.long (i0.toInt64)), .second, .val (.long (i1.toInt64)), .second, .val (.long ((i2 &&& (2147483647 : Int32)).toInt64)), .second, .val (.long ((i3 &&& (2147483647 : Int32)).toInt64)), .second, .val (.long (((i4 <<< ((24 : Int32) &&& 31)) >>> ((24 : Int32) &&& 31)).toInt64)), .second, .val (.long (((i4 <<< ((16 : Int32) &&& 31)) >>> ((24 : Int32) &&& 31)).toInt64)), .second, .val (.long (((i5 <<< ((24 : Int32) &&& 31)) >>> ((24 : Int32) &&& 31)).toInt64)), .second, .val (.long (((i5 <<< ((16 : Int32) &&& 31)) >>> ((24 : Int32) &&& 31)).toInt64)), .second, .val (.long ((i0.toInt64) + (((i4 <<< ((24 : Int32) &&& 31)) >>> ((24 : Int32) &&& 31)).toInt64))), .second, .val (.long ((i1.toInt64) + (((i5 <<< ((24 : Int32) &&& 31)) >>> ((24 : Int32) &&& 31)).toInt64))), .second, .val (.long (own_max (0 : Int64) (((i2 &&& (2147483647 : Int32)).toInt64) + (((i4 <<< ((16 : Int32) &&& 31)) >>> ((24 : Int32) &&& 31)).toInt64)))), .second, .val (.long (own_max (0 : Int64) (((i3 &&& (2147483647 : Int32)).toInt64) + (((i5 <<< ((16 : Int32) &&& 31)) >>> ((24 : Int32) &&& 31)).toInt64)))), .second, .val (.ref b5), .val (.ref b42), .val (.int (0 : Int32))] [(.ref b42), (.ref b5)])) _
    have ne79 : b5 ≠ b48 := Nat.ne_of_lt (Nat.lt_of_lt_of_le (Nat.lt_of_lt_of_le P37.lt (Nat.le_trans (Nat.le_refl _) E42.1)) (Nat.le_of_eq g48.symm))
    have ne80 : b5 ≠ b42 := Nat.ne_of_lt (Nat.lt_of_lt_of_le (Nat.lt_of_lt_of_le P37.lt (Nat.le_refl _)) (Nat.le_of_eq g42.symm))
    have Q81 : Fld Z T72.heap b5 "com/example/adept_layout/adeptlayout/geometry/Box" "left" "D" (.double (own_uu (i0.toInt64))) := ((((P37.ext E42).ext E48).keep R56 (ninS ne79 nin0)).keep R72 (ninS ne80 nin0))
    have Q82 : Fld Z T72.heap b5 "com/example/adept_layout/adeptlayout/geometry/Box" "top" "D" (.double (own_uu (i1.toInt64))) := ((((P38.ext E42).ext E48).keep R56 (ninS ne79 nin0)).keep R72 (ninS ne80 nin0))
    have Q83 : Fld Z T72.heap b5 "com/example/adept_layout/adeptlayout/geometry/Box" "right" "D" (.double (FP.dadd (own_uu (i0.toInt64)) (own_uu ((i2 &&& (2147483647 : Int32)).toInt64)))) := ((((P39.ext E42).ext E48).keep R56 (ninS ne79 nin0)).keep R72 (ninS ne80 nin0))
    have Q84 : Fld Z T72.heap b5 "com/example/adept_layout/adeptlayout/geometry/Box" "bottom" "D" (.double (FP.dadd (own_uu (i1.toInt64)) (own_uu ((i3 &&& (2147483647 : Int32)).toInt64)))) := ((((P40.ext E42).ext E48).keep R56 (ninS ne79 nin0)).keep R72 (ninS ne80 nin0))
    have Zs86 : n0 ≤ T72.heap.size := Nat.le_trans Z0 KP78.1
    have Q87 : Exa Z T72.heap b5 "com/example/adept_layout/adeptlayout/geometry/Box" := (((((Q29.keep R35).ext E42).ext E48).keep R56).keep R72)
    obtain ⟨cq85, kq85, q85a, q85b, q85c⟩ := isOf hZ rfl Q87
    obtain ⟨_, _, ⟨T85, L85, k85, n85⟩, -, X85, ⟨Lc85, hQ85, l85, y85, z85⟩, st85⟩ := X72.virtualBack hx (y := (⟨"com/example/adept_layout/adeptlayout/geometry/Box", "contains", "(Lcom/example/adept_layout/adeptlayout/geometry/Box;)Z"⟩ : MethodName)) (z := (⟨"com/example/adept_layout/adeptlayout/geometry/Box", "contains", "(Lcom/example/adept_layout/adeptlayout/geometry/Box;)Z"⟩ : MethodName)) hown (mvT hZ (hw _ ow49)) (mvT hZ (hw _ ow50)) (notFace_of_selects (args := #[]) (mvT hZ (hw _ ow52))) (mvT hZ (hw _ ow52)) (mvT hZ (hw _ ow51)) (by decide) (backOf (W := 0) (own_ct l Z a0 hw [] b5 b42 (own_uu (i0.toInt64)) (own_uu (i1.toInt64)) (FP.dadd (own_uu (i0.toInt64)) (own_uu ((i2 &&& (2147483647 : Int32)).toInt64))) (FP.dadd (own_uu (i1.toInt64)) (own_uu ((i3 &&& (2147483647 : Int32)).toInt64))) (own_uu ((i0.toInt64) + (((i4 <<< ((24 : Int32) &&& 31)) >>> ((24 : Int32) &&& 31)).toInt64))) (own_uu ((i1.toInt64) + (((i5 <<< ((24 : Int32) &&& 31)) >>> ((24 : Int32) &&& 31)).toInt64))) (FP.dadd (own_uu ((i0.toInt64) + (((i4 <<< ((24 : Int32) &&& 31)) >>> ((24 : Int32) &&& 31)).toInt64))) (own_uu (own_max (0 : Int64) (((i2 &&& (2147483647 : Int32)).toInt64) + (((i4 <<< ((16 : Int32) &&& 31)) >>> ((24 : Int32) &&& 31)).toInt64))))) (FP.dadd (own_uu ((i1.toInt64) + (((i5 <<< ((24 : Int32) &&& 31)) >>> ((24 : Int32) &&& 31)).toInt64))) (own_uu (own_max (0 : Int64) (((i3 &&& (2147483647 : Int32)).toInt64) + (((i5 <<< ((16 : Int32) &&& 31)) >>> ((24 : Int32) &&& 31)).toInt64))))) T72.heap n0 Zs86 Q81 Q82 Q83 Q84 P74 P75 P76 P77 ax.2.2.1 ax.2.2.2.1 ay.2.2.1 ay.2.2.2.1) hZ (hw _ ow53) (hw _ ow7) (by decide) (by decide)) q85a q85c (g := (mkF m 245 #[.val (.int i0), .val (.int i1), .val (.int i2), .val (.int i3), .val (.int i4), .val (.int i5), .val (.long (i0.toInt64)), .second, .val (.long (i1.toInt64)), .second, .val (.long ((i2 &&& (2147483647 : Int32)).toInt64)), .second, .val (.long ((i3 &&& (2147483647 : Int32)).toInt64)), .second, .val (.long (((i4 <<< ((24 : Int32) &&& 31)) >>> ((24 : Int32) &&& 31)).toInt64)), .second, .val (.long (((i4 <<< ((16 : Int32) &&& 31)) >>> ((24 : Int32) &&& 31)).toInt64)), .second, .val (.long (((i5 <<< ((24 : Int32) &&& 31)) >>> ((24 : Int32) &&& 31)).toInt64)), .second, .val (.long (((i5 <<< ((16 : Int32) &&& 31)) >>> ((24 : Int32) &&& 31)).toInt64)), .second, .val (.long ((i0.toInt64) + (((i4 <<< ((24 : Int32) &&& 31)) >>> ((24 : Int32) &&& 31)).toInt64))), .second, .val (.long ((i1.toInt64) + (((i5 <<< ((24 : Int32) &&& 31)) >>> ((24 : Int32) &&& 31)).toInt64))), .second, .val (.long (own_max (0 : Int64) (((i2 &&& (2147483647 : Int32)).toInt64) + (((i4 <<< ((16 : Int32) &&& 31)) >>> ((24 : Int32) &&& 31)).toInt64)))), .second, .val (.long (own_max (0 : Int64) (((i3 &&& (2147483647 : Int32)).toInt64) + (((i5 <<< ((16 : Int32) &&& 31)) >>> ((24 : Int32) &&& 31)).toInt64)))), .second, .val (.ref b5), .val (.ref b42), .val (.int (0 : Int32))] [(.ref b42), (.ref b5)])) rfl (by rw [hml]; rfl) (Steps.refl _) (argsL := [(.ref b42)]) (rest := []) (lenOf own_law_pd4 rfl) rfl (by show 2 * 0 + _ ≤ _; exact Nat.le_of_eq rfl) (hb hby at_245) (fun _ _ => ⟨rfl, rfl, (by decide : 4 + 0 ≤ _), (by decide : 12 + 0 ≤ _)⟩)
    dsimp only [Pt.U, Pt.locs, Pt.cells, Pt.slots] at X85 l85 y85 z85 st85 hQ85
    obtain rfl : k85 = 4 := y85
    obtain rfl : n85 = 12 := z85
    obtain ⟨rfl, N85q, R85⟩ := hQ85
    have N85 : Fr n0 L85 := l85 ▸ Fr.app N72 N85q
    refine ownStep (fun _ k => st85.trans k) ?_
    refine ownStep (fun _ k => XS.iload X85.here hx rfl (hb hby at_248) rfl  k) ?_
    refine ownStep (fun _ k => XS.icmpNo X85.here hx rfl (hb hby at_250) rfl (teq (own_end0 ax.2.2.2.2.1 ax.2.2.2.2.2 ay.2.2.2.2.1 ay.2.2.2.2.2 (by first | exact Or.inl hc183 | exact Or.inr (Or.inl hc201) | exact Or.inr (Or.inr (Or.inl hc213)) | exact Or.inr (Or.inr (Or.inr hc231))) : (own_cont (own_uu (i0.toInt64)) (own_uu (i1.toInt64)) (FP.dadd (own_uu (i0.toInt64)) (own_uu ((i2 &&& (2147483647 : Int32)).toInt64))) (FP.dadd (own_uu (i1.toInt64)) (own_uu ((i3 &&& (2147483647 : Int32)).toInt64))) (own_uu ((i0.toInt64) + (((i4 <<< ((24 : Int32) &&& 31)) >>> ((24 : Int32) &&& 31)).toInt64))) (own_uu ((i1.toInt64) + (((i5 <<< ((24 : Int32) &&& 31)) >>> ((24 : Int32) &&& 31)).toInt64))) (FP.dadd (own_uu ((i0.toInt64) + (((i4 <<< ((24 : Int32) &&& 31)) >>> ((24 : Int32) &&& 31)).toInt64))) (own_uu (own_max (0 : Int64) (((i2 &&& (2147483647 : Int32)).toInt64) + (((i4 <<< ((16 : Int32) &&& 31)) >>> ((24 : Int32) &&& 31)).toInt64))))) (FP.dadd (own_uu ((i1.toInt64) + (((i5 <<< ((24 : Int32) &&& 31)) >>> ((24 : Int32) &&& 31)).toInt64))) (own_uu (own_max (0 : Int64) (((i3 &&& (2147483647 : Int32)).toInt64) + (((i5 <<< ((16 : Int32) &&& 31)) >>> ((24 : Int32) &&& 31)).toInt64)))))) = (0 : Int32))).2 k) ?_
    refine ownStep (fun _ k => XS.iconst X85.here hx rfl (hb hby at_253) k) ?_
    refine ownStep (fun _ k => XS.goto X85.here hx rfl (pc0 := 254) (pc' := 258) rfl (hb hby at_254) (by decide) (by decide) k) ?_
    show ownGo p.tables e below (T85.setTop (mkF m 258 #[.val (.int i0), .val (.int i1), .val (.int i2), .val (.int i3), .val (.int i4), .val (.int i5), .val (.long (i0.toInt64)), .second, .val (.long (i1.toInt64)), .second, .val (.long ((i2 &&& (2147483647 : Int32)).toInt64)), .second, .val (.long ((i3 &&& (2147483647 : Int32)).toInt64)), .second, .val (.long (((i4 <<< ((24 : Int32) &&& 31)) >>> ((24 : Int32) &&& 31)).toInt64)), .second, .val (.long (((i4 <<< ((16 : Int32) &&& 31)) >>> ((24 : Int32) &&& 31)).toInt64)), .second, .val (.long (((i5 <<< ((24 : Int32) &&& 31)) >>> ((24 : Int32) &&& 31)).toInt64)), .second, .val (.long (((i5 <<< ((16 : Int32) &&& 31)) >>> ((24 : Int32) &&& 31)).toInt64)), .second, .val (.long ((i0.toInt64) + (((i4 <<< ((24 : Int32) &&& 31)) >>> ((24 : Int32) &&& 31)).toInt64))), .second, .val (.long ((i1.toInt64) + (((i5 <<< ((24 : Int32) &&& 31)) >>> ((24 : Int32) &&& 31)).toInt64))), .second, .val (.long (own_max (0 : Int64) (((i2 &&& (2147483647 : Int32)).toInt64) + (((i4 <<< ((16 : Int32) &&& 31)) >>> ((24 : Int32) &&& 31)).toInt64)))), .second, .val (.long (own_max (0 : Int64) (((i3 &&& (2147483647 : Int32)).toInt64) + (((i5 <<< ((16 : Int32) &&& 31)) >>> ((24 : Int32) &&& 31)).toInt64)))), .second, .val (.ref b5), .val (.ref b42), .val (.int (0 : Int32))] [(.int (1 : Int32))])) _
    exact ownRet X85 (v := some (.int (1 : Int32))) Bd.notSynchronized (fun h => by rw [Bd.returns] at h; cases h) (fun _ hr => retN X85 hx (t := .boolean) Bd.returns (by simp) (hb hby at_258) hr) (by rw [R85]; exact ⟨rfl, N85, (own_extOf KP78)⟩) (by decide) (by decide)
  · skip
    refine ownStep (fun _ k => XS.ifNo X72.here hx rfl (hb hby at_183) rfl ((if0 _ _).trans (flt (hc183 : ¬ (lcmpW ((i0.toInt64) + (((i4 <<< ((24 : Int32) &&& 31)) >>> ((24 : Int32) &&& 31)).toInt64)) ((i0.toInt64) - (2 : Int64))) < (0 : Int32))).1) k) ?_
    refine ownStep (fun _ k => XS.lload X72.here hx rfl (hb hby at_186) rfl  k) ?_
    refine ownStep (fun _ k => XS.lload X72.here hx rfl (hb hby at_188) rfl  k) ?_
    refine ownStep (fun _ k => XS.ladd X72.here hx rfl (hb hby at_190) rfl k) ?_
    refine ownStep (fun _ k => XS.lload X72.here hx rfl (hb hby at_191) rfl  k) ?_
    refine ownStep (fun _ k => XS.lload X72.here hx rfl (hb hby at_193) rfl  k) ?_
    refine ownStep (fun _ k => XS.ladd X72.here hx rfl (hb hby at_195) rfl k) ?_
    show ownGo p.tables e below (T72.setTop (mkF m 196 #[.val (.int i0), .val (.int i1), .val (.int i2), .val (.int i3), .val (.int i4), .val (.int i5), .val (.long (i0.toInt64)), .second, .val (.long (i1.toInt64)), .second, .val (.long ((i2 &&& (2147483647 : Int32)).toInt64)), .second, .val (.long ((i3 &&& (2147483647 : Int32)).toInt64)), .second, .val (.long (((i4 <<< ((24 : Int32) &&& 31)) >>> ((24 : Int32) &&& 31)).toInt64)), .second, .val (.long (((i4 <<< ((16 : Int32) &&& 31)) >>> ((24 : Int32) &&& 31)).toInt64)), .second, .val (.long (((i5 <<< ((24 : Int32) &&& 31)) >>> ((24 : Int32) &&& 31)).toInt64)), .second, .val (.long (((i5 <<< ((16 : Int32) &&& 31)) >>> ((24 : Int32) &&& 31)).toInt64)), .second, .val (.long ((i0.toInt64) + (((i4 <<< ((24 : Int32) &&& 31)) >>> ((24 : Int32) &&& 31)).toInt64))), .second, .val (.long ((i1.toInt64) + (((i5 <<< ((24 : Int32) &&& 31)) >>> ((24 : Int32) &&& 31)).toInt64))), .second, .val (.long (own_max (0 : Int64) (((i2 &&& (2147483647 : Int32)).toInt64) + (((i4 <<< ((16 : Int32) &&& 31)) >>> ((24 : Int32) &&& 31)).toInt64)))), .second, .val (.long (own_max (0 : Int64) (((i3 &&& (2147483647 : Int32)).toInt64) + (((i5 <<< ((16 : Int32) &&& 31)) >>> ((24 : Int32) &&& 31)).toInt64)))), .second, .val (.ref b5), .val (.ref b42), .unset] [(.long ((i0.toInt64) + ((i2 &&& (2147483647 : Int32)).toInt64))), (.long (((i0.toInt64) + (((i4 <<< ((24 : Int32) &&& 31)) >>> ((24 : Int32) &&& 31)).toInt64)) + (own_max (0 : Int64) (((i2 &&& (2147483647 : Int32)).toInt64) + (((i4 <<< ((16 : Int32) &&& 31)) >>> ((24 : Int32) &&& 31)).toInt64)))))])) _
    refine ownStep (X72.ldc2Long hx hown (mvT hZ (hw _ ow48)) (g := (mkF m 196 #[.val (.int i0), .val (.int i1), .val (.int i2), .val (.int i3), .val (.int i4), .val (.int i5), .val (.long (i0.toInt64)), .second, .val (.long (i1.toInt64)), .second, .val (.long ((i2 &&& (2147483647 : Int32)).toInt64)), .second, .val (.long ((i3 &&& (2147483647 : Int32)).toInt64)), .second, .val (.long (((i4 <<< ((24 : Int32) &&& 31)) >>> ((24 : Int32) &&& 31)).toInt64)), .second, .val (.long (((i4 <<< ((16 : Int32) &&& 31)) >>> ((24 : Int32) &&& 31)).toInt64)), .second, .val (.long (((i5 <<< ((24 : Int32) &&& 31)) >>> ((24 : Int32) &&& 31)).toInt64)), .second, .val (.long (((i5 <<< ((16 : Int32) &&& 31)) >>> ((24 : Int32) &&& 31)).toInt64)), .second, .val (.long ((i0.toInt64) + (((i4 <<< ((24 : Int32) &&& 31)) >>> ((24 : Int32) &&& 31)).toInt64))), .second, .val (.long ((i1.toInt64) + (((i5 <<< ((24 : Int32) &&& 31)) >>> ((24 : Int32) &&& 31)).toInt64))), .second, .val (.long (own_max (0 : Int64) (((i2 &&& (2147483647 : Int32)).toInt64) + (((i4 <<< ((16 : Int32) &&& 31)) >>> ((24 : Int32) &&& 31)).toInt64)))), .second, .val (.long (own_max (0 : Int64) (((i3 &&& (2147483647 : Int32)).toInt64) + (((i5 <<< ((16 : Int32) &&& 31)) >>> ((24 : Int32) &&& 31)).toInt64)))), .second, .val (.ref b5), .val (.ref b42), .unset] [(.long ((i0.toInt64) + ((i2 &&& (2147483647 : Int32)).toInt64))), (.long (((i0.toInt64) + (((i4 <<< ((24 : Int32) &&& 31)) >>> ((24 : Int32) &&& 31)).toInt64)) + (own_max (0 : Int64) (((i2 &&& (2147483647 : Int32)).toInt64) + (((i4 <<< ((16 : Int32) &&& 31)) >>> ((24 : Int32) &&& 31)).toInt64)))))])) rfl (hb hby at_196)) ?_
    refine ownStep (fun _ k => XS.ladd X72.here hx rfl (hb hby at_199) rfl k) ?_
    refine ownStep (fun _ k => XS.lcmp X72.here hx rfl (hb hby at_200) rfl k) ?_
    show ownGo p.tables e below (T72.setTop (mkF m 201 #[.val (.int i0), .val (.int i1), .val (.int i2), .val (.int i3), .val (.int i4), .val (.int i5), .val (.long (i0.toInt64)), .second, .val (.long (i1.toInt64)), .second, .val (.long ((i2 &&& (2147483647 : Int32)).toInt64)), .second, .val (.long ((i3 &&& (2147483647 : Int32)).toInt64)), .second, .val (.long (((i4 <<< ((24 : Int32) &&& 31)) >>> ((24 : Int32) &&& 31)).toInt64)), .second, .val (.long (((i4 <<< ((16 : Int32) &&& 31)) >>> ((24 : Int32) &&& 31)).toInt64)), .second, .val (.long (((i5 <<< ((24 : Int32) &&& 31)) >>> ((24 : Int32) &&& 31)).toInt64)), .second, .val (.long (((i5 <<< ((16 : Int32) &&& 31)) >>> ((24 : Int32) &&& 31)).toInt64)), .second, .val (.long ((i0.toInt64) + (((i4 <<< ((24 : Int32) &&& 31)) >>> ((24 : Int32) &&& 31)).toInt64))), .second, .val (.long ((i1.toInt64) + (((i5 <<< ((24 : Int32) &&& 31)) >>> ((24 : Int32) &&& 31)).toInt64))), .second, .val (.long (own_max (0 : Int64) (((i2 &&& (2147483647 : Int32)).toInt64) + (((i4 <<< ((16 : Int32) &&& 31)) >>> ((24 : Int32) &&& 31)).toInt64)))), .second, .val (.long (own_max (0 : Int64) (((i3 &&& (2147483647 : Int32)).toInt64) + (((i5 <<< ((16 : Int32) &&& 31)) >>> ((24 : Int32) &&& 31)).toInt64)))), .second, .val (.ref b5), .val (.ref b42), .unset] [(.int (lcmpW (((i0.toInt64) + (((i4 <<< ((24 : Int32) &&& 31)) >>> ((24 : Int32) &&& 31)).toInt64)) + (own_max (0 : Int64) (((i2 &&& (2147483647 : Int32)).toInt64) + (((i4 <<< ((16 : Int32) &&& 31)) >>> ((24 : Int32) &&& 31)).toInt64)))) (((i0.toInt64) + ((i2 &&& (2147483647 : Int32)).toInt64)) + (2 : Int64))))])) _
    by_cases hc201 : (0 : Int32) < (lcmpW (((i0.toInt64) + (((i4 <<< ((24 : Int32) &&& 31)) >>> ((24 : Int32) &&& 31)).toInt64)) + (own_max (0 : Int64) (((i2 &&& (2147483647 : Int32)).toInt64) + (((i4 <<< ((16 : Int32) &&& 31)) >>> ((24 : Int32) &&& 31)).toInt64)))) (((i0.toInt64) + ((i2 &&& (2147483647 : Int32)).toInt64)) + (2 : Int64)))
    · skip
      refine ownStep (fun _ k => XS.ifYes X72.here hx rfl (pc0 := 201) (pc' := 238) rfl (hb hby at_201) rfl ((if0 _ _).trans (tlt (hc201 : (0 : Int32) < (lcmpW (((i0.toInt64) + (((i4 <<< ((24 : Int32) &&& 31)) >>> ((24 : Int32) &&& 31)).toInt64)) + (own_max (0 : Int64) (((i2 &&& (2147483647 : Int32)).toInt64) + (((i4 <<< ((16 : Int32) &&& 31)) >>> ((24 : Int32) &&& 31)).toInt64)))) (((i0.toInt64) + ((i2 &&& (2147483647 : Int32)).toInt64)) + (2 : Int64))))).2.2.1) (by decide) (by decide) k) ?_
      refine ownStep (fun _ k => XS.iconst X72.here hx rfl (hb hby at_238) k) ?_
      refine ownStep (fun _ k => XS.istore X72.here hx rfl (hb hby at_239) rfl (l' := #[.val (.int i0), .val (.int i1), .val (.int i2), .val (.int i3), .val (.int i4), .val (.int i5), .val (.long (i0.toInt64)), .second, .val (.long (i1.toInt64)), .second, .val (.long ((i2 &&& (2147483647 : Int32)).toInt64)), .second, .val (.long ((i3 &&& (2147483647 : Int32)).toInt64)), .second, .val (.long (((i4 <<< ((24 : Int32) &&& 31)) >>> ((24 : Int32) &&& 31)).toInt64)), .second, .val (.long (((i4 <<< ((16 : Int32) &&& 31)) >>> ((24 : Int32) &&& 31)).toInt64)), .second, .val (.long (((i5 <<< ((24 : Int32) &&& 31)) >>> ((24 : Int32) &&& 31)).toInt64)), .second, .val (.long (((i5 <<< ((16 : Int32) &&& 31)) >>> ((24 : Int32) &&& 31)).toInt64)), .second, .val (.long ((i0.toInt64) + (((i4 <<< ((24 : Int32) &&& 31)) >>> ((24 : Int32) &&& 31)).toInt64))), .second, .val (.long ((i1.toInt64) + (((i5 <<< ((24 : Int32) &&& 31)) >>> ((24 : Int32) &&& 31)).toInt64))), .second, .val (.long (own_max (0 : Int64) (((i2 &&& (2147483647 : Int32)).toInt64) + (((i4 <<< ((16 : Int32) &&& 31)) >>> ((24 : Int32) &&& 31)).toInt64)))), .second, .val (.long (own_max (0 : Int64) (((i3 &&& (2147483647 : Int32)).toInt64) + (((i5 <<< ((16 : Int32) &&& 31)) >>> ((24 : Int32) &&& 31)).toInt64)))), .second, .val (.ref b5), .val (.ref b42), .val (.int (0 : Int32))]) rfl k) ?_
      refine ownStep (fun _ k => XS.aload X72.here hx rfl (hb hby at_241) rfl rfl k) ?_
      refine ownStep (fun _ k => XS.aload X72.here hx rfl (hb hby at_243) rfl rfl k) ?_
      show ownGo p.tables e below (T72.setTop (mkF m 245 #[.val (.int i0), .val (.int i1), .val (.int i2), .val (.int i3), .val (.int i4), .val (.int i5), .val (.long (i0.toInt64)), .second, .val (.long (i1.toInt64)), .second, .val (.long ((i2 &&& (2147483647 : Int32)).toInt64)), .second, .val (.long ((i3 &&& (2147483647 : Int32)).toInt64)), .second, .val (.long (((i4 <<< ((24 : Int32) &&& 31)) >>> ((24 : Int32) &&& 31)).toInt64)), .second, .val (.long (((i4 <<< ((16 : Int32) &&& 31)) >>> ((24 : Int32) &&& 31)).toInt64)), .second, .val (.long (((i5 <<< ((24 : Int32) &&& 31)) >>> ((24 : Int32) &&& 31)).toInt64)), .second, .val (.long (((i5 <<< ((16 : Int32) &&& 31)) >>> ((24 : Int32) &&& 31)).toInt64)), .second, .val (.long ((i0.toInt64) + (((i4 <<< ((24 : Int32) &&& 31)) >>> ((24 : Int32) &&& 31)).toInt64))), .second, .val (.long ((i1.toInt64) + (((i5 <<< ((24 : Int32) &&& 31)) >>> ((24 : Int32) &&& 31)).toInt64))), .second, .val (.long (own_max (0 : Int64) (((i2 &&& (2147483647 : Int32)).toInt64) + (((i4 <<< ((16 : Int32) &&& 31)) >>> ((24 : Int32) &&& 31)).toInt64)))), .second, .val (.long (own_max (0 : Int64) (((i3 &&& (2147483647 : Int32)).toInt64) + (((i5 <<< ((16 : Int32) &&& 31)) >>> ((24 : Int32) &&& 31)).toInt64)))), .second, .val (.ref b5), .val (.ref b42), .val (.int (0 : Int32))] [(.ref b42), (.ref b5)])) _
      have ne88 : b5 ≠ b48 := Nat.ne_of_lt (Nat.lt_of_lt_of_le (Nat.lt_of_lt_of_le P37.lt (Nat.le_trans (Nat.le_refl _) E42.1)) (Nat.le_of_eq g48.symm))
      have ne89 : b5 ≠ b42 := Nat.ne_of_lt (Nat.lt_of_lt_of_le (Nat.lt_of_lt_of_le P37.lt (Nat.le_refl _)) (Nat.le_of_eq g42.symm))
      have Q90 : Fld Z T72.heap b5 "com/example/adept_layout/adeptlayout/geometry/Box" "left" "D" (.double (own_uu (i0.toInt64))) := ((((P37.ext E42).ext E48).keep R56 (ninS ne88 nin0)).keep R72 (ninS ne89 nin0))
      have Q91 : Fld Z T72.heap b5 "com/example/adept_layout/adeptlayout/geometry/Box" "top" "D" (.double (own_uu (i1.toInt64))) := ((((P38.ext E42).ext E48).keep R56 (ninS ne88 nin0)).keep R72 (ninS ne89 nin0))
      have Q92 : Fld Z T72.heap b5 "com/example/adept_layout/adeptlayout/geometry/Box" "right" "D" (.double (FP.dadd (own_uu (i0.toInt64)) (own_uu ((i2 &&& (2147483647 : Int32)).toInt64)))) := ((((P39.ext E42).ext E48).keep R56 (ninS ne88 nin0)).keep R72 (ninS ne89 nin0))
      have Q93 : Fld Z T72.heap b5 "com/example/adept_layout/adeptlayout/geometry/Box" "bottom" "D" (.double (FP.dadd (own_uu (i1.toInt64)) (own_uu ((i3 &&& (2147483647 : Int32)).toInt64)))) := ((((P40.ext E42).ext E48).keep R56 (ninS ne88 nin0)).keep R72 (ninS ne89 nin0))
      have Zs95 : n0 ≤ T72.heap.size := Nat.le_trans Z0 KP78.1
      have Q96 : Exa Z T72.heap b5 "com/example/adept_layout/adeptlayout/geometry/Box" := (((((Q29.keep R35).ext E42).ext E48).keep R56).keep R72)
      obtain ⟨cq94, kq94, q94a, q94b, q94c⟩ := isOf hZ rfl Q96
      obtain ⟨_, _, ⟨T94, L94, k94, n94⟩, -, X94, ⟨Lc94, hQ94, l94, y94, z94⟩, st94⟩ := X72.virtualBack hx (y := (⟨"com/example/adept_layout/adeptlayout/geometry/Box", "contains", "(Lcom/example/adept_layout/adeptlayout/geometry/Box;)Z"⟩ : MethodName)) (z := (⟨"com/example/adept_layout/adeptlayout/geometry/Box", "contains", "(Lcom/example/adept_layout/adeptlayout/geometry/Box;)Z"⟩ : MethodName)) hown (mvT hZ (hw _ ow49)) (mvT hZ (hw _ ow50)) (notFace_of_selects (args := #[]) (mvT hZ (hw _ ow52))) (mvT hZ (hw _ ow52)) (mvT hZ (hw _ ow51)) (by decide) (backOf (W := 0) (own_ct l Z a0 hw [] b5 b42 (own_uu (i0.toInt64)) (own_uu (i1.toInt64)) (FP.dadd (own_uu (i0.toInt64)) (own_uu ((i2 &&& (2147483647 : Int32)).toInt64))) (FP.dadd (own_uu (i1.toInt64)) (own_uu ((i3 &&& (2147483647 : Int32)).toInt64))) (own_uu ((i0.toInt64) + (((i4 <<< ((24 : Int32) &&& 31)) >>> ((24 : Int32) &&& 31)).toInt64))) (own_uu ((i1.toInt64) + (((i5 <<< ((24 : Int32) &&& 31)) >>> ((24 : Int32) &&& 31)).toInt64))) (FP.dadd (own_uu ((i0.toInt64) + (((i4 <<< ((24 : Int32) &&& 31)) >>> ((24 : Int32) &&& 31)).toInt64))) (own_uu (own_max (0 : Int64) (((i2 &&& (2147483647 : Int32)).toInt64) + (((i4 <<< ((16 : Int32) &&& 31)) >>> ((24 : Int32) &&& 31)).toInt64))))) (FP.dadd (own_uu ((i1.toInt64) + (((i5 <<< ((24 : Int32) &&& 31)) >>> ((24 : Int32) &&& 31)).toInt64))) (own_uu (own_max (0 : Int64) (((i3 &&& (2147483647 : Int32)).toInt64) + (((i5 <<< ((16 : Int32) &&& 31)) >>> ((24 : Int32) &&& 31)).toInt64))))) T72.heap n0 Zs95 Q90 Q91 Q92 Q93 P74 P75 P76 P77 ax.2.2.1 ax.2.2.2.1 ay.2.2.1 ay.2.2.2.1) hZ (hw _ ow53) (hw _ ow7) (by decide) (by decide)) q94a q94c (g := (mkF m 245 #[.val (.int i0), .val (.int i1), .val (.int i2), .val (.int i3), .val (.int i4), .val (.int i5), .val (.long (i0.toInt64)), .second, .val (.long (i1.toInt64)), .second, .val (.long ((i2 &&& (2147483647 : Int32)).toInt64)), .second, .val (.long ((i3 &&& (2147483647 : Int32)).toInt64)), .second, .val (.long (((i4 <<< ((24 : Int32) &&& 31)) >>> ((24 : Int32) &&& 31)).toInt64)), .second, .val (.long (((i4 <<< ((16 : Int32) &&& 31)) >>> ((24 : Int32) &&& 31)).toInt64)), .second, .val (.long (((i5 <<< ((24 : Int32) &&& 31)) >>> ((24 : Int32) &&& 31)).toInt64)), .second, .val (.long (((i5 <<< ((16 : Int32) &&& 31)) >>> ((24 : Int32) &&& 31)).toInt64)), .second, .val (.long ((i0.toInt64) + (((i4 <<< ((24 : Int32) &&& 31)) >>> ((24 : Int32) &&& 31)).toInt64))), .second, .val (.long ((i1.toInt64) + (((i5 <<< ((24 : Int32) &&& 31)) >>> ((24 : Int32) &&& 31)).toInt64))), .second, .val (.long (own_max (0 : Int64) (((i2 &&& (2147483647 : Int32)).toInt64) + (((i4 <<< ((16 : Int32) &&& 31)) >>> ((24 : Int32) &&& 31)).toInt64)))), .second, .val (.long (own_max (0 : Int64) (((i3 &&& (2147483647 : Int32)).toInt64) + (((i5 <<< ((16 : Int32) &&& 31)) >>> ((24 : Int32) &&& 31)).toInt64)))), .second, .val (.ref b5), .val (.ref b42), .val (.int (0 : Int32))] [(.ref b42), (.ref b5)])) rfl (by rw [hml]; rfl) (Steps.refl _) (argsL := [(.ref b42)]) (rest := []) (lenOf own_law_pd4 rfl) rfl (by show 2 * 0 + _ ≤ _; exact Nat.le_of_eq rfl) (hb hby at_245) (fun _ _ => ⟨rfl, rfl, (by decide : 4 + 0 ≤ _), (by decide : 12 + 0 ≤ _)⟩)
      dsimp only [Pt.U, Pt.locs, Pt.cells, Pt.slots] at X94 l94 y94 z94 st94 hQ94
      obtain rfl : k94 = 4 := y94
      obtain rfl : n94 = 12 := z94
      obtain ⟨rfl, N94q, R94⟩ := hQ94
      have N94 : Fr n0 L94 := l94 ▸ Fr.app N72 N94q
      refine ownStep (fun _ k => st94.trans k) ?_
      refine ownStep (fun _ k => XS.iload X94.here hx rfl (hb hby at_248) rfl  k) ?_
      refine ownStep (fun _ k => XS.icmpNo X94.here hx rfl (hb hby at_250) rfl (teq (own_end0 ax.2.2.2.2.1 ax.2.2.2.2.2 ay.2.2.2.2.1 ay.2.2.2.2.2 (by first | exact Or.inl hc183 | exact Or.inr (Or.inl hc201) | exact Or.inr (Or.inr (Or.inl hc213)) | exact Or.inr (Or.inr (Or.inr hc231))) : (own_cont (own_uu (i0.toInt64)) (own_uu (i1.toInt64)) (FP.dadd (own_uu (i0.toInt64)) (own_uu ((i2 &&& (2147483647 : Int32)).toInt64))) (FP.dadd (own_uu (i1.toInt64)) (own_uu ((i3 &&& (2147483647 : Int32)).toInt64))) (own_uu ((i0.toInt64) + (((i4 <<< ((24 : Int32) &&& 31)) >>> ((24 : Int32) &&& 31)).toInt64))) (own_uu ((i1.toInt64) + (((i5 <<< ((24 : Int32) &&& 31)) >>> ((24 : Int32) &&& 31)).toInt64))) (FP.dadd (own_uu ((i0.toInt64) + (((i4 <<< ((24 : Int32) &&& 31)) >>> ((24 : Int32) &&& 31)).toInt64))) (own_uu (own_max (0 : Int64) (((i2 &&& (2147483647 : Int32)).toInt64) + (((i4 <<< ((16 : Int32) &&& 31)) >>> ((24 : Int32) &&& 31)).toInt64))))) (FP.dadd (own_uu ((i1.toInt64) + (((i5 <<< ((24 : Int32) &&& 31)) >>> ((24 : Int32) &&& 31)).toInt64))) (own_uu (own_max (0 : Int64) (((i3 &&& (2147483647 : Int32)).toInt64) + (((i5 <<< ((16 : Int32) &&& 31)) >>> ((24 : Int32) &&& 31)).toInt64)))))) = (0 : Int32))).2 k) ?_
      refine ownStep (fun _ k => XS.iconst X94.here hx rfl (hb hby at_253) k) ?_
      refine ownStep (fun _ k => XS.goto X94.here hx rfl (pc0 := 254) (pc' := 258) rfl (hb hby at_254) (by decide) (by decide) k) ?_
      show ownGo p.tables e below (T94.setTop (mkF m 258 #[.val (.int i0), .val (.int i1), .val (.int i2), .val (.int i3), .val (.int i4), .val (.int i5), .val (.long (i0.toInt64)), .second, .val (.long (i1.toInt64)), .second, .val (.long ((i2 &&& (2147483647 : Int32)).toInt64)), .second, .val (.long ((i3 &&& (2147483647 : Int32)).toInt64)), .second, .val (.long (((i4 <<< ((24 : Int32) &&& 31)) >>> ((24 : Int32) &&& 31)).toInt64)), .second, .val (.long (((i4 <<< ((16 : Int32) &&& 31)) >>> ((24 : Int32) &&& 31)).toInt64)), .second, .val (.long (((i5 <<< ((24 : Int32) &&& 31)) >>> ((24 : Int32) &&& 31)).toInt64)), .second, .val (.long (((i5 <<< ((16 : Int32) &&& 31)) >>> ((24 : Int32) &&& 31)).toInt64)), .second, .val (.long ((i0.toInt64) + (((i4 <<< ((24 : Int32) &&& 31)) >>> ((24 : Int32) &&& 31)).toInt64))), .second, .val (.long ((i1.toInt64) + (((i5 <<< ((24 : Int32) &&& 31)) >>> ((24 : Int32) &&& 31)).toInt64))), .second, .val (.long (own_max (0 : Int64) (((i2 &&& (2147483647 : Int32)).toInt64) + (((i4 <<< ((16 : Int32) &&& 31)) >>> ((24 : Int32) &&& 31)).toInt64)))), .second, .val (.long (own_max (0 : Int64) (((i3 &&& (2147483647 : Int32)).toInt64) + (((i5 <<< ((16 : Int32) &&& 31)) >>> ((24 : Int32) &&& 31)).toInt64)))), .second, .val (.ref b5), .val (.ref b42), .val (.int (0 : Int32))] [(.int (1 : Int32))])) _
      exact ownRet X94 (v := some (.int (1 : Int32))) Bd.notSynchronized (fun h => by rw [Bd.returns] at h; cases h) (fun _ hr => retN X94 hx (t := .boolean) Bd.returns (by simp) (hb hby at_258) hr) (by rw [R94]; exact ⟨rfl, N94, (own_extOf KP78)⟩) (by decide) (by decide)
    · skip
      refine ownStep (fun _ k => XS.ifNo X72.here hx rfl (hb hby at_201) rfl ((if0 _ _).trans (flt (hc201 : ¬ (0 : Int32) < (lcmpW (((i0.toInt64) + (((i4 <<< ((24 : Int32) &&& 31)) >>> ((24 : Int32) &&& 31)).toInt64)) + (own_max (0 : Int64) (((i2 &&& (2147483647 : Int32)).toInt64) + (((i4 <<< ((16 : Int32) &&& 31)) >>> ((24 : Int32) &&& 31)).toInt64)))) (((i0.toInt64) + ((i2 &&& (2147483647 : Int32)).toInt64)) + (2 : Int64))))).2.2.1) k) ?_
      refine ownStep (fun _ k => XS.lload X72.here hx rfl (hb hby at_204) rfl  k) ?_
      refine ownStep (fun _ k => XS.lload X72.here hx rfl (hb hby at_206) rfl  k) ?_
      show ownGo p.tables e below (T72.setTop (mkF m 208 #[.val (.int i0), .val (.int i1), .val (.int i2), .val (.int i3), .val (.int i4), .val (.int i5), .val (.long (i0.toInt64)), .second, .val (.long (i1.toInt64)), .second, .val (.long ((i2 &&& (2147483647 : Int32)).toInt64)), .second, .val (.long ((i3 &&& (2147483647 : Int32)).toInt64)), .second, .val (.long (((i4 <<< ((24 : Int32) &&& 31)) >>> ((24 : Int32) &&& 31)).toInt64)), .second, .val (.long (((i4 <<< ((16 : Int32) &&& 31)) >>> ((24 : Int32) &&& 31)).toInt64)), .second, .val (.long (((i5 <<< ((24 : Int32) &&& 31)) >>> ((24 : Int32) &&& 31)).toInt64)), .second, .val (.long (((i5 <<< ((16 : Int32) &&& 31)) >>> ((24 : Int32) &&& 31)).toInt64)), .second, .val (.long ((i0.toInt64) + (((i4 <<< ((24 : Int32) &&& 31)) >>> ((24 : Int32) &&& 31)).toInt64))), .second, .val (.long ((i1.toInt64) + (((i5 <<< ((24 : Int32) &&& 31)) >>> ((24 : Int32) &&& 31)).toInt64))), .second, .val (.long (own_max (0 : Int64) (((i2 &&& (2147483647 : Int32)).toInt64) + (((i4 <<< ((16 : Int32) &&& 31)) >>> ((24 : Int32) &&& 31)).toInt64)))), .second, .val (.long (own_max (0 : Int64) (((i3 &&& (2147483647 : Int32)).toInt64) + (((i5 <<< ((16 : Int32) &&& 31)) >>> ((24 : Int32) &&& 31)).toInt64)))), .second, .val (.ref b5), .val (.ref b42), .unset] [(.long (i1.toInt64)), (.long ((i1.toInt64) + (((i5 <<< ((24 : Int32) &&& 31)) >>> ((24 : Int32) &&& 31)).toInt64)))])) _
      refine ownStep (X72.ldc2Long hx hown (mvT hZ (hw _ ow48)) (g := (mkF m 208 #[.val (.int i0), .val (.int i1), .val (.int i2), .val (.int i3), .val (.int i4), .val (.int i5), .val (.long (i0.toInt64)), .second, .val (.long (i1.toInt64)), .second, .val (.long ((i2 &&& (2147483647 : Int32)).toInt64)), .second, .val (.long ((i3 &&& (2147483647 : Int32)).toInt64)), .second, .val (.long (((i4 <<< ((24 : Int32) &&& 31)) >>> ((24 : Int32) &&& 31)).toInt64)), .second, .val (.long (((i4 <<< ((16 : Int32) &&& 31)) >>> ((24 : Int32) &&& 31)).toInt64)), .second, .val (.long (((i5 <<< ((24 : Int32) &&& 31)) >>> ((24 : Int32) &&& 31)).toInt64)), .second, .val (.long (((i5 <<< ((16 : Int32) &&& 31)) >>> ((24 : Int32) &&& 31)).toInt64)), .second, .val (.long ((i0.toInt64) + (((i4 <<< ((24 : Int32) &&& 31)) >>> ((24 : Int32) &&& 31)).toInt64))), .second, .val (.long ((i1.toInt64) + (((i5 <<< ((24 : Int32) &&& 31)) >>> ((24 : Int32) &&& 31)).toInt64))), .second, .val (.long (own_max (0 : Int64) (((i2 &&& (2147483647 : Int32)).toInt64) + (((i4 <<< ((16 : Int32) &&& 31)) >>> ((24 : Int32) &&& 31)).toInt64)))), .second, .val (.long (own_max (0 : Int64) (((i3 &&& (2147483647 : Int32)).toInt64) + (((i5 <<< ((16 : Int32) &&& 31)) >>> ((24 : Int32) &&& 31)).toInt64)))), .second, .val (.ref b5), .val (.ref b42), .unset] [(.long (i1.toInt64)), (.long ((i1.toInt64) + (((i5 <<< ((24 : Int32) &&& 31)) >>> ((24 : Int32) &&& 31)).toInt64)))])) rfl (hb hby at_208)) ?_
      refine ownStep (fun _ k => XS.lsub X72.here hx rfl (hb hby at_211) rfl k) ?_
      refine ownStep (fun _ k => XS.lcmp X72.here hx rfl (hb hby at_212) rfl k) ?_
      show ownGo p.tables e below (T72.setTop (mkF m 213 #[.val (.int i0), .val (.int i1), .val (.int i2), .val (.int i3), .val (.int i4), .val (.int i5), .val (.long (i0.toInt64)), .second, .val (.long (i1.toInt64)), .second, .val (.long ((i2 &&& (2147483647 : Int32)).toInt64)), .second, .val (.long ((i3 &&& (2147483647 : Int32)).toInt64)), .second, .val (.long (((i4 <<< ((24 : Int32) &&& 31)) >>> ((24 : Int32) &&& 31)).toInt64)), .second, .val (.long (((i4 <<< ((16 : Int32) &&& 31)) >>> ((24 : Int32) &&& 31)).toInt64)), .second, .val (.long (((i5 <<< ((24 : Int32) &&& 31)) >>> ((24 : Int32) &&& 31)).toInt64)), .second, .val (.long (((i5 <<< ((16 : Int32) &&& 31)) >>> ((24 : Int32) &&& 31)).toInt64)), .second, .val (.long ((i0.toInt64) + (((i4 <<< ((24 : Int32) &&& 31)) >>> ((24 : Int32) &&& 31)).toInt64))), .second, .val (.long ((i1.toInt64) + (((i5 <<< ((24 : Int32) &&& 31)) >>> ((24 : Int32) &&& 31)).toInt64))), .second, .val (.long (own_max (0 : Int64) (((i2 &&& (2147483647 : Int32)).toInt64) + (((i4 <<< ((16 : Int32) &&& 31)) >>> ((24 : Int32) &&& 31)).toInt64)))), .second, .val (.long (own_max (0 : Int64) (((i3 &&& (2147483647 : Int32)).toInt64) + (((i5 <<< ((16 : Int32) &&& 31)) >>> ((24 : Int32) &&& 31)).toInt64)))), .second, .val (.ref b5), .val (.ref b42), .unset] [(.int (lcmpW ((i1.toInt64) + (((i5 <<< ((24 : Int32) &&& 31)) >>> ((24 : Int32) &&& 31)).toInt64)) ((i1.toInt64) - (2 : Int64))))])) _
      by_cases hc213 : (lcmpW ((i1.toInt64) + (((i5 <<< ((24 : Int32) &&& 31)) >>> ((24 : Int32) &&& 31)).toInt64)) ((i1.toInt64) - (2 : Int64))) < (0 : Int32)
      · skip
        refine ownStep (fun _ k => XS.ifYes X72.here hx rfl (pc0 := 213) (pc' := 238) rfl (hb hby at_213) rfl ((if0 _ _).trans (tlt (hc213 : (lcmpW ((i1.toInt64) + (((i5 <<< ((24 : Int32) &&& 31)) >>> ((24 : Int32) &&& 31)).toInt64)) ((i1.toInt64) - (2 : Int64))) < (0 : Int32))).1) (by decide) (by decide) k) ?_
        refine ownStep (fun _ k => XS.iconst X72.here hx rfl (hb hby at_238) k) ?_
        refine ownStep (fun _ k => XS.istore X72.here hx rfl (hb hby at_239) rfl (l' := #[.val (.int i0), .val (.int i1), .val (.int i2), .val (.int i3), .val (.int i4), .val (.int i5), .val (.long (i0.toInt64)), .second, .val (.long (i1.toInt64)), .second, .val (.long ((i2 &&& (2147483647 : Int32)).toInt64)), .second, .val (.long ((i3 &&& (2147483647 : Int32)).toInt64)), .second, .val (.long (((i4 <<< ((24 : Int32) &&& 31)) >>> ((24 : Int32) &&& 31)).toInt64)), .second, .val (.long (((i4 <<< ((16 : Int32) &&& 31)) >>> ((24 : Int32) &&& 31)).toInt64)), .second, .val (.long (((i5 <<< ((24 : Int32) &&& 31)) >>> ((24 : Int32) &&& 31)).toInt64)), .second, .val (.long (((i5 <<< ((16 : Int32) &&& 31)) >>> ((24 : Int32) &&& 31)).toInt64)), .second, .val (.long ((i0.toInt64) + (((i4 <<< ((24 : Int32) &&& 31)) >>> ((24 : Int32) &&& 31)).toInt64))), .second, .val (.long ((i1.toInt64) + (((i5 <<< ((24 : Int32) &&& 31)) >>> ((24 : Int32) &&& 31)).toInt64))), .second, .val (.long (own_max (0 : Int64) (((i2 &&& (2147483647 : Int32)).toInt64) + (((i4 <<< ((16 : Int32) &&& 31)) >>> ((24 : Int32) &&& 31)).toInt64)))), .second, .val (.long (own_max (0 : Int64) (((i3 &&& (2147483647 : Int32)).toInt64) + (((i5 <<< ((16 : Int32) &&& 31)) >>> ((24 : Int32) &&& 31)).toInt64)))), .second, .val (.ref b5), .val (.ref b42), .val (.int (0 : Int32))]) rfl k) ?_
        refine ownStep (fun _ k => XS.aload X72.here hx rfl (hb hby at_241) rfl rfl k) ?_
        refine ownStep (fun _ k => XS.aload X72.here hx rfl (hb hby at_243) rfl rfl k) ?_
        show ownGo p.tables e below (T72.setTop (mkF m 245 #[.val (.int i0), .val (.int i1), .val (.int i2), .val (.int i3), .val (.int i4), .val (.int i5), .val (.long (i0.toInt64)), .second, .val (.long (i1.toInt64)), .second, .val (.long ((i2 &&& (2147483647 : Int32)).toInt64)), .second, .val (.long ((i3 &&& (2147483647 : Int32)).toInt64)), .second, .val (.long (((i4 <<< ((24 : Int32) &&& 31)) >>> ((24 : Int32) &&& 31)).toInt64)), .second, .val (.long (((i4 <<< ((16 : Int32) &&& 31)) >>> ((24 : Int32) &&& 31)).toInt64)), .second, .val (.long (((i5 <<< ((24 : Int32) &&& 31)) >>> ((24 : Int32) &&& 31)).toInt64)), .second, .val (.long (((i5 <<< ((16 : Int32) &&& 31)) >>> ((24 : Int32) &&& 31)).toInt64)), .second, .val (.long ((i0.toInt64) + (((i4 <<< ((24 : Int32) &&& 31)) >>> ((24 : Int32) &&& 31)).toInt64))), .second, .val (.long ((i1.toInt64) + (((i5 <<< ((24 : Int32) &&& 31)) >>> ((24 : Int32) &&& 31)).toInt64))), .second, .val (.long (own_max (0 : Int64) (((i2 &&& (2147483647 : Int32)).toInt64) + (((i4 <<< ((16 : Int32) &&& 31)) >>> ((24 : Int32) &&& 31)).toInt64)))), .second, .val (.long (own_max (0 : Int64) (((i3 &&& (2147483647 : Int32)).toInt64) + (((i5 <<< ((16 : Int32) &&& 31)) >>> ((24 : Int32) &&& 31)).toInt64)))), .second, .val (.ref b5), .val (.ref b42), .val (.int (0 : Int32))] [(.ref b42), (.ref b5)])) _
        have ne97 : b5 ≠ b48 := Nat.ne_of_lt (Nat.lt_of_lt_of_le (Nat.lt_of_lt_of_le P37.lt (Nat.le_trans (Nat.le_refl _) E42.1)) (Nat.le_of_eq g48.symm))
        have ne98 : b5 ≠ b42 := Nat.ne_of_lt (Nat.lt_of_lt_of_le (Nat.lt_of_lt_of_le P37.lt (Nat.le_refl _)) (Nat.le_of_eq g42.symm))
        have Q99 : Fld Z T72.heap b5 "com/example/adept_layout/adeptlayout/geometry/Box" "left" "D" (.double (own_uu (i0.toInt64))) := ((((P37.ext E42).ext E48).keep R56 (ninS ne97 nin0)).keep R72 (ninS ne98 nin0))
        have Q100 : Fld Z T72.heap b5 "com/example/adept_layout/adeptlayout/geometry/Box" "top" "D" (.double (own_uu (i1.toInt64))) := ((((P38.ext E42).ext E48).keep R56 (ninS ne97 nin0)).keep R72 (ninS ne98 nin0))
        have Q101 : Fld Z T72.heap b5 "com/example/adept_layout/adeptlayout/geometry/Box" "right" "D" (.double (FP.dadd (own_uu (i0.toInt64)) (own_uu ((i2 &&& (2147483647 : Int32)).toInt64)))) := ((((P39.ext E42).ext E48).keep R56 (ninS ne97 nin0)).keep R72 (ninS ne98 nin0))
        have Q102 : Fld Z T72.heap b5 "com/example/adept_layout/adeptlayout/geometry/Box" "bottom" "D" (.double (FP.dadd (own_uu (i1.toInt64)) (own_uu ((i3 &&& (2147483647 : Int32)).toInt64)))) := ((((P40.ext E42).ext E48).keep R56 (ninS ne97 nin0)).keep R72 (ninS ne98 nin0))
        have Zs104 : n0 ≤ T72.heap.size := Nat.le_trans Z0 KP78.1
        have Q105 : Exa Z T72.heap b5 "com/example/adept_layout/adeptlayout/geometry/Box" := (((((Q29.keep R35).ext E42).ext E48).keep R56).keep R72)
        obtain ⟨cq103, kq103, q103a, q103b, q103c⟩ := isOf hZ rfl Q105
        obtain ⟨_, _, ⟨T103, L103, k103, n103⟩, -, X103, ⟨Lc103, hQ103, l103, y103, z103⟩, st103⟩ := X72.virtualBack hx (y := (⟨"com/example/adept_layout/adeptlayout/geometry/Box", "contains", "(Lcom/example/adept_layout/adeptlayout/geometry/Box;)Z"⟩ : MethodName)) (z := (⟨"com/example/adept_layout/adeptlayout/geometry/Box", "contains", "(Lcom/example/adept_layout/adeptlayout/geometry/Box;)Z"⟩ : MethodName)) hown (mvT hZ (hw _ ow49)) (mvT hZ (hw _ ow50)) (notFace_of_selects (args := #[]) (mvT hZ (hw _ ow52))) (mvT hZ (hw _ ow52)) (mvT hZ (hw _ ow51)) (by decide) (backOf (W := 0) (own_ct l Z a0 hw [] b5 b42 (own_uu (i0.toInt64)) (own_uu (i1.toInt64)) (FP.dadd (own_uu (i0.toInt64)) (own_uu ((i2 &&& (2147483647 : Int32)).toInt64))) (FP.dadd (own_uu (i1.toInt64)) (own_uu ((i3 &&& (2147483647 : Int32)).toInt64))) (own_uu ((i0.toInt64) + (((i4 <<< ((24 : Int32) &&& 31)) >>> ((24 : Int32) &&& 31)).toInt64))) (own_uu ((i1.toInt64) + (((i5 <<< ((24 : Int32) &&& 31)) >>> ((24 : Int32) &&& 31)).toInt64))) (FP.dadd (own_uu ((i0.toInt64) + (((i4 <<< ((24 : Int32) &&& 31)) >>> ((24 : Int32) &&& 31)).toInt64))) (own_uu (own_max (0 : Int64) (((i2 &&& (2147483647 : Int32)).toInt64) + (((i4 <<< ((16 : Int32) &&& 31)) >>> ((24 : Int32) &&& 31)).toInt64))))) (FP.dadd (own_uu ((i1.toInt64) + (((i5 <<< ((24 : Int32) &&& 31)) >>> ((24 : Int32) &&& 31)).toInt64))) (own_uu (own_max (0 : Int64) (((i3 &&& (2147483647 : Int32)).toInt64) + (((i5 <<< ((16 : Int32) &&& 31)) >>> ((24 : Int32) &&& 31)).toInt64))))) T72.heap n0 Zs104 Q99 Q100 Q101 Q102 P74 P75 P76 P77 ax.2.2.1 ax.2.2.2.1 ay.2.2.1 ay.2.2.2.1) hZ (hw _ ow53) (hw _ ow7) (by decide) (by decide)) q103a q103c (g := (mkF m 245 #[.val (.int i0), .val (.int i1), .val (.int i2), .val (.int i3), .val (.int i4), .val (.int i5), .val (.long (i0.toInt64)), .second, .val (.long (i1.toInt64)), .second, .val (.long ((i2 &&& (2147483647 : Int32)).toInt64)), .second, .val (.long ((i3 &&& (2147483647 : Int32)).toInt64)), .second, .val (.long (((i4 <<< ((24 : Int32) &&& 31)) >>> ((24 : Int32) &&& 31)).toInt64)), .second, .val (.long (((i4 <<< ((16 : Int32) &&& 31)) >>> ((24 : Int32) &&& 31)).toInt64)), .second, .val (.long (((i5 <<< ((24 : Int32) &&& 31)) >>> ((24 : Int32) &&& 31)).toInt64)), .second, .val (.long (((i5 <<< ((16 : Int32) &&& 31)) >>> ((24 : Int32) &&& 31)).toInt64)), .second, .val (.long ((i0.toInt64) + (((i4 <<< ((24 : Int32) &&& 31)) >>> ((24 : Int32) &&& 31)).toInt64))), .second, .val (.long ((i1.toInt64) + (((i5 <<< ((24 : Int32) &&& 31)) >>> ((24 : Int32) &&& 31)).toInt64))), .second, .val (.long (own_max (0 : Int64) (((i2 &&& (2147483647 : Int32)).toInt64) + (((i4 <<< ((16 : Int32) &&& 31)) >>> ((24 : Int32) &&& 31)).toInt64)))), .second, .val (.long (own_max (0 : Int64) (((i3 &&& (2147483647 : Int32)).toInt64) + (((i5 <<< ((16 : Int32) &&& 31)) >>> ((24 : Int32) &&& 31)).toInt64)))), .second, .val (.ref b5), .val (.ref b42), .val (.int (0 : Int32))] [(.ref b42), (.ref b5)])) rfl (by rw [hml]; rfl) (Steps.refl _) (argsL := [(.ref b42)]) (rest := []) (lenOf own_law_pd4 rfl) rfl (by show 2 * 0 + _ ≤ _; exact Nat.le_of_eq rfl) (hb hby at_245) (fun _ _ => ⟨rfl, rfl, (by decide : 4 + 0 ≤ _), (by decide : 12 + 0 ≤ _)⟩)
        dsimp only [Pt.U, Pt.locs, Pt.cells, Pt.slots] at X103 l103 y103 z103 st103 hQ103
        obtain rfl : k103 = 4 := y103
        obtain rfl : n103 = 12 := z103
        obtain ⟨rfl, N103q, R103⟩ := hQ103
        have N103 : Fr n0 L103 := l103 ▸ Fr.app N72 N103q
        refine ownStep (fun _ k => st103.trans k) ?_
        refine ownStep (fun _ k => XS.iload X103.here hx rfl (hb hby at_248) rfl  k) ?_
        refine ownStep (fun _ k => XS.icmpNo X103.here hx rfl (hb hby at_250) rfl (teq (own_end0 ax.2.2.2.2.1 ax.2.2.2.2.2 ay.2.2.2.2.1 ay.2.2.2.2.2 (by first | exact Or.inl hc183 | exact Or.inr (Or.inl hc201) | exact Or.inr (Or.inr (Or.inl hc213)) | exact Or.inr (Or.inr (Or.inr hc231))) : (own_cont (own_uu (i0.toInt64)) (own_uu (i1.toInt64)) (FP.dadd (own_uu (i0.toInt64)) (own_uu ((i2 &&& (2147483647 : Int32)).toInt64))) (FP.dadd (own_uu (i1.toInt64)) (own_uu ((i3 &&& (2147483647 : Int32)).toInt64))) (own_uu ((i0.toInt64) + (((i4 <<< ((24 : Int32) &&& 31)) >>> ((24 : Int32) &&& 31)).toInt64))) (own_uu ((i1.toInt64) + (((i5 <<< ((24 : Int32) &&& 31)) >>> ((24 : Int32) &&& 31)).toInt64))) (FP.dadd (own_uu ((i0.toInt64) + (((i4 <<< ((24 : Int32) &&& 31)) >>> ((24 : Int32) &&& 31)).toInt64))) (own_uu (own_max (0 : Int64) (((i2 &&& (2147483647 : Int32)).toInt64) + (((i4 <<< ((16 : Int32) &&& 31)) >>> ((24 : Int32) &&& 31)).toInt64))))) (FP.dadd (own_uu ((i1.toInt64) + (((i5 <<< ((24 : Int32) &&& 31)) >>> ((24 : Int32) &&& 31)).toInt64))) (own_uu (own_max (0 : Int64) (((i3 &&& (2147483647 : Int32)).toInt64) + (((i5 <<< ((16 : Int32) &&& 31)) >>> ((24 : Int32) &&& 31)).toInt64)))))) = (0 : Int32))).2 k) ?_
        refine ownStep (fun _ k => XS.iconst X103.here hx rfl (hb hby at_253) k) ?_
        refine ownStep (fun _ k => XS.goto X103.here hx rfl (pc0 := 254) (pc' := 258) rfl (hb hby at_254) (by decide) (by decide) k) ?_
        show ownGo p.tables e below (T103.setTop (mkF m 258 #[.val (.int i0), .val (.int i1), .val (.int i2), .val (.int i3), .val (.int i4), .val (.int i5), .val (.long (i0.toInt64)), .second, .val (.long (i1.toInt64)), .second, .val (.long ((i2 &&& (2147483647 : Int32)).toInt64)), .second, .val (.long ((i3 &&& (2147483647 : Int32)).toInt64)), .second, .val (.long (((i4 <<< ((24 : Int32) &&& 31)) >>> ((24 : Int32) &&& 31)).toInt64)), .second, .val (.long (((i4 <<< ((16 : Int32) &&& 31)) >>> ((24 : Int32) &&& 31)).toInt64)), .second, .val (.long (((i5 <<< ((24 : Int32) &&& 31)) >>> ((24 : Int32) &&& 31)).toInt64)), .second, .val (.long (((i5 <<< ((16 : Int32) &&& 31)) >>> ((24 : Int32) &&& 31)).toInt64)), .second, .val (.long ((i0.toInt64) + (((i4 <<< ((24 : Int32) &&& 31)) >>> ((24 : Int32) &&& 31)).toInt64))), .second, .val (.long ((i1.toInt64) + (((i5 <<< ((24 : Int32) &&& 31)) >>> ((24 : Int32) &&& 31)).toInt64))), .second, .val (.long (own_max (0 : Int64) (((i2 &&& (2147483647 : Int32)).toInt64) + (((i4 <<< ((16 : Int32) &&& 31)) >>> ((24 : Int32) &&& 31)).toInt64)))), .second, .val (.long (own_max (0 : Int64) (((i3 &&& (2147483647 : Int32)).toInt64) + (((i5 <<< ((16 : Int32) &&& 31)) >>> ((24 : Int32) &&& 31)).toInt64)))), .second, .val (.ref b5), .val (.ref b42), .val (.int (0 : Int32))] [(.int (1 : Int32))])) _
        exact ownRet X103 (v := some (.int (1 : Int32))) Bd.notSynchronized (fun h => by rw [Bd.returns] at h; cases h) (fun _ hr => retN X103 hx (t := .boolean) Bd.returns (by simp) (hb hby at_258) hr) (by rw [R103]; exact ⟨rfl, N103, (own_extOf KP78)⟩) (by decide) (by decide)
      · skip
        refine ownStep (fun _ k => XS.ifNo X72.here hx rfl (hb hby at_213) rfl ((if0 _ _).trans (flt (hc213 : ¬ (lcmpW ((i1.toInt64) + (((i5 <<< ((24 : Int32) &&& 31)) >>> ((24 : Int32) &&& 31)).toInt64)) ((i1.toInt64) - (2 : Int64))) < (0 : Int32))).1) k) ?_
        refine ownStep (fun _ k => XS.lload X72.here hx rfl (hb hby at_216) rfl  k) ?_
        refine ownStep (fun _ k => XS.lload X72.here hx rfl (hb hby at_218) rfl  k) ?_
        refine ownStep (fun _ k => XS.ladd X72.here hx rfl (hb hby at_220) rfl k) ?_
        refine ownStep (fun _ k => XS.lload X72.here hx rfl (hb hby at_221) rfl  k) ?_
        refine ownStep (fun _ k => XS.lload X72.here hx rfl (hb hby at_223) rfl  k) ?_
        refine ownStep (fun _ k => XS.ladd X72.here hx rfl (hb hby at_225) rfl k) ?_
        show ownGo p.tables e below (T72.setTop (mkF m 226 #[.val (.int i0), .val (.int i1), .val (.int i2), .val (.int i3), .val (.int i4), .val (.int i5), .val (.long (i0.toInt64)), .second, .val (.long (i1.toInt64)), .second, .val (.long ((i2 &&& (2147483647 : Int32)).toInt64)), .second, .val (.long ((i3 &&& (2147483647 : Int32)).toInt64)), .second, .val (.long (((i4 <<< ((24 : Int32) &&& 31)) >>> ((24 : Int32) &&& 31)).toInt64)), .second, .val (.long (((i4 <<< ((16 : Int32) &&& 31)) >>> ((24 : Int32) &&& 31)).toInt64)), .second, .val (.long (((i5 <<< ((24 : Int32) &&& 31)) >>> ((24 : Int32) &&& 31)).toInt64)), .second, .val (.long (((i5 <<< ((16 : Int32) &&& 31)) >>> ((24 : Int32) &&& 31)).toInt64)), .second, .val (.long ((i0.toInt64) + (((i4 <<< ((24 : Int32) &&& 31)) >>> ((24 : Int32) &&& 31)).toInt64))), .second, .val (.long ((i1.toInt64) + (((i5 <<< ((24 : Int32) &&& 31)) >>> ((24 : Int32) &&& 31)).toInt64))), .second, .val (.long (own_max (0 : Int64) (((i2 &&& (2147483647 : Int32)).toInt64) + (((i4 <<< ((16 : Int32) &&& 31)) >>> ((24 : Int32) &&& 31)).toInt64)))), .second, .val (.long (own_max (0 : Int64) (((i3 &&& (2147483647 : Int32)).toInt64) + (((i5 <<< ((16 : Int32) &&& 31)) >>> ((24 : Int32) &&& 31)).toInt64)))), .second, .val (.ref b5), .val (.ref b42), .unset] [(.long ((i1.toInt64) + ((i3 &&& (2147483647 : Int32)).toInt64))), (.long (((i1.toInt64) + (((i5 <<< ((24 : Int32) &&& 31)) >>> ((24 : Int32) &&& 31)).toInt64)) + (own_max (0 : Int64) (((i3 &&& (2147483647 : Int32)).toInt64) + (((i5 <<< ((16 : Int32) &&& 31)) >>> ((24 : Int32) &&& 31)).toInt64)))))])) _
        refine ownStep (X72.ldc2Long hx hown (mvT hZ (hw _ ow48)) (g := (mkF m 226 #[.val (.int i0), .val (.int i1), .val (.int i2), .val (.int i3), .val (.int i4), .val (.int i5), .val (.long (i0.toInt64)), .second, .val (.long (i1.toInt64)), .second, .val (.long ((i2 &&& (2147483647 : Int32)).toInt64)), .second, .val (.long ((i3 &&& (2147483647 : Int32)).toInt64)), .second, .val (.long (((i4 <<< ((24 : Int32) &&& 31)) >>> ((24 : Int32) &&& 31)).toInt64)), .second, .val (.long (((i4 <<< ((16 : Int32) &&& 31)) >>> ((24 : Int32) &&& 31)).toInt64)), .second, .val (.long (((i5 <<< ((24 : Int32) &&& 31)) >>> ((24 : Int32) &&& 31)).toInt64)), .second, .val (.long (((i5 <<< ((16 : Int32) &&& 31)) >>> ((24 : Int32) &&& 31)).toInt64)), .second, .val (.long ((i0.toInt64) + (((i4 <<< ((24 : Int32) &&& 31)) >>> ((24 : Int32) &&& 31)).toInt64))), .second, .val (.long ((i1.toInt64) + (((i5 <<< ((24 : Int32) &&& 31)) >>> ((24 : Int32) &&& 31)).toInt64))), .second, .val (.long (own_max (0 : Int64) (((i2 &&& (2147483647 : Int32)).toInt64) + (((i4 <<< ((16 : Int32) &&& 31)) >>> ((24 : Int32) &&& 31)).toInt64)))), .second, .val (.long (own_max (0 : Int64) (((i3 &&& (2147483647 : Int32)).toInt64) + (((i5 <<< ((16 : Int32) &&& 31)) >>> ((24 : Int32) &&& 31)).toInt64)))), .second, .val (.ref b5), .val (.ref b42), .unset] [(.long ((i1.toInt64) + ((i3 &&& (2147483647 : Int32)).toInt64))), (.long (((i1.toInt64) + (((i5 <<< ((24 : Int32) &&& 31)) >>> ((24 : Int32) &&& 31)).toInt64)) + (own_max (0 : Int64) (((i3 &&& (2147483647 : Int32)).toInt64) + (((i5 <<< ((16 : Int32) &&& 31)) >>> ((24 : Int32) &&& 31)).toInt64)))))])) rfl (hb hby at_226)) ?_
        refine ownStep (fun _ k => XS.ladd X72.here hx rfl (hb hby at_229) rfl k) ?_
        refine ownStep (fun _ k => XS.lcmp X72.here hx rfl (hb hby at_230) rfl k) ?_
        show ownGo p.tables e below (T72.setTop (mkF m 231 #[.val (.int i0), .val (.int i1), .val (.int i2), .val (.int i3), .val (.int i4), .val (.int i5), .val (.long (i0.toInt64)), .second, .val (.long (i1.toInt64)), .second, .val (.long ((i2 &&& (2147483647 : Int32)).toInt64)), .second, .val (.long ((i3 &&& (2147483647 : Int32)).toInt64)), .second, .val (.long (((i4 <<< ((24 : Int32) &&& 31)) >>> ((24 : Int32) &&& 31)).toInt64)), .second, .val (.long (((i4 <<< ((16 : Int32) &&& 31)) >>> ((24 : Int32) &&& 31)).toInt64)), .second, .val (.long (((i5 <<< ((24 : Int32) &&& 31)) >>> ((24 : Int32) &&& 31)).toInt64)), .second, .val (.long (((i5 <<< ((16 : Int32) &&& 31)) >>> ((24 : Int32) &&& 31)).toInt64)), .second, .val (.long ((i0.toInt64) + (((i4 <<< ((24 : Int32) &&& 31)) >>> ((24 : Int32) &&& 31)).toInt64))), .second, .val (.long ((i1.toInt64) + (((i5 <<< ((24 : Int32) &&& 31)) >>> ((24 : Int32) &&& 31)).toInt64))), .second, .val (.long (own_max (0 : Int64) (((i2 &&& (2147483647 : Int32)).toInt64) + (((i4 <<< ((16 : Int32) &&& 31)) >>> ((24 : Int32) &&& 31)).toInt64)))), .second, .val (.long (own_max (0 : Int64) (((i3 &&& (2147483647 : Int32)).toInt64) + (((i5 <<< ((16 : Int32) &&& 31)) >>> ((24 : Int32) &&& 31)).toInt64)))), .second, .val (.ref b5), .val (.ref b42), .unset] [(.int (lcmpW (((i1.toInt64) + (((i5 <<< ((24 : Int32) &&& 31)) >>> ((24 : Int32) &&& 31)).toInt64)) + (own_max (0 : Int64) (((i3 &&& (2147483647 : Int32)).toInt64) + (((i5 <<< ((16 : Int32) &&& 31)) >>> ((24 : Int32) &&& 31)).toInt64)))) (((i1.toInt64) + ((i3 &&& (2147483647 : Int32)).toInt64)) + (2 : Int64))))])) _
        by_cases hc231 : (0 : Int32) < (lcmpW (((i1.toInt64) + (((i5 <<< ((24 : Int32) &&& 31)) >>> ((24 : Int32) &&& 31)).toInt64)) + (own_max (0 : Int64) (((i3 &&& (2147483647 : Int32)).toInt64) + (((i5 <<< ((16 : Int32) &&& 31)) >>> ((24 : Int32) &&& 31)).toInt64)))) (((i1.toInt64) + ((i3 &&& (2147483647 : Int32)).toInt64)) + (2 : Int64)))
        · skip
          refine ownStep (fun _ k => XS.ifYes X72.here hx rfl (pc0 := 231) (pc' := 238) rfl (hb hby at_231) rfl ((if0 _ _).trans (tlt (hc231 : (0 : Int32) < (lcmpW (((i1.toInt64) + (((i5 <<< ((24 : Int32) &&& 31)) >>> ((24 : Int32) &&& 31)).toInt64)) + (own_max (0 : Int64) (((i3 &&& (2147483647 : Int32)).toInt64) + (((i5 <<< ((16 : Int32) &&& 31)) >>> ((24 : Int32) &&& 31)).toInt64)))) (((i1.toInt64) + ((i3 &&& (2147483647 : Int32)).toInt64)) + (2 : Int64))))).2.2.1) (by decide) (by decide) k) ?_
          refine ownStep (fun _ k => XS.iconst X72.here hx rfl (hb hby at_238) k) ?_
          refine ownStep (fun _ k => XS.istore X72.here hx rfl (hb hby at_239) rfl (l' := #[.val (.int i0), .val (.int i1), .val (.int i2), .val (.int i3), .val (.int i4), .val (.int i5), .val (.long (i0.toInt64)), .second, .val (.long (i1.toInt64)), .second, .val (.long ((i2 &&& (2147483647 : Int32)).toInt64)), .second, .val (.long ((i3 &&& (2147483647 : Int32)).toInt64)), .second, .val (.long (((i4 <<< ((24 : Int32) &&& 31)) >>> ((24 : Int32) &&& 31)).toInt64)), .second, .val (.long (((i4 <<< ((16 : Int32) &&& 31)) >>> ((24 : Int32) &&& 31)).toInt64)), .second, .val (.long (((i5 <<< ((24 : Int32) &&& 31)) >>> ((24 : Int32) &&& 31)).toInt64)), .second, .val (.long (((i5 <<< ((16 : Int32) &&& 31)) >>> ((24 : Int32) &&& 31)).toInt64)), .second, .val (.long ((i0.toInt64) + (((i4 <<< ((24 : Int32) &&& 31)) >>> ((24 : Int32) &&& 31)).toInt64))), .second, .val (.long ((i1.toInt64) + (((i5 <<< ((24 : Int32) &&& 31)) >>> ((24 : Int32) &&& 31)).toInt64))), .second, .val (.long (own_max (0 : Int64) (((i2 &&& (2147483647 : Int32)).toInt64) + (((i4 <<< ((16 : Int32) &&& 31)) >>> ((24 : Int32) &&& 31)).toInt64)))), .second, .val (.long (own_max (0 : Int64) (((i3 &&& (2147483647 : Int32)).toInt64) + (((i5 <<< ((16 : Int32) &&& 31)) >>> ((24 : Int32) &&& 31)).toInt64)))), .second, .val (.ref b5), .val (.ref b42), .val (.int (0 : Int32))]) rfl k) ?_
          refine ownStep (fun _ k => XS.aload X72.here hx rfl (hb hby at_241) rfl rfl k) ?_
          refine ownStep (fun _ k => XS.aload X72.here hx rfl (hb hby at_243) rfl rfl k) ?_
          show ownGo p.tables e below (T72.setTop (mkF m 245 #[.val (.int i0), .val (.int i1), .val (.int i2), .val (.int i3), .val (.int i4), .val (.int i5), .val (.long (i0.toInt64)), .second, .val (.long (i1.toInt64)), .second, .val (.long ((i2 &&& (2147483647 : Int32)).toInt64)), .second, .val (.long ((i3 &&& (2147483647 : Int32)).toInt64)), .second, .val (.long (((i4 <<< ((24 : Int32) &&& 31)) >>> ((24 : Int32) &&& 31)).toInt64)), .second, .val (.long (((i4 <<< ((16 : Int32) &&& 31)) >>> ((24 : Int32) &&& 31)).toInt64)), .second, .val (.long (((i5 <<< ((24 : Int32) &&& 31)) >>> ((24 : Int32) &&& 31)).toInt64)), .second, .val (.long (((i5 <<< ((16 : Int32) &&& 31)) >>> ((24 : Int32) &&& 31)).toInt64)), .second, .val (.long ((i0.toInt64) + (((i4 <<< ((24 : Int32) &&& 31)) >>> ((24 : Int32) &&& 31)).toInt64))), .second, .val (.long ((i1.toInt64) + (((i5 <<< ((24 : Int32) &&& 31)) >>> ((24 : Int32) &&& 31)).toInt64))), .second, .val (.long (own_max (0 : Int64) (((i2 &&& (2147483647 : Int32)).toInt64) + (((i4 <<< ((16 : Int32) &&& 31)) >>> ((24 : Int32) &&& 31)).toInt64)))), .second, .val (.long (own_max (0 : Int64) (((i3 &&& (2147483647 : Int32)).toInt64) + (((i5 <<< ((16 : Int32) &&& 31)) >>> ((24 : Int32) &&& 31)).toInt64)))), .second, .val (.ref b5), .val (.ref b42), .val (.int (0 : Int32))] [(.ref b42), (.ref b5)])) _
          have ne106 : b5 ≠ b48 := Nat.ne_of_lt (Nat.lt_of_lt_of_le (Nat.lt_of_lt_of_le P37.lt (Nat.le_trans (Nat.le_refl _) E42.1)) (Nat.le_of_eq g48.symm))
          have ne107 : b5 ≠ b42 := Nat.ne_of_lt (Nat.lt_of_lt_of_le (Nat.lt_of_lt_of_le P37.lt (Nat.le_refl _)) (Nat.le_of_eq g42.symm))
          have Q108 : Fld Z T72.heap b5 "com/example/adept_layout/adeptlayout/geometry/Box" "left" "D" (.double (own_uu (i0.toInt64))) := ((((P37.ext E42).ext E48).keep R56 (ninS ne106 nin0)).keep R72 (ninS ne107 nin0))
          have Q109 : Fld Z T72.heap b5 "com/example/adept_layout/adeptlayout/geometry/Box" "top" "D" (.double (own_uu (i1.toInt64))) := ((((P38.ext E42).ext E48).keep R56 (ninS ne106 nin0)).keep R72 (ninS ne107 nin0))
          have Q110 : Fld Z T72.heap b5 "com/example/adept_layout/adeptlayout/geometry/Box" "right" "D" (.double (FP.dadd (own_uu (i0.toInt64)) (own_uu ((i2 &&& (2147483647 : Int32)).toInt64)))) := ((((P39.ext E42).ext E48).keep R56 (ninS ne106 nin0)).keep R72 (ninS ne107 nin0))
          have Q111 : Fld Z T72.heap b5 "com/example/adept_layout/adeptlayout/geometry/Box" "bottom" "D" (.double (FP.dadd (own_uu (i1.toInt64)) (own_uu ((i3 &&& (2147483647 : Int32)).toInt64)))) := ((((P40.ext E42).ext E48).keep R56 (ninS ne106 nin0)).keep R72 (ninS ne107 nin0))
          have Zs113 : n0 ≤ T72.heap.size := Nat.le_trans Z0 KP78.1
          have Q114 : Exa Z T72.heap b5 "com/example/adept_layout/adeptlayout/geometry/Box" := (((((Q29.keep R35).ext E42).ext E48).keep R56).keep R72)
          obtain ⟨cq112, kq112, q112a, q112b, q112c⟩ := isOf hZ rfl Q114
          obtain ⟨_, _, ⟨T112, L112, k112, n112⟩, -, X112, ⟨Lc112, hQ112, l112, y112, z112⟩, st112⟩ := X72.virtualBack hx (y := (⟨"com/example/adept_layout/adeptlayout/geometry/Box", "contains", "(Lcom/example/adept_layout/adeptlayout/geometry/Box;)Z"⟩ : MethodName)) (z := (⟨"com/example/adept_layout/adeptlayout/geometry/Box", "contains", "(Lcom/example/adept_layout/adeptlayout/geometry/Box;)Z"⟩ : MethodName)) hown (mvT hZ (hw _ ow49)) (mvT hZ (hw _ ow50)) (notFace_of_selects (args := #[]) (mvT hZ (hw _ ow52))) (mvT hZ (hw _ ow52)) (mvT hZ (hw _ ow51)) (by decide) (backOf (W := 0) (own_ct l Z a0 hw [] b5 b42 (own_uu (i0.toInt64)) (own_uu (i1.toInt64)) (FP.dadd (own_uu (i0.toInt64)) (own_uu ((i2 &&& (2147483647 : Int32)).toInt64))) (FP.dadd (own_uu (i1.toInt64)) (own_uu ((i3 &&& (2147483647 : Int32)).toInt64))) (own_uu ((i0.toInt64) + (((i4 <<< ((24 : Int32) &&& 31)) >>> ((24 : Int32) &&& 31)).toInt64))) (own_uu ((i1.toInt64) + (((i5 <<< ((24 : Int32) &&& 31)) >>> ((24 : Int32) &&& 31)).toInt64))) (FP.dadd (own_uu ((i0.toInt64) + (((i4 <<< ((24 : Int32) &&& 31)) >>> ((24 : Int32) &&& 31)).toInt64))) (own_uu (own_max (0 : Int64) (((i2 &&& (2147483647 : Int32)).toInt64) + (((i4 <<< ((16 : Int32) &&& 31)) >>> ((24 : Int32) &&& 31)).toInt64))))) (FP.dadd (own_uu ((i1.toInt64) + (((i5 <<< ((24 : Int32) &&& 31)) >>> ((24 : Int32) &&& 31)).toInt64))) (own_uu (own_max (0 : Int64) (((i3 &&& (2147483647 : Int32)).toInt64) + (((i5 <<< ((16 : Int32) &&& 31)) >>> ((24 : Int32) &&& 31)).toInt64))))) T72.heap n0 Zs113 Q108 Q109 Q110 Q111 P74 P75 P76 P77 ax.2.2.1 ax.2.2.2.1 ay.2.2.1 ay.2.2.2.1) hZ (hw _ ow53) (hw _ ow7) (by decide) (by decide)) q112a q112c (g := (mkF m 245 #[.val (.int i0), .val (.int i1), .val (.int i2), .val (.int i3), .val (.int i4), .val (.int i5), .val (.long (i0.toInt64)), .second, .val (.long (i1.toInt64)), .second, .val (.long ((i2 &&& (2147483647 : Int32)).toInt64)), .second, .val (.long ((i3 &&& (2147483647 : Int32)).toInt64)), .second, .val (.long (((i4 <<< ((24 : Int32) &&& 31)) >>> ((24 : Int32) &&& 31)).toInt64)), .second, .val (.long (((i4 <<< ((16 : Int32) &&& 31)) >>> ((24 : Int32) &&& 31)).toInt64)), .second, .val (.long (((i5 <<< ((24 : Int32) &&& 31)) >>> ((24 : Int32) &&& 31)).toInt64)), .second, .val (.long (((i5 <<< ((16 : Int32) &&& 31)) >>> ((24 : Int32) &&& 31)).toInt64)), .second, .val (.long ((i0.toInt64) + (((i4 <<< ((24 : Int32) &&& 31)) >>> ((24 : Int32) &&& 31)).toInt64))), .second, .val (.long ((i1.toInt64) + (((i5 <<< ((24 : Int32) &&& 31)) >>> ((24 : Int32) &&& 31)).toInt64))), .second, .val (.long (own_max (0 : Int64) (((i2 &&& (2147483647 : Int32)).toInt64) + (((i4 <<< ((16 : Int32) &&& 31)) >>> ((24 : Int32) &&& 31)).toInt64)))), .second, .val (.long (own_max (0 : Int64) (((i3 &&& (2147483647 : Int32)).toInt64) + (((i5 <<< ((16 : Int32) &&& 31)) >>> ((24 : Int32) &&& 31)).toInt64)))), .second, .val (.ref b5), .val (.ref b42), .val (.int (0 : Int32))] [(.ref b42), (.ref b5)])) rfl (by rw [hml]; rfl) (Steps.refl _) (argsL := [(.ref b42)]) (rest := []) (lenOf own_law_pd4 rfl) rfl (by show 2 * 0 + _ ≤ _; exact Nat.le_of_eq rfl) (hb hby at_245) (fun _ _ => ⟨rfl, rfl, (by decide : 4 + 0 ≤ _), (by decide : 12 + 0 ≤ _)⟩)
          dsimp only [Pt.U, Pt.locs, Pt.cells, Pt.slots] at X112 l112 y112 z112 st112 hQ112
          obtain rfl : k112 = 4 := y112
          obtain rfl : n112 = 12 := z112
          obtain ⟨rfl, N112q, R112⟩ := hQ112
          have N112 : Fr n0 L112 := l112 ▸ Fr.app N72 N112q
          refine ownStep (fun _ k => st112.trans k) ?_
          refine ownStep (fun _ k => XS.iload X112.here hx rfl (hb hby at_248) rfl  k) ?_
          refine ownStep (fun _ k => XS.icmpNo X112.here hx rfl (hb hby at_250) rfl (teq (own_end0 ax.2.2.2.2.1 ax.2.2.2.2.2 ay.2.2.2.2.1 ay.2.2.2.2.2 (by first | exact Or.inl hc183 | exact Or.inr (Or.inl hc201) | exact Or.inr (Or.inr (Or.inl hc213)) | exact Or.inr (Or.inr (Or.inr hc231))) : (own_cont (own_uu (i0.toInt64)) (own_uu (i1.toInt64)) (FP.dadd (own_uu (i0.toInt64)) (own_uu ((i2 &&& (2147483647 : Int32)).toInt64))) (FP.dadd (own_uu (i1.toInt64)) (own_uu ((i3 &&& (2147483647 : Int32)).toInt64))) (own_uu ((i0.toInt64) + (((i4 <<< ((24 : Int32) &&& 31)) >>> ((24 : Int32) &&& 31)).toInt64))) (own_uu ((i1.toInt64) + (((i5 <<< ((24 : Int32) &&& 31)) >>> ((24 : Int32) &&& 31)).toInt64))) (FP.dadd (own_uu ((i0.toInt64) + (((i4 <<< ((24 : Int32) &&& 31)) >>> ((24 : Int32) &&& 31)).toInt64))) (own_uu (own_max (0 : Int64) (((i2 &&& (2147483647 : Int32)).toInt64) + (((i4 <<< ((16 : Int32) &&& 31)) >>> ((24 : Int32) &&& 31)).toInt64))))) (FP.dadd (own_uu ((i1.toInt64) + (((i5 <<< ((24 : Int32) &&& 31)) >>> ((24 : Int32) &&& 31)).toInt64))) (own_uu (own_max (0 : Int64) (((i3 &&& (2147483647 : Int32)).toInt64) + (((i5 <<< ((16 : Int32) &&& 31)) >>> ((24 : Int32) &&& 31)).toInt64)))))) = (0 : Int32))).2 k) ?_
          refine ownStep (fun _ k => XS.iconst X112.here hx rfl (hb hby at_253) k) ?_
          refine ownStep (fun _ k => XS.goto X112.here hx rfl (pc0 := 254) (pc' := 258) rfl (hb hby at_254) (by decide) (by decide) k) ?_
          show ownGo p.tables e below (T112.setTop (mkF m 258 #[.val (.int i0), .val (.int i1), .val (.int i2), .val (.int i3), .val (.int i4), .val (.int i5), .val (.long (i0.toInt64)), .second, .val (.long (i1.toInt64)), .second, .val (.long ((i2 &&& (2147483647 : Int32)).toInt64)), .second, .val (.long ((i3 &&& (2147483647 : Int32)).toInt64)), .second, .val (.long (((i4 <<< ((24 : Int32) &&& 31)) >>> ((24 : Int32) &&& 31)).toInt64)), .second, .val (.long (((i4 <<< ((16 : Int32) &&& 31)) >>> ((24 : Int32) &&& 31)).toInt64)), .second, .val (.long (((i5 <<< ((24 : Int32) &&& 31)) >>> ((24 : Int32) &&& 31)).toInt64)), .second, .val (.long (((i5 <<< ((16 : Int32) &&& 31)) >>> ((24 : Int32) &&& 31)).toInt64)), .second, .val (.long ((i0.toInt64) + (((i4 <<< ((24 : Int32) &&& 31)) >>> ((24 : Int32) &&& 31)).toInt64))), .second, .val (.long ((i1.toInt64) + (((i5 <<< ((24 : Int32) &&& 31)) >>> ((24 : Int32) &&& 31)).toInt64))), .second, .val (.long (own_max (0 : Int64) (((i2 &&& (2147483647 : Int32)).toInt64) + (((i4 <<< ((16 : Int32) &&& 31)) >>> ((24 : Int32) &&& 31)).toInt64)))), .second, .val (.long (own_max (0 : Int64) (((i3 &&& (2147483647 : Int32)).toInt64) + (((i5 <<< ((16 : Int32) &&& 31)) >>> ((24 : Int32) &&& 31)).toInt64)))), .second, .val (.ref b5), .val (.ref b42), .val (.int (0 : Int32))] [(.int (1 : Int32))])) _
          exact ownRet X112 (v := some (.int (1 : Int32))) Bd.notSynchronized (fun h => by rw [Bd.returns] at h; cases h) (fun _ hr => retN X112 hx (t := .boolean) Bd.returns (by simp) (hb hby at_258) hr) (by rw [R112]; exact ⟨rfl, N112, (own_extOf KP78)⟩) (by decide) (by decide)
        · skip
          refine ownStep (fun _ k => XS.ifNo X72.here hx rfl (hb hby at_231) rfl ((if0 _ _).trans (flt (hc231 : ¬ (0 : Int32) < (lcmpW (((i1.toInt64) + (((i5 <<< ((24 : Int32) &&& 31)) >>> ((24 : Int32) &&& 31)).toInt64)) + (own_max (0 : Int64) (((i3 &&& (2147483647 : Int32)).toInt64) + (((i5 <<< ((16 : Int32) &&& 31)) >>> ((24 : Int32) &&& 31)).toInt64)))) (((i1.toInt64) + ((i3 &&& (2147483647 : Int32)).toInt64)) + (2 : Int64))))).2.2.1) k) ?_
          refine ownStep (fun _ k => XS.iconst X72.here hx rfl (hb hby at_234) k) ?_
          refine ownStep (fun _ k => XS.goto X72.here hx rfl (pc0 := 235) (pc' := 239) rfl (hb hby at_235) (by decide) (by decide) k) ?_
          refine ownStep (fun _ k => XS.istore X72.here hx rfl (hb hby at_239) rfl (l' := #[.val (.int i0), .val (.int i1), .val (.int i2), .val (.int i3), .val (.int i4), .val (.int i5), .val (.long (i0.toInt64)), .second, .val (.long (i1.toInt64)), .second, .val (.long ((i2 &&& (2147483647 : Int32)).toInt64)), .second, .val (.long ((i3 &&& (2147483647 : Int32)).toInt64)), .second, .val (.long (((i4 <<< ((24 : Int32) &&& 31)) >>> ((24 : Int32) &&& 31)).toInt64)), .second, .val (.long (((i4 <<< ((16 : Int32) &&& 31)) >>> ((24 : Int32) &&& 31)).toInt64)), .second, .val (.long (((i5 <<< ((24 : Int32) &&& 31)) >>> ((24 : Int32) &&& 31)).toInt64)), .second, .val (.long (((i5 <<< ((16 : Int32) &&& 31)) >>> ((24 : Int32) &&& 31)).toInt64)), .second, .val (.long ((i0.toInt64) + (((i4 <<< ((24 : Int32) &&& 31)) >>> ((24 : Int32) &&& 31)).toInt64))), .second, .val (.long ((i1.toInt64) + (((i5 <<< ((24 : Int32) &&& 31)) >>> ((24 : Int32) &&& 31)).toInt64))), .second, .val (.long (own_max (0 : Int64) (((i2 &&& (2147483647 : Int32)).toInt64) + (((i4 <<< ((16 : Int32) &&& 31)) >>> ((24 : Int32) &&& 31)).toInt64)))), .second, .val (.long (own_max (0 : Int64) (((i3 &&& (2147483647 : Int32)).toInt64) + (((i5 <<< ((16 : Int32) &&& 31)) >>> ((24 : Int32) &&& 31)).toInt64)))), .second, .val (.ref b5), .val (.ref b42), .val (.int (1 : Int32))]) rfl k) ?_
          refine ownStep (fun _ k => XS.aload X72.here hx rfl (hb hby at_241) rfl rfl k) ?_
          refine ownStep (fun _ k => XS.aload X72.here hx rfl (hb hby at_243) rfl rfl k) ?_
          show ownGo p.tables e below (T72.setTop (mkF m 245 #[.val (.int i0), .val (.int i1), .val (.int i2), .val (.int i3), .val (.int i4), .val (.int i5), .val (.long (i0.toInt64)), .second, .val (.long (i1.toInt64)), .second, .val (.long ((i2 &&& (2147483647 : Int32)).toInt64)), .second, .val (.long ((i3 &&& (2147483647 : Int32)).toInt64)), .second, .val (.long (((i4 <<< ((24 : Int32) &&& 31)) >>> ((24 : Int32) &&& 31)).toInt64)), .second, .val (.long (((i4 <<< ((16 : Int32) &&& 31)) >>> ((24 : Int32) &&& 31)).toInt64)), .second, .val (.long (((i5 <<< ((24 : Int32) &&& 31)) >>> ((24 : Int32) &&& 31)).toInt64)), .second, .val (.long (((i5 <<< ((16 : Int32) &&& 31)) >>> ((24 : Int32) &&& 31)).toInt64)), .second, .val (.long ((i0.toInt64) + (((i4 <<< ((24 : Int32) &&& 31)) >>> ((24 : Int32) &&& 31)).toInt64))), .second, .val (.long ((i1.toInt64) + (((i5 <<< ((24 : Int32) &&& 31)) >>> ((24 : Int32) &&& 31)).toInt64))), .second, .val (.long (own_max (0 : Int64) (((i2 &&& (2147483647 : Int32)).toInt64) + (((i4 <<< ((16 : Int32) &&& 31)) >>> ((24 : Int32) &&& 31)).toInt64)))), .second, .val (.long (own_max (0 : Int64) (((i3 &&& (2147483647 : Int32)).toInt64) + (((i5 <<< ((16 : Int32) &&& 31)) >>> ((24 : Int32) &&& 31)).toInt64)))), .second, .val (.ref b5), .val (.ref b42), .val (.int (1 : Int32))] [(.ref b42), (.ref b5)])) _
          have ne115 : b5 ≠ b48 := Nat.ne_of_lt (Nat.lt_of_lt_of_le (Nat.lt_of_lt_of_le P37.lt (Nat.le_trans (Nat.le_refl _) E42.1)) (Nat.le_of_eq g48.symm))
          have ne116 : b5 ≠ b42 := Nat.ne_of_lt (Nat.lt_of_lt_of_le (Nat.lt_of_lt_of_le P37.lt (Nat.le_refl _)) (Nat.le_of_eq g42.symm))
          have Q117 : Fld Z T72.heap b5 "com/example/adept_layout/adeptlayout/geometry/Box" "left" "D" (.double (own_uu (i0.toInt64))) := ((((P37.ext E42).ext E48).keep R56 (ninS ne115 nin0)).keep R72 (ninS ne116 nin0))
          have Q118 : Fld Z T72.heap b5 "com/example/adept_layout/adeptlayout/geometry/Box" "top" "D" (.double (own_uu (i1.toInt64))) := ((((P38.ext E42).ext E48).keep R56 (ninS ne115 nin0)).keep R72 (ninS ne116 nin0))
          have Q119 : Fld Z T72.heap b5 "com/example/adept_layout/adeptlayout/geometry/Box" "right" "D" (.double (FP.dadd (own_uu (i0.toInt64)) (own_uu ((i2 &&& (2147483647 : Int32)).toInt64)))) := ((((P39.ext E42).ext E48).keep R56 (ninS ne115 nin0)).keep R72 (ninS ne116 nin0))
          have Q120 : Fld Z T72.heap b5 "com/example/adept_layout/adeptlayout/geometry/Box" "bottom" "D" (.double (FP.dadd (own_uu (i1.toInt64)) (own_uu ((i3 &&& (2147483647 : Int32)).toInt64)))) := ((((P40.ext E42).ext E48).keep R56 (ninS ne115 nin0)).keep R72 (ninS ne116 nin0))
          have Zs122 : n0 ≤ T72.heap.size := Nat.le_trans Z0 KP78.1
          have Q123 : Exa Z T72.heap b5 "com/example/adept_layout/adeptlayout/geometry/Box" := (((((Q29.keep R35).ext E42).ext E48).keep R56).keep R72)
          obtain ⟨cq121, kq121, q121a, q121b, q121c⟩ := isOf hZ rfl Q123
          obtain ⟨_, _, ⟨T121, L121, k121, n121⟩, -, X121, ⟨Lc121, hQ121, l121, y121, z121⟩, st121⟩ := X72.virtualBack hx (y := (⟨"com/example/adept_layout/adeptlayout/geometry/Box", "contains", "(Lcom/example/adept_layout/adeptlayout/geometry/Box;)Z"⟩ : MethodName)) (z := (⟨"com/example/adept_layout/adeptlayout/geometry/Box", "contains", "(Lcom/example/adept_layout/adeptlayout/geometry/Box;)Z"⟩ : MethodName)) hown (mvT hZ (hw _ ow49)) (mvT hZ (hw _ ow50)) (notFace_of_selects (args := #[]) (mvT hZ (hw _ ow52))) (mvT hZ (hw _ ow52)) (mvT hZ (hw _ ow51)) (by decide) (backOf (W := 0) (own_ct l Z a0 hw [] b5 b42 (own_uu (i0.toInt64)) (own_uu (i1.toInt64)) (FP.dadd (own_uu (i0.toInt64)) (own_uu ((i2 &&& (2147483647 : Int32)).toInt64))) (FP.dadd (own_uu (i1.toInt64)) (own_uu ((i3 &&& (2147483647 : Int32)).toInt64))) (own_uu ((i0.toInt64) + (((i4 <<< ((24 : Int32) &&& 31)) >>> ((24 : Int32) &&& 31)).toInt64))) (own_uu ((i1.toInt64) + (((i5 <<< ((24 : Int32) &&& 31)) >>> ((24 : Int32) &&& 31)).toInt64))) (FP.dadd (own_uu ((i0.toInt64) + (((i4 <<< ((24 : Int32) &&& 31)) >>> ((24 : Int32) &&& 31)).toInt64))) (own_uu (own_max (0 : Int64) (((i2 &&& (2147483647 : Int32)).toInt64) + (((i4 <<< ((16 : Int32) &&& 31)) >>> ((24 : Int32) &&& 31)).toInt64))))) (FP.dadd (own_uu ((i1.toInt64) + (((i5 <<< ((24 : Int32) &&& 31)) >>> ((24 : Int32) &&& 31)).toInt64))) (own_uu (own_max (0 : Int64) (((i3 &&& (2147483647 : Int32)).toInt64) + (((i5 <<< ((16 : Int32) &&& 31)) >>> ((24 : Int32) &&& 31)).toInt64))))) T72.heap n0 Zs122 Q117 Q118 Q119 Q120 P74 P75 P76 P77 ax.2.2.1 ax.2.2.2.1 ay.2.2.1 ay.2.2.2.1) hZ (hw _ ow53) (hw _ ow7) (by decide) (by decide)) q121a q121c (g := (mkF m 245 #[.val (.int i0), .val (.int i1), .val (.int i2), .val (.int i3), .val (.int i4), .val (.int i5), .val (.long (i0.toInt64)), .second, .val (.long (i1.toInt64)), .second, .val (.long ((i2 &&& (2147483647 : Int32)).toInt64)), .second, .val (.long ((i3 &&& (2147483647 : Int32)).toInt64)), .second, .val (.long (((i4 <<< ((24 : Int32) &&& 31)) >>> ((24 : Int32) &&& 31)).toInt64)), .second, .val (.long (((i4 <<< ((16 : Int32) &&& 31)) >>> ((24 : Int32) &&& 31)).toInt64)), .second, .val (.long (((i5 <<< ((24 : Int32) &&& 31)) >>> ((24 : Int32) &&& 31)).toInt64)), .second, .val (.long (((i5 <<< ((16 : Int32) &&& 31)) >>> ((24 : Int32) &&& 31)).toInt64)), .second, .val (.long ((i0.toInt64) + (((i4 <<< ((24 : Int32) &&& 31)) >>> ((24 : Int32) &&& 31)).toInt64))), .second, .val (.long ((i1.toInt64) + (((i5 <<< ((24 : Int32) &&& 31)) >>> ((24 : Int32) &&& 31)).toInt64))), .second, .val (.long (own_max (0 : Int64) (((i2 &&& (2147483647 : Int32)).toInt64) + (((i4 <<< ((16 : Int32) &&& 31)) >>> ((24 : Int32) &&& 31)).toInt64)))), .second, .val (.long (own_max (0 : Int64) (((i3 &&& (2147483647 : Int32)).toInt64) + (((i5 <<< ((16 : Int32) &&& 31)) >>> ((24 : Int32) &&& 31)).toInt64)))), .second, .val (.ref b5), .val (.ref b42), .val (.int (1 : Int32))] [(.ref b42), (.ref b5)])) rfl (by rw [hml]; rfl) (Steps.refl _) (argsL := [(.ref b42)]) (rest := []) (lenOf own_law_pd4 rfl) rfl (by show 2 * 0 + _ ≤ _; exact Nat.le_of_eq rfl) (hb hby at_245) (fun _ _ => ⟨rfl, rfl, (by decide : 4 + 0 ≤ _), (by decide : 12 + 0 ≤ _)⟩)
          dsimp only [Pt.U, Pt.locs, Pt.cells, Pt.slots] at X121 l121 y121 z121 st121 hQ121
          obtain rfl : k121 = 4 := y121
          obtain rfl : n121 = 12 := z121
          obtain ⟨rfl, N121q, R121⟩ := hQ121
          have N121 : Fr n0 L121 := l121 ▸ Fr.app N72 N121q
          refine ownStep (fun _ k => st121.trans k) ?_
          refine ownStep (fun _ k => XS.iload X121.here hx rfl (hb hby at_248) rfl  k) ?_
          refine ownStep (fun _ k => XS.icmpNo X121.here hx rfl (hb hby at_250) rfl (teq (own_end1 ax.2.2.2.2.1 ax.2.2.2.2.2 ay.2.2.2.2.1 ay.2.2.2.2.2 (by exact ⟨hc183, hc201, hc213, hc231⟩) : (own_cont (own_uu (i0.toInt64)) (own_uu (i1.toInt64)) (FP.dadd (own_uu (i0.toInt64)) (own_uu ((i2 &&& (2147483647 : Int32)).toInt64))) (FP.dadd (own_uu (i1.toInt64)) (own_uu ((i3 &&& (2147483647 : Int32)).toInt64))) (own_uu ((i0.toInt64) + (((i4 <<< ((24 : Int32) &&& 31)) >>> ((24 : Int32) &&& 31)).toInt64))) (own_uu ((i1.toInt64) + (((i5 <<< ((24 : Int32) &&& 31)) >>> ((24 : Int32) &&& 31)).toInt64))) (FP.dadd (own_uu ((i0.toInt64) + (((i4 <<< ((24 : Int32) &&& 31)) >>> ((24 : Int32) &&& 31)).toInt64))) (own_uu (own_max (0 : Int64) (((i2 &&& (2147483647 : Int32)).toInt64) + (((i4 <<< ((16 : Int32) &&& 31)) >>> ((24 : Int32) &&& 31)).toInt64))))) (FP.dadd (own_uu ((i1.toInt64) + (((i5 <<< ((24 : Int32) &&& 31)) >>> ((24 : Int32) &&& 31)).toInt64))) (own_uu (own_max (0 : Int64) (((i3 &&& (2147483647 : Int32)).toInt64) + (((i5 <<< ((16 : Int32) &&& 31)) >>> ((24 : Int32) &&& 31)).toInt64)))))) = (1 : Int32))).2 k) ?_
          refine ownStep (fun _ k => XS.iconst X121.here hx rfl (hb hby at_253) k) ?_
          refine ownStep (fun _ k => XS.goto X121.here hx rfl (pc0 := 254) (pc' := 258) rfl (hb hby at_254) (by decide) (by decide) k) ?_
          show ownGo p.tables e below (T121.setTop (mkF m 258 #[.val (.int i0), .val (.int i1), .val (.int i2), .val (.int i3), .val (.int i4), .val (.int i5), .val (.long (i0.toInt64)), .second, .val (.long (i1.toInt64)), .second, .val (.long ((i2 &&& (2147483647 : Int32)).toInt64)), .second, .val (.long ((i3 &&& (2147483647 : Int32)).toInt64)), .second, .val (.long (((i4 <<< ((24 : Int32) &&& 31)) >>> ((24 : Int32) &&& 31)).toInt64)), .second, .val (.long (((i4 <<< ((16 : Int32) &&& 31)) >>> ((24 : Int32) &&& 31)).toInt64)), .second, .val (.long (((i5 <<< ((24 : Int32) &&& 31)) >>> ((24 : Int32) &&& 31)).toInt64)), .second, .val (.long (((i5 <<< ((16 : Int32) &&& 31)) >>> ((24 : Int32) &&& 31)).toInt64)), .second, .val (.long ((i0.toInt64) + (((i4 <<< ((24 : Int32) &&& 31)) >>> ((24 : Int32) &&& 31)).toInt64))), .second, .val (.long ((i1.toInt64) + (((i5 <<< ((24 : Int32) &&& 31)) >>> ((24 : Int32) &&& 31)).toInt64))), .second, .val (.long (own_max (0 : Int64) (((i2 &&& (2147483647 : Int32)).toInt64) + (((i4 <<< ((16 : Int32) &&& 31)) >>> ((24 : Int32) &&& 31)).toInt64)))), .second, .val (.long (own_max (0 : Int64) (((i3 &&& (2147483647 : Int32)).toInt64) + (((i5 <<< ((16 : Int32) &&& 31)) >>> ((24 : Int32) &&& 31)).toInt64)))), .second, .val (.ref b5), .val (.ref b42), .val (.int (1 : Int32))] [(.int (1 : Int32))])) _
          exact ownRet X121 (v := some (.int (1 : Int32))) Bd.notSynchronized (fun h => by rw [Bd.returns] at h; cases h) (fun _ hr => retN X121 hx (t := .boolean) Bd.returns (by simp) (hb hby at_258) hr) (by rw [R121]; exact ⟨rfl, N121, (own_extOf KP78)⟩) (by decide) (by decide)
set_option maxRecDepth 65536 in
set_option maxHeartbeats 40000000 in
theorem comes_1 {Post : Tables → Env → Array Value → State → Outcome → State → Prop} (hpost : ∀ tb e args s v u, (limb_1_1.after args s (.returned v) u = true ∧ limb_1_2.after args s (.returned v) u = true ∧ True) → FrameEnd s (.returned v) u (Jvm.fieldLocs frame_1_writes args s ++ Jvm.arrayLocs frame_1_arrays args s ++ Jvm.staticLocs frame_1_statics s) 16 128 → Post tb e args s (.returned v) u) :
    ArmFor flags0 classFile x code maxLocals ret World_1 tables_1 room_1 Calls_1 rest_1 Pre_1 Post := by
  intro l hfl _ _ p e ha hc hk s m args below hf hA hF happ hP
  obtain ⟨hcalls, hrest, hpre⟩ := hP
  obtain ⟨-, -, -, hnamed, -, -, -, hat⟩ := (Spec.applies_iff hf).mp happ
  obtain ⟨hg, hn⟩ := and_e (Cond.before_iff.mp (show (Jvm.Cond.and given_1 narrow_1).before args s = true from hpre))
  obtain ⟨g1, g2⟩ := and_e hg
  obtain ⟨g3, g4⟩ := and_e g2
  obtain ⟨g5, g6⟩ := and_e g4
  obtain ⟨g7, g8⟩ := and_e g6
  obtain ⟨g9, g10⟩ := and_e g8
  obtain ⟨g11, g12⟩ := and_e g10
  obtain ⟨w0, w1, w2, w3, w4, w5, rfl⟩ : ∃ w0 w1 w2 w3 w4 w5 : Value, args = #[w0, w1, w2, w3, w4, w5] := by
    have hs : args.size = 6 := by simpa [Cond.value, given_1] using g1
    obtain ⟨L⟩ := args
    match L, hs with
    | [w0, w1, w2, w3, w4, w5], _ => exact ⟨w0, w1, w2, w3, w4, w5, rfl⟩
  have hw := fun d (hd : d ∈ tables_1) => atoms_spec (ws := Jvm.Cond.code x code maxLocals ret :: tables_1) hat d (List.mem_cons_of_mem _ hd)
  have hfit : Fit s := fun {y c} hc i hi => by
    obtain ⟨ha, rfl⟩ := Array.getElem?_eq_some_iff.mp hc
    have q := List.all_eq_true.mp ((Array.all_eq_true_iff_forall_mem.mp hF) _ (Array.getElem_mem ha)) i (List.mem_range.mpr hi)
    simpa [Array.getElem?_eq_getElem hi] using q
  obtain ⟨i0, ei0⟩ := is_v g3
  obtain rfl : w0 = (.int i0) := Option.some.inj ei0
  obtain ⟨i1, ei1⟩ := is_v g5
  obtain rfl : w1 = (.int i1) := Option.some.inj ei1
  obtain ⟨i2, ei2⟩ := is_v g7
  obtain rfl : w2 = (.int i2) := Option.some.inj ei2
  obtain ⟨i3, ei3⟩ := is_v g9
  obtain rfl : w3 = (.int i3) := Option.some.inj ei3
  obtain ⟨i4, ei4⟩ := is_v g11
  obtain rfl : w4 = (.int i4) := Option.some.inj ei4
  obtain ⟨i5, ei5⟩ := is_v g12
  obtain rfl : w5 = (.int i5) := Option.some.inj ei5
  obtain ⟨n, o, h1, h2, h3, _, L, rfl, ⟨rfl, N, hrel⟩, hq⟩ := own_law l s _ hw tables_1 i0 i1 i2 i3 i4 i5 s.heap s.heap.size (Nat.le_refl _)  p e ha hc hk s m _ below hf ((Spec.applies_iff_loose hf).mp happ).1 ⟨rfl, State.Warmed39.refl s, rfl⟩ trivial
  refine ⟨n, _, h1, h2, h3, hpost _ _ _ _ _ _ ⟨Cond.after_iff.mpr rfl, Cond.after_iff.mpr (eq_i res_at (Term.int_eval (1)) rfl), trivial⟩ ⟨hq.1, hq.2.1, (hq.2.2.sift fun y hy => Or.inr (N y hy)).mono (by decide) (by decide)⟩⟩
theorem main_1_1 : Claimed_1_1 := comes_1 fun _ _ _ _ _ _ h hF => ⟨h.1, hF⟩
theorem main_1_2 : Claimed_1_2 := comes_1 fun _ _ _ _ _ _ h hF => ⟨h.2.1, hF⟩
end Jvm.Pilot.@@N@@
namespace Jvm.Pilot.@@N@@
open Jvm Jvm.ClassFile Sem Op Lib Jvm.Free Jvm.Stand Jvm.Pilot.@@N@@.Jvm.D
/-! MADE BY PROGRAM (witnessworld.py) out of the Statement's table words and the real class files: 11 classes; the members and pool entries that the words name. The judged class is class 1, her method 2. -/
namespace start1
open Jvm.ClassFile
def u (s : String) : CpInfo := .utf8 (stringToUtf16 s)
/-- a pool by its gaps: so many unusable entries, then the entry; so many at the end -/
def gap : Nat → List CpInfo → List CpInfo
  | 0, r => r
  | n + 1, r => .unusable :: gap n r
def poolList (es : List (Nat × CpInfo)) (last : Nat) : List CpInfo := es.foldr (fun e r => gap e.1 (e.2 :: r)) (gap last [])
def pool (es : List (Nat × CpInfo)) (last : Nat) : Array CpInfo := ⟨poolList es last⟩
def fileOf (pool : Array CpInfo) (this : Nat) (attrs : Array Attribute := #[]) (ms : Array MethodInfo := #[]) (fl : Nat := 33) (sup : Nat := 0) (ifs : Array Nat := #[]) (fds : Array FieldInfo := #[]) : ClassFile where
  minorVersion := 0
  majorVersion := 65
  constantPool := pool
  accessFlags := fl
  thisClass := this
  superClass := sup
  interfaces := ifs
  fields := fds
  methods := ms
  attributes := attrs
def plain (name : String) (sup : Option ClassId) : Class where
  name := name
  kind := .ordinary
  loader := none
  accessFlags := 33
  super := sup
  interfaces := #[]
  cf := none
  fields := #[]
  methods := #[]
  instanceTypes := #[]
  staticTypes := #[]
  resolved := #[]
  callSites := []
  init := .initialized
  statics := none
  mirror := none

def pool0 : Array CpInfo := pool [(5, u "<init>"), (0, u "()V"), (1, .class_ 10), (1, u "java/lang/Object")] 113

def k0c0 : Code := { maxStack := 0, maxLocals := 1, code := object_method_1_code, exceptionTable := #[], attributes := #[] }
def k0m0 : Method := { name := "<init>", desc := "()V", sig := { parameters := [], returnType := none }, accessFlags := 1, code := some k0c0 }
/-- java/lang/Object -/
def k0 : Class := { plain "java/lang/Object" none with
  accessFlags := 33
  interfaces := #[]
  cf := some (fileOf pool0 8 #[] #[{ accessFlags := 1, nameIndex := 5, descriptorIndex := 6, attributes := #[] }] 33 0 #[] #[])
  fields := #[]
  methods := #[k0m0]
  instanceTypes := #[]
  staticTypes := #[]
  resolved := Array.replicate 124 none
  statics := none }

def pool1 : Array CpInfo := pool [(2, .class_ 4), (1, u "java/lang/Object"), (0, u "<init>"), (0, u "()V"), (0, .double 4701758010974797824), (1, .integer 2147483647), (0, .methodref 11 12), (0, .class_ 13), (0, .nameAndType 14 15), (0, u "java/lang/Math"), (0, u "max"), (0, u "(JJ)J"), (0, .class_ 17), (0, u "com/example/adept_layout/adeptlayout/geometry/Box"), (0, .class_ 19), (0, u "com/example/adept_layout/adeptlayout/geometry/Point"), (0, .methodref 21 22), (0, .class_ 23), (0, .nameAndType 24 25), (0, u "com/example/adept_layout/adeptlayout/geometry/BoxContainsPinLaw"), (0, u "u"), (0, u "(J)D"), (0, .methodref 18 27), (0, .nameAndType 5 28), (0, u "(DD)V"), (0, .methodref 16 30), (0, .nameAndType 5 31), (0, u "(Lcom/example/adept_layout/adeptlayout/geometry/Point;DD)V"), (0, .long 2), (1, .methodref 16 35), (0, .nameAndType 36 37), (0, u "contains"), (0, u "(Lcom/example/adept_layout/adeptlayout/geometry/Box;)Z"), (2, u "law"), (0, u "(IIIIII)Z")] 3

def k1m0 : Method := { name := "<init>", desc := "()V", sig := { parameters := [], returnType := none }, accessFlags := 1, code := none }
def k1c1 : Code := { maxStack := 4, maxLocals := 2, code := method_2_code, exceptionTable := #[], attributes := #[] }
def k1m1 : Method := { name := "u", desc := "(J)D", sig := { parameters := [.long], returnType := some .double }, accessFlags := 10, code := some k1c1 }
def k1c2 : Code := { maxStack := 8, maxLocals := 33, code := code, exceptionTable := #[], attributes := #[] }
def k1m2 : Method := { name := "law", desc := "(IIIIII)Z", sig := { parameters := [.int, .int, .int, .int, .int, .int], returnType := some .boolean }, accessFlags := 9, code := some k1c2 }
/-- com/example/adept_layout/adeptlayout/geometry/BoxContainsPinLaw -/
def k1 : Class := { plain "com/example/adept_layout/adeptlayout/geometry/BoxContainsPinLaw" (some 0) with
  accessFlags := 49
  interfaces := #[]
  cf := some (fileOf pool1 21 #[] #[{ accessFlags := 1, nameIndex := 5, descriptorIndex := 6, attributes := #[] }, { accessFlags := 10, nameIndex := 24, descriptorIndex := 25, attributes := #[] }, { accessFlags := 9, nameIndex := 40, descriptorIndex := 41, attributes := #[] }] 49 2 #[] #[])
  fields := #[]
  methods := #[k1m0, k1m1, k1m2]
  instanceTypes := #[]
  staticTypes := #[]
  resolved := Array.replicate 45 none
  statics := none }

def pool2 : Array CpInfo := pool [(1, .class_ 2), (0, u "java/lang/Math"), (1, .class_ 6), (1, u "java/lang/Object"), (0, u "<init>"), (0, u "()V"), (89, .class_ 100), (1, u "java/lang/Math$RandomNumberGeneratorHolder"), (20, u "(JJ)J"), (50, u "negativeZeroFloatBits"), (0, u "J"), (2, u "negativeZeroDoubleBits"), (21, u "max"), (46, u "$assertionsDisabled"), (0, u "Z"), (91, u "twoToTheDoubleScaleDown"), (0, u "D"), (4, u "twoToTheDoubleScaleUp"), (9, u "E"), (3, u "PI"), (2, u "TAU"), (2, u "DEGREES_TO_RADIANS"), (0, u "RADIANS_TO_DEGREES")] 94

def k2m0 : Method := { name := "<init>", desc := "()V", sig := { parameters := [], returnType := none }, accessFlags := 2, code := none }
def k2c1 : Code := { maxStack := 4, maxLocals := 4, code := jdk_29_method_66_code, exceptionTable := #[], attributes := #[] }
def k2m1 : Method := { name := "max", desc := "(JJ)J", sig := { parameters := [.long, .long], returnType := some .long }, accessFlags := 9, code := some k2c1 }
/-- java/lang/Math -/
def k2 : Class := { plain "java/lang/Math" (some 0) with
  accessFlags := 49
  interfaces := #[]
  cf := some (fileOf pool2 1 #[.nestMembers #[98]] #[{ accessFlags := 2, nameIndex := 7, descriptorIndex := 8, attributes := #[] }, { accessFlags := 9, nameIndex := 198, descriptorIndex := 121, attributes := #[] }] 49 4 #[] #[{ accessFlags := 25, nameIndex := 354, descriptorIndex := 339, attributes := #[] }, { accessFlags := 25, nameIndex := 358, descriptorIndex := 339, attributes := #[] }, { accessFlags := 25, nameIndex := 361, descriptorIndex := 339, attributes := #[] }, { accessFlags := 26, nameIndex := 364, descriptorIndex := 339, attributes := #[] }, { accessFlags := 26, nameIndex := 365, descriptorIndex := 339, attributes := #[] }, { accessFlags := 26, nameIndex := 172, descriptorIndex := 173, attributes := #[] }, { accessFlags := 26, nameIndex := 176, descriptorIndex := 173, attributes := #[] }, { accessFlags := 8, nameIndex := 344, descriptorIndex := 339, attributes := #[] }, { accessFlags := 8, nameIndex := 338, descriptorIndex := 339, attributes := #[] }, { accessFlags := 4120, nameIndex := 245, descriptorIndex := 246, attributes := #[] }])
  fields := #[{ name := "E", type := .double, accessFlags := 25, slot := 0, constantValue := 0 }, { name := "PI", type := .double, accessFlags := 25, slot := 1, constantValue := 0 }, { name := "TAU", type := .double, accessFlags := 25, slot := 2, constantValue := 0 }, { name := "DEGREES_TO_RADIANS", type := .double, accessFlags := 26, slot := 3, constantValue := 0 }, { name := "RADIANS_TO_DEGREES", type := .double, accessFlags := 26, slot := 4, constantValue := 0 }, { name := "negativeZeroFloatBits", type := .long, accessFlags := 26, slot := 5, constantValue := 0 }, { name := "negativeZeroDoubleBits", type := .long, accessFlags := 26, slot := 6, constantValue := 0 }, { name := "twoToTheDoubleScaleUp", type := .double, accessFlags := 8, slot := 7, constantValue := 0 }, { name := "twoToTheDoubleScaleDown", type := .double, accessFlags := 8, slot := 8, constantValue := 0 }, { name := "$assertionsDisabled", type := .boolean, accessFlags := 4120, slot := 9, constantValue := 0 }]
  methods := #[k2m0, k2m1]
  instanceTypes := #[]
  staticTypes := #[.double, .double, .double, .double, .double, .long, .long, .double, .double, .boolean]
  resolved := Array.replicate 460 none
  statics := none }

def pool3 : Array CpInfo := pool [(1, .methodref 2 3), (0, .class_ 4), (0, .nameAndType 5 6), (0, u "java/lang/Object"), (0, u "<init>"), (0, u "()V"), (0, .methodref 8 9), (0, .class_ 10), (0, .nameAndType 11 12), (0, u "com/example/adept_layout/adeptlayout/geometry/Point"), (0, u "x"), (0, u "()D"), (0, .fieldref 14 15), (0, .class_ 16), (0, .nameAndType 17 18), (0, u "com/example/adept_layout/adeptlayout/geometry/Box"), (0, u "left"), (0, u "D"), (0, .methodref 8 20), (0, .nameAndType 21 12), (0, u "y"), (0, .fieldref 14 23), (0, .nameAndType 24 18), (0, u "top"), (0, .fieldref 14 26), (0, .nameAndType 27 18), (0, u "right"), (0, .fieldref 14 29), (0, .nameAndType 30 18), (0, u "bottom"), (13, u "(Lcom/example/adept_layout/adeptlayout/geometry/Point;DD)V"), (24, .double 4517329193108106637), (60, u "(Lcom/example/adept_layout/adeptlayout/geometry/Box;)Z"), (0, u "contains")] 11

def k3c0 : Code := { maxStack := 5, maxLocals := 6, code := prog_1_method_1_code, exceptionTable := #[], attributes := #[] }
def k3m0 : Method := { name := "<init>", desc := "(Lcom/example/adept_layout/adeptlayout/geometry/Point;DD)V", sig := { parameters := [(.object "com/example/adept_layout/adeptlayout/geometry/Point"), .double, .double], returnType := none }, accessFlags := 1, code := some k3c0 }
def k3c1 : Code := { maxStack := 6, maxLocals := 2, code := prog_1_method_17_code, exceptionTable := #[], attributes := #[] }
def k3m1 : Method := { name := "contains", desc := "(Lcom/example/adept_layout/adeptlayout/geometry/Box;)Z", sig := { parameters := [(.object "com/example/adept_layout/adeptlayout/geometry/Box")], returnType := some .boolean }, accessFlags := 1, code := some k3c1 }
/-- com/example/adept_layout/adeptlayout/geometry/Box -/
def k3 : Class := { plain "com/example/adept_layout/adeptlayout/geometry/Box" (some 0) with
  accessFlags := 49
  interfaces := #[]
  cf := some (fileOf pool3 14 #[] #[{ accessFlags := 1, nameIndex := 5, descriptorIndex := 44, attributes := #[] }, { accessFlags := 1, nameIndex := 131, descriptorIndex := 130, attributes := #[] }] 49 2 #[] #[{ accessFlags := 18, nameIndex := 17, descriptorIndex := 18, attributes := #[] }, { accessFlags := 18, nameIndex := 24, descriptorIndex := 18, attributes := #[] }, { accessFlags := 18, nameIndex := 27, descriptorIndex := 18, attributes := #[] }, { accessFlags := 18, nameIndex := 30, descriptorIndex := 18, attributes := #[] }])
  fields := #[{ name := "left", type := .double, accessFlags := 18, slot := 0, constantValue := 0 }, { name := "top", type := .double, accessFlags := 18, slot := 1, constantValue := 0 }, { name := "right", type := .double, accessFlags := 18, slot := 2, constantValue := 0 }, { name := "bottom", type := .double, accessFlags := 18, slot := 3, constantValue := 0 }]
  methods := #[k3m0, k3m1]
  instanceTypes := #[.double, .double, .double, .double]
  staticTypes := #[]
  resolved := Array.replicate 143 none
  statics := none }

def pool4 : Array CpInfo := pool [(1, .methodref 2 3), (0, .class_ 4), (0, .nameAndType 5 6), (0, u "java/lang/Object"), (0, u "<init>"), (0, u "()V"), (0, .fieldref 8 9), (0, .class_ 10), (0, .nameAndType 11 12), (0, u "com/example/adept_layout/adeptlayout/geometry/Point"), (0, u "x"), (0, u "D"), (0, .fieldref 8 14), (0, .nameAndType 15 12), (0, u "y"), (10, u "(DD)V"), (6, u "TOLERANCE"), (1, u "FARTHEST"), (2, u "()D")] 11

def k4c0 : Code := { maxStack := 3, maxLocals := 5, code := prog_3_method_1_code, exceptionTable := #[], attributes := #[] }
def k4m0 : Method := { name := "<init>", desc := "(DD)V", sig := { parameters := [.double, .double], returnType := none }, accessFlags := 1, code := some k4c0 }
def k4c1 : Code := { maxStack := 2, maxLocals := 1, code := prog_3_method_2_code, exceptionTable := #[], attributes := #[] }
def k4m1 : Method := { name := "x", desc := "()D", sig := { parameters := [], returnType := some .double }, accessFlags := 1, code := some k4c1 }
def k4c2 : Code := { maxStack := 2, maxLocals := 1, code := prog_3_method_3_code, exceptionTable := #[], attributes := #[] }
def k4m2 : Method := { name := "y", desc := "()D", sig := { parameters := [], returnType := some .double }, accessFlags := 1, code := some k4c2 }
/-- com/example/adept_layout/adeptlayout/geometry/Point -/
def k4 : Class := { plain "com/example/adept_layout/adeptlayout/geometry/Point" (some 0) with
  accessFlags := 49
  interfaces := #[]
  cf := some (fileOf pool4 8 #[] #[{ accessFlags := 1, nameIndex := 5, descriptorIndex := 26, attributes := #[] }, { accessFlags := 1, nameIndex := 11, descriptorIndex := 38, attributes := #[] }, { accessFlags := 1, nameIndex := 15, descriptorIndex := 38, attributes := #[] }] 49 2 #[] #[{ accessFlags := 25, nameIndex := 33, descriptorIndex := 12, attributes := #[] }, { accessFlags := 25, nameIndex := 35, descriptorIndex := 12, attributes := #[] }, { accessFlags := 18, nameIndex := 11, descriptorIndex := 12, attributes := #[] }, { accessFlags := 18, nameIndex := 15, descriptorIndex := 12, attributes := #[] }])
  fields := #[{ name := "TOLERANCE", type := .double, accessFlags := 25, slot := 0, constantValue := 0 }, { name := "FARTHEST", type := .double, accessFlags := 25, slot := 1, constantValue := 0 }, { name := "x", type := .double, accessFlags := 18, slot := 0, constantValue := 0 }, { name := "y", type := .double, accessFlags := 18, slot := 1, constantValue := 0 }]
  methods := #[k4m0, k4m1, k4m2]
  instanceTypes := #[.double, .double]
  staticTypes := #[.double, .double]
  resolved := Array.replicate 50 none
  statics := none }

def pool5 : Array CpInfo := pool [(1, u "java/lang/Cloneable"), (0, .class_ 1), (0, u "java/lang/Object"), (0, .class_ 3)] 3

/-- java/lang/Cloneable -/
def k5 : Class := { plain "java/lang/Cloneable" (some 0) with
  accessFlags := 1537
  interfaces := #[]
  cf := some (fileOf pool5 2 #[] #[] 1537 4 #[] #[])
  fields := #[]
  methods := #[]
  instanceTypes := #[]
  staticTypes := #[]
  resolved := Array.replicate 8 none
  statics := none }

def pool6 : Array CpInfo := pool [(1, u "java/io/Serializable"), (0, .class_ 1), (0, u "java/lang/Object"), (0, .class_ 3)] 3

/-- java/io/Serializable -/
def k6 : Class := { plain "java/io/Serializable" (some 0) with
  accessFlags := 1537
  interfaces := #[]
  cf := some (fileOf pool6 2 #[] #[] 1537 4 #[] #[])
  fields := #[]
  methods := #[]
  instanceTypes := #[]
  staticTypes := #[]
  resolved := Array.replicate 8 none
  statics := none }

/-- the primitive byte -/
def k7 : Class := { plain "byte" none with kind := .primitive 'B', accessFlags := 0x411 }
/-- [B -/
def k8 : Class := { plain "[B" (some 0) with kind := .array 7 .byte, interfaces := #[5, 6], accessFlags := 1041 }

/-- the primitive int -/
def k9 : Class := { plain "int" none with kind := .primitive 'I', accessFlags := 0x411 }
/-- [I -/
def k10 : Class := { plain "[I" (some 0) with kind := .array 9 .int, interfaces := #[5, 6], accessFlags := 1041 }

def heap : Heap := #[]
def classes : Array Class := #[k0, k1, k2, k3, k4, k5, k6, k7, k8, k9, k10]
def interned : List (Array UInt16 × Addr) := []
def slotsUsed : Nat := 0
def theMethod : MethodId := ⟨1, 2⟩
def args0 : Array Value := #[.int 5, .int 6, .int 7, .int 8, .int 9, .int 10]
def aboutOver (below : List Frame) : State where
  vm := { classes := classes, interned := interned.toArray }
  heap := heap
  slotsUsed := slotsUsed
  threads := #[{ frames := .invoking theMethod args0 :: below }]
def below0 : List Frame := [.native { method := ⟨0, 0⟩, args := #[] }]
def about1 : State := aboutOver below0
def p0 : Program := .bare "" "" ""
def e0 : Env := launch0.env 0 0 0
theorem w_frames : about1.frames = Frame.invoking theMethod args0 :: below0 := rfl
set_option maxRecDepth 65536 in
theorem w_args : argsFit about1.vm theMethod args0 = true := by decide +kernel
set_option maxRecDepth 65536 in
theorem w_heap : heapFits about1 = true := by decide +kernel
set_option maxRecDepth 65536 in
theorem w_runnable : about1.curStatus? = some .runnable := by decide +kernel
set_option maxRecDepth 65536 in
theorem w_alone : about1.alone = true := by decide +kernel
set_option maxRecDepth 65536 in
theorem w_named : about1.methodNamed? x = some theMethod := by decide +kernel
set_option maxRecDepth 65536 in
theorem w_hears : about1.hears theMethod below0 = true := by decide +kernel
set_option maxRecDepth 65536 in
theorem w_ripe : about1.ripe theMethod args0 below0 = true := by decide +kernel
theorem w_running : about1.status = .running := rfl
set_option maxRecDepth 65536 in
theorem w_room : about1.hasRoom e0.platform room_1 = true :=
  launch0.hasRoom_least _ room_1 (by decide +kernel) (by decide +kernel) (by decide +kernel) (by decide +kernel) (by decide +kernel) (by decide +kernel)
theorem allAtoms_all (ts : List Jvm.Cond) (a : Array Jvm.Value) (st : Jvm.State) : (allAtoms ts).before a st = ts.all (fun c => c.before a st) := by
  induction ts with
  | nil => rfl
  | cons c t ih =>
    show (Jvm.Cond.and c (allAtoms t)).before a st = _
    rw [Jvm.Cond.before_and, ih, List.all_cons]
def words1 : List Jvm.Cond := Jvm.Cond.code x code maxLocals ret :: tables_1
/-- a 'code' word, met by the world's own term for the bytes: nothing is compared byte by byte -/
theorem code_word {y : MethodName} {bytes : ByteArray} {mx : Nat} {rt : Option FieldType} {a : Array Value} {s : State} {m : MethodId} {meth : Method} {c : Code} (h1 : s.methodNamed? y = some m) (h2 : s.vm.method? m = some meth) (h3 : meth.code = some c) (h4 : c.code = bytes)
    (h5 : (c.maxLocals == mx && c.exceptionTable.isEmpty && decide (c.maxStack ≤ mostOperands) && decide (meth.sig.returnType = rt) && !meth.locks && decide (parseMethodDescriptor y.desc = some meth.sig)) = true) : (Jvm.Cond.code y bytes mx rt).before a s = true := by
  simp only [Bool.and_eq_true, beq_iff_eq, Bool.not_eq_true', decide_eq_true_eq] at h5
  obtain ⟨⟨⟨⟨⟨g1, g2⟩, g3⟩, g4⟩, g5⟩, g6⟩ := h5
  simp [Cond.before, Cond.holds, Cond.value, h1, h2, h3, h4, g1, g2, g3, g4, g5, g6]
def isCode : Jvm.Cond → Bool
  | .code _ _ _ _ => true
  | _ => false
theorem all_split {L : List Jvm.Cond} {P : Jvm.Cond → Bool} (h1 : L.all (fun c => isCode c || P c) = true) (h2 : ∀ c ∈ L.filter isCode, P c = true) : L.all P = true := by
  refine List.all_eq_true.mpr fun c hc => ?_
  have h := List.all_eq_true.mp h1 c hc
  rcases Bool.eq_false_or_eq_true (isCode c) with hi | hi
  · exact h2 c (List.mem_filter.mpr ⟨hc, hi⟩)
  · simpa [hi] using h
set_option maxRecDepth 65536 in
theorem w_c0 : (Jvm.Cond.code x code maxLocals ret).before args0 about1 = true := code_word (m := ⟨1, 2⟩) (meth := k1m2) (c := k1c2) (by decide +kernel) rfl rfl rfl (by decide +kernel)
set_option maxRecDepth 65536 in
theorem w_c1 : (Jvm.Cond.code ({ cls := "java/lang/Math", name := "max", desc := "(JJ)J" } : Jvm.MethodName) jdk_29_method_66_code (4 : Nat) (Option.some Jvm.ClassFile.FieldType.long)).before args0 about1 = true := code_word (m := ⟨2, 1⟩) (meth := k2m1) (c := k2c1) (by decide +kernel) rfl rfl rfl (by decide +kernel)
set_option maxRecDepth 65536 in
theorem w_c2 : (Jvm.Cond.code ({ cls := "com/example/adept_layout/adeptlayout/geometry/BoxContainsPinLaw", name := "u", desc := "(J)D" } : Jvm.MethodName) method_2_code (2 : Nat) (Option.some Jvm.ClassFile.FieldType.double)).before args0 about1 = true := code_word (m := ⟨1, 1⟩) (meth := k1m1) (c := k1c1) (by decide +kernel) rfl rfl rfl (by decide +kernel)
set_option maxRecDepth 65536 in
theorem w_c3 : (Jvm.Cond.code ({ cls := "com/example/adept_layout/adeptlayout/geometry/Point", name := "<init>", desc := "(DD)V" } : Jvm.MethodName) prog_3_method_1_code (5 : Nat) (Option.none : Option Jvm.ClassFile.FieldType)).before args0 about1 = true := code_word (m := ⟨4, 0⟩) (meth := k4m0) (c := k4c0) (by decide +kernel) rfl rfl rfl (by decide +kernel)
set_option maxRecDepth 65536 in
theorem w_c4 : (Jvm.Cond.code ({ cls := "java/lang/Object", name := "<init>", desc := "()V" } : Jvm.MethodName) object_method_1_code (1 : Nat) (Option.none : Option Jvm.ClassFile.FieldType)).before args0 about1 = true := code_word (m := ⟨0, 0⟩) (meth := k0m0) (c := k0c0) (by decide +kernel) rfl rfl rfl (by decide +kernel)
set_option maxRecDepth 65536 in
theorem w_c5 : (Jvm.Cond.code ({ cls := "com/example/adept_layout/adeptlayout/geometry/Box", name := "<init>", desc := "(Lcom/example/adept_layout/adeptlayout/geometry/Point;DD)V" } : Jvm.MethodName) prog_1_method_1_code (6 : Nat) (Option.none : Option Jvm.ClassFile.FieldType)).before args0 about1 = true := code_word (m := ⟨3, 0⟩) (meth := k3m0) (c := k3c0) (by decide +kernel) rfl rfl rfl (by decide +kernel)
set_option maxRecDepth 65536 in
theorem w_c6 : (Jvm.Cond.code ({ cls := "com/example/adept_layout/adeptlayout/geometry/Point", name := "x", desc := "()D" } : Jvm.MethodName) prog_3_method_2_code (1 : Nat) (Option.some Jvm.ClassFile.FieldType.double)).before args0 about1 = true := code_word (m := ⟨4, 1⟩) (meth := k4m1) (c := k4c1) (by decide +kernel) rfl rfl rfl (by decide +kernel)
set_option maxRecDepth 65536 in
theorem w_c7 : (Jvm.Cond.code ({ cls := "com/example/adept_layout/adeptlayout/geometry/Point", name := "y", desc := "()D" } : Jvm.MethodName) prog_3_method_3_code (1 : Nat) (Option.some Jvm.ClassFile.FieldType.double)).before args0 about1 = true := code_word (m := ⟨4, 2⟩) (meth := k4m2) (c := k4c2) (by decide +kernel) rfl rfl rfl (by decide +kernel)
set_option maxRecDepth 65536 in
theorem w_c8 : (Jvm.Cond.code ({ cls := "com/example/adept_layout/adeptlayout/geometry/Box", name := "contains", desc := "(Lcom/example/adept_layout/adeptlayout/geometry/Box;)Z" } : Jvm.MethodName) prog_1_method_17_code (2 : Nat) (Option.some Jvm.ClassFile.FieldType.boolean)).before args0 about1 = true := code_word (m := ⟨3, 1⟩) (meth := k3m1) (c := k3c1) (by decide +kernel) rfl rfl rfl (by decide +kernel)
def codes1 : List Jvm.Cond := [Jvm.Cond.code x code maxLocals ret, Jvm.Cond.code ({ cls := "java/lang/Math", name := "max", desc := "(JJ)J" } : Jvm.MethodName) jdk_29_method_66_code (4 : Nat) (Option.some Jvm.ClassFile.FieldType.long), Jvm.Cond.code ({ cls := "com/example/adept_layout/adeptlayout/geometry/BoxContainsPinLaw", name := "u", desc := "(J)D" } : Jvm.MethodName) method_2_code (2 : Nat) (Option.some Jvm.ClassFile.FieldType.double), Jvm.Cond.code ({ cls := "com/example/adept_layout/adeptlayout/geometry/Point", name := "<init>", desc := "(DD)V" } : Jvm.MethodName) prog_3_method_1_code (5 : Nat) (Option.none : Option Jvm.ClassFile.FieldType), Jvm.Cond.code ({ cls := "java/lang/Object", name := "<init>", desc := "()V" } : Jvm.MethodName) object_method_1_code (1 : Nat) (Option.none : Option Jvm.ClassFile.FieldType), Jvm.Cond.code ({ cls := "com/example/adept_layout/adeptlayout/geometry/Box", name := "<init>", desc := "(Lcom/example/adept_layout/adeptlayout/geometry/Point;DD)V" } : Jvm.MethodName) prog_1_method_1_code (6 : Nat) (Option.none : Option Jvm.ClassFile.FieldType), Jvm.Cond.code ({ cls := "com/example/adept_layout/adeptlayout/geometry/Point", name := "x", desc := "()D" } : Jvm.MethodName) prog_3_method_2_code (1 : Nat) (Option.some Jvm.ClassFile.FieldType.double), Jvm.Cond.code ({ cls := "com/example/adept_layout/adeptlayout/geometry/Point", name := "y", desc := "()D" } : Jvm.MethodName) prog_3_method_3_code (1 : Nat) (Option.some Jvm.ClassFile.FieldType.double), Jvm.Cond.code ({ cls := "com/example/adept_layout/adeptlayout/geometry/Box", name := "contains", desc := "(Lcom/example/adept_layout/adeptlayout/geometry/Box;)Z" } : Jvm.MethodName) prog_1_method_17_code (2 : Nat) (Option.some Jvm.ClassFile.FieldType.boolean)]
set_option maxRecDepth 65536 in
theorem codes_eq : words1.filter isCode = codes1 := rfl
theorem w_codes : ∀ c ∈ words1.filter isCode, c.before args0 about1 = true := by
  rw [codes_eq]
  intro c hc
  simp only [codes1, List.mem_cons, List.not_mem_nil, or_false] at hc
  rcases hc with rfl | rfl | rfl | rfl | rfl | rfl | rfl | rfl | rfl
  · exact w_c0
  · exact w_c1
  · exact w_c2
  · exact w_c3
  · exact w_c4
  · exact w_c5
  · exact w_c6
  · exact w_c7
  · exact w_c8
set_option maxRecDepth 65536 in
theorem w_t1 : (words1.take 24).all (fun c => isCode c || c.before args0 about1) = true := by decide +kernel
set_option maxRecDepth 65536 in
theorem w_t2 : ((words1.drop 24).take 24).all (fun c => isCode c || c.before args0 about1) = true := by decide +kernel
set_option maxRecDepth 65536 in
theorem w_t3 : ((words1.drop 24).drop 24).all (fun c => isCode c || c.before args0 about1) = true := by decide +kernel
theorem w_tables : (allAtoms (Jvm.Cond.code x code maxLocals ret :: tables_1)).before args0 about1 = true := by
  rw [allAtoms_all]
  show words1.all (fun c => c.before args0 about1) = true
  refine all_split ?_ w_codes
  rw [← List.take_append_drop 24 words1, List.all_append, w_t1, ← List.take_append_drop 24 (words1.drop 24), List.all_append, w_t2, w_t3]
  rfl
set_option maxRecDepth 65536 in
theorem w_case : (Jvm.Cond.and given_1 narrow_1).before args0 about1 = true := by decide +kernel
theorem w_applies : (headSpec (Jvm.Cond.code x code maxLocals ret :: tables_1) room_1).applies x e0.platform about1 = true :=
  (Spec.applies_iff w_frames).mpr ⟨w_running, w_runnable, w_alone, w_named, w_hears, w_ripe, w_room, w_tables⟩
theorem atStart : AtStart classFile x code maxLocals ret World_1 tables_1 room_1 Calls_1 rest_1 Pre_1 launch0 p0 e0 about1 theMethod args0 below0 :=
  ⟨lists_1, trivial, launch0.admits_env _ _ _, launch0.least_env, fairChoices_fair.cas, fairChoices_fair.clock, w_frames, w_args, w_heap, w_applies, trivial, trivial, w_case⟩
end start1
theorem witness_1 : WitnessClaimed_1 := ⟨start1.p0, start1.e0, start1.about1, start1.theMethod, start1.args0, start1.below0, start1.atStart⟩
end Jvm.Pilot.@@N@@
