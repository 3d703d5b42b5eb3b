import JvmDerived
import JvmDerived.Pilot.@@N@@Statement
import JvmDerived.Pilot.@@N@@Code
set_option linter.unusedVariables false
set_option linter.unusedSimpArgs false
namespace Jvm.RoadKit
open Sem ClassFile Op Lib Jvm.Stand Jvm.Free Jvm.LawKit
section New
variable {p : Program} {l : Launch} {e : Env} {R : Room} {s : State} {m : MethodId} {args : Array Value} {below : List Frame} {meth : Method} {c : Code} {T : State} {locs : List Loc} {cells slots : Nat}
theorem retI (X : Stand p l e R s m args below meth c T locs cells slots) (hx : p.tables.exec = Jvm.exec) {pc : Nat} {Ls : Array Slot} {z : Int32} {rest : List Value} (hret : meth.sig.returnType = some .int) (hd : decode c.code pc = .ok (.ireturn, 1)) {fs : List Frame}
    (hl : ∀ (f : JFrame) (acts : List Action), f.method = m → f.locked = none → f.entered = [] → (doReturn e (T.setTop f) acts (some (.int z))).1 = T.setFrames fs) : Steps p.tables e below (T.setTop (mkF m pc Ls (.int z :: rest))) (T.setFrames fs) := by
  have hm' : T.vm.method? m = some meth := X.method'
  have hn : narrow .int (.int z) = .int z := rfl
  show Steps p.tables e below (T.setTop { method := m, pc := pc, locals := Ls, stack := _ :: rest, locked := none }) _
  jvm_step X.here [X.here.top, hx, hd, hm', hret, hn]
  first | (intro acts; rw [hl _ acts rfl rfl rfl]) | rw [hl _ _ rfl rfl rfl]
  exact Steps.refl _
/-- the run comes from S to a state of which Φ holds -/
def ownGo (tb : Tables) (e : Env) (below : List Frame) (S : State) (Φ : State → Prop) : Prop := ∃ t, Steps tb e below S t ∧ Φ t
theorem ownStep {tb : Tables} {S S' : State} {Φ : State → Prop} (h : ∀ t, Steps tb e below S' t → Steps tb e below S t) (k : ownGo tb e below S' Φ) : ownGo tb e below S Φ := by
  obtain ⟨t, a, b⟩ := k; exact ⟨t, h t a, b⟩
/-- a body's end: what its contract says -/
def ownEnd (below : List Frame) (s : State) (Q : Option Value → Heap → List Loc → Prop) (k n : Nat) (t : State) : Prop :=
  t.status = .running ∧ ∃ v L, Ended t below (.returned v) ∧ Q v t.heap L ∧ FrameEnd s (.returned v) t L k n
theorem ownFin {tb : Tables} {S : State} {Q : Option Value → Heap → List Loc → Prop} {k n : Nat} (h : ownGo tb e below S (ownEnd below s Q k n)) :
    ∃ s₂ o, Steps tb e below S s₂ ∧ s₂.status = .running ∧ Ended s₂ below o ∧ ∃ v L, o = .returned v ∧ Q v s₂.heap L ∧ FrameEnd s o s₂ L k n := by
  obtain ⟨t, a, b, v, L, c1, d, f⟩ := h; exact ⟨t, _, a, b, c1, v, L, rfl, d, f⟩
theorem ownRet (X : Stand p l e R s m args below meth c T locs cells slots) {g : JFrame} {v : Option Value} {Q : Option Value → Heap → List Loc → Prop} {k n : Nat} (hlocks : meth.locks = false) (hv : meth.sig.returnType = none → v = none)
    (hs : ∀ fs, (∀ (f : JFrame) (acts : List Action), f.method = m → f.locked = none → f.entered = [] → (doReturn e (T.setTop f) acts v).1 = T.setFrames fs) → Steps p.tables e below (T.setTop g) (T.setFrames fs))
    (hQ : Q v T.heap locs) (hc : cells ≤ k) (hn : slots ≤ n) : ownGo p.tables e below (T.setTop g) (ownEnd below s Q k n) := by
  obtain ⟨fs, hr, hrun, hended, hW, hsame⟩ := X.leave hv hlocks
  exact ⟨_, hs fs hr, hrun, v, locs, hended, hQ, ⟨_, rfl⟩, hW, hsame.mono hc hn⟩
def ownEndW (below : List Frame) (s : State) (Q : Option Value → Heap → List Loc → Prop) (k n : Nat) (t : State) : Prop :=
  t.status = .running ∧ ∃ v L, Ended t below (.returned v) ∧ Q v t.heap L ∧ ReturnedEndW s (.returned v) t L k n
theorem ownFinW {tb : Tables} {S : State} {Q : Option Value → Heap → List Loc → Prop} {k n : Nat} (h : ownGo tb e below S (ownEndW below s Q k n)) :
    ∃ s₂ o, Steps tb e below S s₂ ∧ s₂.status = .running ∧ Ended s₂ below o ∧ ∃ v L, o = .returned v ∧ Q v s₂.heap L ∧ ReturnedEndW s o s₂ L k n := by
  obtain ⟨t, a, b, v, L, c1, d, f⟩ := h; exact ⟨t, _, a, b, c1, v, L, rfl, d, f⟩
theorem ownRetW {vm1 : Vm} (X : Stand p l e R (s.setVm vm1) m args below meth c T locs cells slots) {k0 : Nat} (hS : s.Since vm1 k0) (hk : k0 ≤ T.heap.size) {g : JFrame} {v : Option Value} {Q : Option Value → Heap → List Loc → Prop} {k n : Nat} (hlocks : meth.locks = false) (hv : meth.sig.returnType = none → v = none)
    (hs : ∀ fs, (∀ (f : JFrame) (acts : List Action), f.method = m → f.locked = none → f.entered = [] → (doReturn e (T.setTop f) acts v).1 = T.setFrames fs) → Steps p.tables e below (T.setTop g) (T.setFrames fs))
    (hQ : Q v T.heap locs) (hc : cells ≤ k) (hn : slots ≤ n) : ownGo p.tables e below (T.setTop g) (ownEndW below s Q k n) := by
  obtain ⟨fs, hr, hrun, hended, h1, h2, h3, hsame⟩ := X.leaveW hS hk hv hlocks
  exact ⟨_, hs fs hr, hrun, v, locs, hended, hQ, h1, h2, h3, hsame.mono hc hn⟩
end New
section Heaps
variable {Z : State} {h h' h0 : Heap} {ws : List Addr}
theorem own_extOf (K : Keep h h' []) : Ext h h' := ⟨K.1, fun a c q => K.2.1 a c q nin0⟩
theorem own_extRefl (h : Heap) : Ext h h := ⟨Nat.le_refl _, fun _ _ q => q⟩
theorem own_extTrans {h2 : Heap} (E : Ext h h') (F : Ext h' h2) : Ext h h2 := ⟨Nat.le_trans E.1 F.1, fun a c q => F.2 a c (E.2 a c q)⟩
theorem own_staKeep {C n d : String} {w : Value} (F : Sta Z h C n d w) (K : Keep h h' ws) (q : ∀ x ∈ ws, ∀ cell : Cell, h[x]? = some cell → cell.vm.isStatics = false) : Sta Z h' C n d w := by
  obtain ⟨cf, i, k, f, st, cell, h1, h2, h3, h4, h5, h6, h7⟩ := F
  exact ⟨cf, i, k, f, st, cell, h1, h2, h3, h4, K.2.1 st cell h5 (fun z => by rw [q st z cell h5] at h6; cases h6), h6, h7⟩
theorem own_insKeep {a : Addr} {C : String} {b : Bool} (F : Ins Z h a C b) (K : Keep h h' ws) : Ins Z h' a C b := by
  obtain ⟨cell, cT, h1, h2, h3⟩ := F
  obtain ⟨c', e1, e2, e3, -⟩ := K.2.2 a cell h1
  exact ⟨c', cT, e1, h2, by rw [e2, e3]; exact h3⟩
theorem own_scrSet {a : Addr} {cl : Cell} {z j x : Int32} (F : Scr Z h a cl z) (hj : ¬ (j < 0 ∨ cl.slots.size ≤ j.toNatClampNeg)) (W : Wr h h' a j.toNatClampNeg (.int x)) : ∃ cl', Scr Z h' a cl' z := by
  obtain ⟨A, S, N, H⟩ := F
  refine ⟨_, A.same W, by rw [sz_set]; exact S, N, fun i hi => ?_⟩
  rw [sz_set] at hi
  by_cases e : i = j
  · have q := get_hit (v := Value.int x) hj e
    rw [q, atv_of q]
  · have q := get_miss (c := cl) (v := Value.int x) (fun y => hj (Or.inl y)) (fun y => hi (Or.inl y)) e
    have r := H i hi
    rw [← q] at r
    rw [r, atv_of r]
theorem own_scrOf {a : Addr} {k : ClassId} {z : Int32} {vs : List Value} {d : Value} (F : Arv Z h a k .int z vs d) : ∃ cl, Scr Z h a cl z := by
  obtain ⟨c, A, q, S, N, H, G⟩ := F
  refine ⟨c, A, S, N, fun i hi => ?_⟩
  have lt : i.toNatClampNeg < c.slots.size := Nat.lt_of_not_le fun y => hi (Or.inr y)
  obtain ⟨w, hw⟩ := fit_I (G _ lt) (Or.inl rfl)
  have e := H _ lt
  rw [hw] at e
  rw [e, atv_of e]
end Heaps
section Start
variable {args : Array Value} {first s : State} {o : Option Outcome} {idx : List Nat} {t : Term}
theorem own_eqI {k : Int32} (h : (Cond.eq t (.int k)).value args first o s idx = some true) : t.eval args first o idx s = some (.int k) := by
  simp only [Cond.value, Term.eval] at h
  cases ht : t.eval args first o idx s with
  | none => simp [ht] at h
  | some x => cases x <;> simp [ht] at h ⊢; exact h
theorem own_eqJ {k : Int64} (h : (Cond.eq t (.long k)).value args first o s idx = some true) : t.eval args first o idx s = some (.long k) := by
  simp only [Cond.value, Term.eval] at h
  cases ht : t.eval args first o idx s with
  | none => simp [ht] at h
  | some x => cases x <;> simp [ht] at h ⊢; exact h
theorem own_len0 {k : Int32} {a : Addr} {cl : Cell} {ty : FieldType} (h : (Term.length t).eval args first o idx s = some (.int k)) (ht : t.eval args first o idx s = some (.ref a)) (A : Arr s s.heap a cl ty) : cl.slots.size < 2 ^ 31 ∧ cl.slots.size.toInt32 = k := by
  have e5 := A.fin (U := s) (Vm.Alike.refl _)
  simp only [Term.eval, ht, Option.bind_eq_bind, Option.bind_some, e5] at h
  by_cases q : cl.slots.size < 2 ^ 31
  · rw [if_pos q] at h; exact ⟨q, Value.int.inj (Option.some.inj h)⟩
  · rw [if_neg q] at h; cases h
theorem own_idxsub {k j : Int32} (hj : ¬ j < 0) : (Term.sub (.index 0) (.int k)).eval args s o [j.toNatClampNeg] s = some (.int (j - k)) := by
  have q : (Term.index 0).eval args s o [j.toNatClampNeg] s = some (.int j) := idx_at hj
  simp only [Term.eval] at q ⊢
  simpa using q
theorem own_arv0 {Z : State} {a : Addr} {cl : Cell} {ty : FieldType} {d : Value} (A : Arr Z s.heap a cl ty) (h : cl.slots.size < 2 ^ 31 ∧ cl.slots.size.toInt32 = (0 : Int32)) : Arv Z s.heap a cl.cls ty (0 : Int32) [] d := by
  have z : cl.slots.size = 0 := by
    have q := len_toInt h.1
    rw [h.2] at q
    have e0 : (0 : Int32).toInt = 0 := by decide
    omega
  exact ⟨cl, A, rfl, z, by decide, fun k hk => absurd hk (by omega), fun k hk => absurd hk (by omega)⟩
end Start
end Jvm.RoadKit
namespace OwnD
open Jvm.FP.Core
/-- 2^-22, in units of the least double -/
def UN : Nat := 2 ^ 1052
def UU : Int := ((UN : Nat) : Int)
theorem one_UU : ((one64 : Nat) : Int) = 4194304 * UU := by
  have q : one64 = 4194304 * UN := by unfold one64 UN; decide +kernel
  unfold UU; rw [q]; exact Int.natCast_mul _ _
theorem pow_UN : 2 ^ (-22 - b64.qmin).toNat = UN := by unfold UN; rw [show (-22 - b64.qmin).toNat = 1052 by decide]
theorem signed_abs (n : Int) : signed (decide (n < 0)) n.natAbs = n := by
  unfold signed
  by_cases h : n < 0 <;> simp [h] <;> omega
theorem UU_pos : 0 < UU := by
  have : 0 < UN := Nat.two_pow_pos _
  unfold UU; omega
/-- a finite double worth n * 2^-22 -/
def Zd (n : Int) (x : UInt64) : Prop := DFin x ∧ zval b64 (val64 x) = n * UU
/-- a double, no NaN, from lo * 2^-22 to hi * 2^-22 -/
def Bz (lo hi : Int) (x : UInt64) : Prop := val64 x ≠ .nan ∧ lo * UU ≤ zval b64 (val64 x) ∧ zval b64 (val64 x) ≤ hi * UU
theorem fit (n : Int) (h : n.natAbs < 2 ^ 53) : ∃ V, fits b64 V ∧ V ≠ .nan ∧ zval b64 V = n * UU := by
  obtain ⟨c', q', h1, h2⟩ := round_exact (f := b64) good_b64 (decide (n < 0)) (c := n.natAbs) (q := -22) h (by decide) (by decide)
  refine ⟨_, round_fits good_b64 (.fin (decide (n < 0)) n.natAbs (-22)), by rw [h1]; exact Datum.noConfusion, ?_⟩
  rw [h1]
  show signed (decide (n < 0)) (inUnits c' q' b64.qmin) = _
  rw [h2]
  have e : inUnits n.natAbs (-22) b64.qmin = n.natAbs * UN := by unfold inUnits; rw [pow_UN]
  rw [e, signed_mul, signed_abs]
  rfl
theorem round_fin {s : Bool} {c : Nat} {q e0 : Int} {n : Int} (hn : n.natAbs < 2 ^ 53) (h0 : e0 ≤ b64.qmin) (h0e : e0 ≤ q)
    (h : signed s (inUnits c q e0) = n * UU * ((2 ^ (b64.qmin - e0).toNat : Nat) : Int)) :
    (∃ s' c' q', round b64 (.fin s c q) = .fin s' c' q') ∧ zval b64 (round b64 (.fin s c q)) = n * UU := by
  obtain ⟨V, v1, v2, v3⟩ := fit n hn
  have a := zval_round_le good_b64 (s := s) (c := c) (q := q) v1 v2 h0 h0e (by rw [h, v3]; exact Int.le_refl _)
  have b := zval_round_ge good_b64 (s := s) (c := c) (q := q) v1 v2 h0 h0e (by rw [h, v3]; exact Int.le_refl _)
  have e : zval b64 (round b64 (.fin s c q)) = n * UU := by rw [← v3]; exact Int.le_antisymm a b
  refine ⟨?_, e⟩
  rcases roundRatio_cases b64 s c 1 q with ⟨c', q', hr⟩ | hr
  · exact ⟨s, c', q', hr⟩
  · exfalso
    have hr' : round b64 (.fin s c q) = .inf s := hr
    rw [hr'] at e
    have z := congrArg Int.natAbs e
    unfold zval at z
    rw [natAbs_signed, Int.natAbs_mul] at z
    have y : UU.natAbs = UN := by unfold UU; exact Int.natAbs_natCast _
    rw [y] at z
    have t : zmag b64 (.inf s) = 2 ^ 53 * UN * 2 ^ 993 := by
      show b64.tails * 2 ^ (b64.exps - 2) = _
      unfold UN; decide +kernel
    rw [t] at z
    have lt : n.natAbs * UN < 2 ^ 53 * UN := Nat.mul_lt_mul_of_pos_right hn (Nat.two_pow_pos _)
    have le : 2 ^ 53 * UN * 1 ≤ 2 ^ 53 * UN * 2 ^ 993 := Nat.mul_le_mul_left _ (Nat.one_le_two_pow)
    rw [Nat.mul_one] at le
    exact absurd (Nat.lt_of_lt_of_le lt le) (by rw [← z]; exact Nat.lt_irrefl _)
theorem sum_exact {x y : UInt64} {n m : Int} (hx : Zd n x) (hy : Zd m y) (h : (n + m).natAbs < 2 ^ 53) : Zd (n + m) (Jvm.FP.Core.dadd x y) := by
  obtain ⟨⟨s, c, q, ex⟩, zx⟩ := hx
  obtain ⟨⟨t, d, r, ey⟩, zy⟩ := hy
  have fx : fits b64 (.fin s c q) := ex ▸ val64_fits x
  have fy : fits b64 (.fin t d r) := ey ▸ val64_fits y
  obtain ⟨sg, k, e, h1, h2, h3⟩ := sum_units fx fy
  have E := val64_dadd x y
  rw [ex, ey, h1] at E
  rw [ex] at zx; rw [ey] at zy
  obtain ⟨⟨s', c', q', a⟩, b⟩ := round_fin (s := sg) (c := k) (q := e) (e0 := b64.qmin) h (Int.le_refl _) h2 (by rw [h3, zx, zy, Int.sub_self, ← Int.add_mul]; simp)
  exact ⟨⟨s', c', q', E.trans a⟩, by rw [E]; exact b⟩
theorem neg_exact {y : UInt64} {m : Int} (hy : Zd m y) : Zd (-m) (Jvm.FP.Core.dneg y) := by
  obtain ⟨⟨t, d, r, ey⟩, zy⟩ := hy
  have E := Jvm.FP.Core.val64_dneg y
  refine ⟨⟨_, _, _, E.trans (by rw [ey]; rfl)⟩, ?_⟩
  rw [E, zval_negate, zy, Int.neg_mul]
theorem sub_exact {x y : UInt64} {n m : Int} (hx : Zd n x) (hy : Zd m y) (h : (n - m).natAbs < 2 ^ 53) : Zd (n - m) (Jvm.FP.Core.dsub x y) := by
  rw [dsub_eq]
  exact sum_exact hx (neg_exact hy) h
/-- a sum with a double that is worth between lo and hi -/
theorem sum_between {x y : UInt64} {n lo hi : Int} (hx : Zd n x) (hy : DFin y) (h1 : lo * UU ≤ zval b64 (val64 y)) (h2 : zval b64 (val64 y) ≤ hi * UU)
    (k1 : (n + lo).natAbs < 2 ^ 53) (k2 : (n + hi).natAbs < 2 ^ 53) : Bz (n + lo) (n + hi) (Jvm.FP.Core.dadd x y) := by
  obtain ⟨⟨s, c, q, ex⟩, zx⟩ := hx
  obtain ⟨t, d, r, ey⟩ := hy
  have fx : fits b64 (.fin s c q) := ex ▸ val64_fits x
  have fy : fits b64 (.fin t d r) := ey ▸ val64_fits y
  obtain ⟨sg, k, e, g1, g2, g3⟩ := sum_units fx fy
  have E := val64_dadd x y
  rw [ex, ey, g1] at E
  rw [ex] at zx; rw [ey] at h1 h2
  obtain ⟨V, v1, v2, v3⟩ := fit _ k1
  obtain ⟨W, w1, w2, w3⟩ := fit _ k2
  refine ⟨by rw [E]; exact roundRatio_ne_nan _ _ _ _ _, ?_, ?_⟩
  · rw [E, ← v3]
    exact zval_round_ge good_b64 v1 v2 (Int.le_refl _) g2 (by rw [g3, v3, zx, Int.sub_self, Int.add_mul]; simpa using h1)
  · rw [E, ← w3]
    exact zval_round_le good_b64 w1 w2 (Int.le_refl _) g2 (by rw [g3, w3, zx, Int.sub_self, Int.add_mul]; simpa using h2)
theorem l2d_z {k : Int64} (h : k.toInt.natAbs ≤ 2 ^ 53) : DFin (Jvm.FP.Core.l2d k) ∧ zval b64 (val64 (Jvm.FP.Core.l2d k)) = k.toInt * ((one64 : Nat) : Int) := by
  have w := l2d_int h
  refine ⟨?_, ?_⟩
  · unfold DInt at w
    cases e : val64 (Jvm.FP.Core.l2d k) with
    | nan => rw [e] at w; exact w.elim
    | inf => rw [e] at w; exact w.elim
    | fin s c q => exact ⟨s, c, q, e⟩
  · rw [← pow_qmin64]; exact whole_zval good_b64 (val64_fits _) w
theorem l2d_exact {k : Int64} (h : (k.toInt * 4194304).natAbs < 2 ^ 53) : Zd (k.toInt * 4194304) (Jvm.FP.Core.l2d k) := by
  obtain ⟨a, b⟩ := l2d_z (k := k) (by omega)
  refine ⟨a, b.trans ?_⟩
  rw [one_UU, Int.mul_assoc]
/-- division by 2^21 -/
theorem div21 {k : Int64} (h : (k.toInt * 2).natAbs < 2 ^ 53) : Zd (k.toInt * 2) (Jvm.FP.Core.ddiv (Jvm.FP.Core.l2d k) 4701758010974797824) := by
  obtain ⟨⟨s, c, q, ex⟩, zx⟩ := l2d_z (k := k) (by omega)
  have E := val64_ddiv (Jvm.FP.Core.l2d k) 4701758010974797824
  have ed : val64 4701758010974797824 = .fin false (2 ^ 52) (-31) := by decide +kernel
  rw [ex, ed] at E
  have E2 : val64 (Jvm.FP.Core.ddiv (Jvm.FP.Core.l2d k) 4701758010974797824) = roundRatio b64 (s != false) c (2 ^ 52) (q - (-31)) := by
    rw [E]; unfold quotient; exact if_neg (by decide)
  have E3 : roundRatio b64 (s != false) c (2 ^ 52) (q - (-31)) = round b64 (.fin (s != false) c (q - 21)) := by
    show _ = roundRatio b64 (s != false) c 1 (q - 21)
    refine roundRatio_congr (by decide) (by decide) ?_
    rw [show (q - -31 - (q - 21)).toNat = 52 by omega, show (q - 21 - (q - -31)).toNat = 0 by omega]
    omega
  have fx : fits b64 (.fin s c q) := ex ▸ val64_fits _
  have hq := fx.2.1
  rw [ex] at zx
  have hs : (s != false) = s := by cases s <;> rfl
  obtain ⟨⟨s', c', q', a⟩, b⟩ := round_fin (s := s != false) (c := c) (q := q - 21) (e0 := b64.qmin - 21) h (by omega) (by omega) (by
    rw [hs]
    have z : signed s (inUnits c q b64.qmin) = k.toInt * ((one64 : Nat) : Int) := zx
    have u : inUnits c (q - 21) (b64.qmin - 21) = inUnits c q b64.qmin := by unfold inUnits; congr 2; omega
    rw [u, z, show (b64.qmin - (b64.qmin - 21)).toNat = 21 by omega, one_UU]
    have y : ((2 ^ 21 : Nat) : Int) = 2097152 := by decide
    rw [y, Int.mul_assoc, Int.mul_assoc, ← Int.mul_assoc 2 UU 2097152, Int.mul_comm (2 * UU) 2097152, ← Int.mul_assoc 2097152 2 UU]
    rfl)
  exact ⟨⟨s', c', q', (E2.trans E3).trans a⟩, by rw [E2, E3]; exact b⟩
/-- a whole number times 2^-20 -/
theorem mul20 {k : Int64} (h : (k.toInt * 4).natAbs < 2 ^ 53) : Zd (k.toInt * 4) (Jvm.FP.Core.dmul (Jvm.FP.Core.l2d k) 4517110426252607488) := by
  obtain ⟨⟨s, c, q, ex⟩, zx⟩ := l2d_z (k := k) (by omega)
  have ed : val64 4517110426252607488 = .fin false (2 ^ 52) (-72) := by decide +kernel
  have E := val64_dmul (Jvm.FP.Core.l2d k) 4517110426252607488
  have fx : fits b64 (.fin s c q) := ex ▸ val64_fits _
  have fd : fits b64 (.fin false (2 ^ 52) (-72)) := ed ▸ val64_fits _
  obtain ⟨p1, p2, p3⟩ := product_units fx fd
  rw [ex, ed, p1] at E
  rw [ex] at zx
  obtain ⟨⟨s', c', q', a⟩, b⟩ := round_fin (s := s != false) (c := c * 2 ^ 52) (q := q + -72) (e0 := 2 * b64.qmin) h (by decide) p2 (by
    rw [p3, signed_xor]
    have z : signed s (zmag b64 (.fin s c q)) = k.toInt * ((one64 : Nat) : Int) := zx
    have y : signed false (zmag b64 (.fin false (2 ^ 52) (-72))) = 4 * UU := by unfold UU UN; decide +kernel
    have w : 2 ^ (b64.qmin - 2 * b64.qmin).toNat = one64 := by unfold one64; decide +kernel
    rw [z, y, w, Int.mul_assoc, Int.mul_assoc, Int.mul_assoc, Int.mul_comm ((one64 : Nat) : Int) (4 * UU), Int.mul_assoc])
  exact ⟨⟨s', c', q', E.trans a⟩, by rw [E]; exact b⟩
/-- 1e-6 -/
theorem tol : DFin 4517329193108106637 ∧ 4 * UU ≤ zval b64 (val64 4517329193108106637) ∧ zval b64 (val64 4517329193108106637) ≤ 5 * UU := by
  have ed : val64 4517329193108106637 = .fin false 4722366482869645 (-72) := by decide +kernel
  refine ⟨⟨_, _, _, ed⟩, ?_, ?_⟩ <;> rw [ed] <;> unfold UU UN <;> decide +kernel
theorem add_tol {x : UInt64} {n : Int} (hx : Zd n x) (h : n.natAbs < 2 ^ 52) : Bz (n + 4) (n + 5) (Jvm.FP.Core.dadd x 4517329193108106637) :=
  sum_between hx tol.1 tol.2.1 tol.2.2 (by omega) (by omega)
theorem sub_tol {x : UInt64} {n : Int} (hx : Zd n x) (h : n.natAbs < 2 ^ 52) : Bz (n - 5) (n - 4) (Jvm.FP.Core.dsub x 4517329193108106637) := by
  rw [dsub_eq]
  obtain ⟨⟨t, d, r, ey⟩, t1, t2⟩ := tol
  have E := Jvm.FP.Core.val64_dneg 4517329193108106637
  have N : zval b64 (val64 (Jvm.FP.Core.dneg 4517329193108106637)) = -zval b64 (val64 4517329193108106637) := by rw [E, zval_negate]
  exact sum_between (lo := -5) (hi := -4) hx ⟨_, _, _, E.trans (by rw [ey]; rfl)⟩ (by rw [N]; omega) (by rw [N]; omega) (by omega) (by omega)
theorem Zd.ne_nan {n : Int} {x : UInt64} (h : Zd n x) : val64 x ≠ .nan := h.1.ne_nan
theorem Zd.bz {n : Int} {x : UInt64} (h : Zd n x) : Bz n n x := ⟨h.ne_nan, Int.le_of_eq h.2.symm, Int.le_of_eq h.2⟩
theorem Bz.no {lo hi : Int} {x : UInt64} (h : Bz lo hi x) : Jvm.FP.Core.dIsNaN x = false := (notNaN_iff x).mpr h.1
theorem cmp_lt {a b c d : Int} {x y : UInt64} (hx : Bz a b x) (hy : Bz c d y) (h : b < c) : Jvm.FP.Core.dcmp x y = some .lt := by
  rw [dcmp_zval hx.1 hy.1, (compare_lt_iff _ _).mpr]
  exact Int.lt_of_le_of_lt hx.2.2 (Int.lt_of_lt_of_le (Int.mul_lt_mul_of_pos_right h UU_pos) hy.2.1)
theorem cmp_gt {a b c d : Int} {x y : UInt64} (hx : Bz a b x) (hy : Bz c d y) (h : d < a) : Jvm.FP.Core.dcmp x y = some .gt := by
  rw [dcmp_zval hx.1 hy.1, (compare_gt_iff _ _).mpr]
  exact Int.lt_of_le_of_lt hy.2.2 (Int.lt_of_lt_of_le (Int.mul_lt_mul_of_pos_right h UU_pos) hx.2.1)
theorem cmp_ge {a b c d : Int} {x y : UInt64} (hx : Bz a b x) (hy : Bz c d y) (h : d ≤ a) : Jvm.FP.Core.dcmp x y = some .gt ∨ Jvm.FP.Core.dcmp x y = some .eq := by
  rw [dcmp_zval hx.1 hy.1]
  have q : zval b64 (val64 y) ≤ zval b64 (val64 x) := Int.le_trans hy.2.2 (Int.le_trans (Int.mul_le_mul_of_nonneg_right h (Int.le_of_lt UU_pos)) hx.2.1)
  rcases Int.lt_or_eq_of_le q with q | q
  · left; rw [(compare_gt_iff _ _).mpr q]
  · right; rw [(compare_eq_iff _ _).mpr q.symm]
theorem cmp_le {a b c d : Int} {x y : UInt64} (hx : Bz a b x) (hy : Bz c d y) (h : b ≤ c) : Jvm.FP.Core.dcmp x y = some .lt ∨ Jvm.FP.Core.dcmp x y = some .eq := by
  rw [dcmp_zval hx.1 hy.1]
  have q : zval b64 (val64 x) ≤ zval b64 (val64 y) := Int.le_trans hx.2.2 (Int.le_trans (Int.mul_le_mul_of_nonneg_right h (Int.le_of_lt UU_pos)) hy.2.1)
  rcases Int.lt_or_eq_of_le q with q | q
  · left; rw [(compare_lt_iff _ _).mpr q]
  · right; rw [(compare_eq_iff _ _).mpr q]
theorem cmp_eq {a : Int} {x y : UInt64} (hx : Zd a x) (hy : Zd a y) : Jvm.FP.Core.dcmp x y = some .eq := by
  rw [dcmp_zval hx.ne_nan hy.ne_nan, (compare_eq_iff _ _).mpr (hx.2.trans hy.2.symm)]
end OwnD
namespace Jvm.Pilot.@@N@@
open Jvm Jvm.ClassFile Sem Op Lib Jvm.Free Jvm.Stand Jvm.LawKit Jvm.RoadKit Bundle Jvm.Pilot.@@N@@.Jvm.D
def ow0 := List.mem_of_getElem? (l := tables_1) (i := 0) rfl
def ow1 := List.mem_of_getElem? (l := tables_1) (i := 1) rfl
def ow2 := List.mem_of_getElem? (l := tables_1) (i := 2) rfl
def ow3 := List.mem_of_getElem? (l := tables_1) (i := 3) rfl
def ow4 := List.mem_of_getElem? (l := tables_1) (i := 4) rfl
def ow5 := List.mem_of_getElem? (l := tables_1) (i := 5) rfl
def ow6 := List.mem_of_getElem? (l := tables_1) (i := 6) rfl
def ow7 := List.mem_of_getElem? (l := tables_1) (i := 7) rfl
def ow8 := List.mem_of_getElem? (l := tables_1) (i := 8) rfl
def ow9 := List.mem_of_getElem? (l := tables_1) (i := 9) rfl
def ow10 := List.mem_of_getElem? (l := tables_1) (i := 10) rfl
def ow11 := List.mem_of_getElem? (l := tables_1) (i := 11) rfl
def ow12 := List.mem_of_getElem? (l := tables_1) (i := 12) rfl
def ow13 := List.mem_of_getElem? (l := tables_1) (i := 13) rfl
def ow14 := List.mem_of_getElem? (l := tables_1) (i := 14) rfl
def ow15 := List.mem_of_getElem? (l := tables_1) (i := 15) rfl
def ow16 := List.mem_of_getElem? (l := tables_1) (i := 16) rfl
def ow17 := List.mem_of_getElem? (l := tables_1) (i := 17) rfl
def ow18 := List.mem_of_getElem? (l := tables_1) (i := 18) rfl
def ow19 := List.mem_of_getElem? (l := tables_1) (i := 19) rfl
def ow20 := List.mem_of_getElem? (l := tables_1) (i := 20) rfl
def ow21 := List.mem_of_getElem? (l := tables_1) (i := 21) rfl
def ow22 := List.mem_of_getElem? (l := tables_1) (i := 22) rfl
def ow23 := List.mem_of_getElem? (l := tables_1) (i := 23) rfl
def ow24 := List.mem_of_getElem? (l := tables_1) (i := 24) rfl
def ow25 := List.mem_of_getElem? (l := tables_1) (i := 25) rfl
def ow26 := List.mem_of_getElem? (l := tables_1) (i := 26) rfl
def ow27 := List.mem_of_getElem? (l := tables_1) (i := 27) rfl
def ow28 := List.mem_of_getElem? (l := tables_1) (i := 28) rfl
def ow29 := List.mem_of_getElem? (l := tables_1) (i := 29) rfl
def ow30 := List.mem_of_getElem? (l := tables_1) (i := 30) rfl
def ow31 := List.mem_of_getElem? (l := tables_1) (i := 31) rfl
def ow32 := List.mem_of_getElem? (l := tables_1) (i := 32) rfl
def ow33 := List.mem_of_getElem? (l := tables_1) (i := 33) rfl
def ow34 := List.mem_of_getElem? (l := tables_1) (i := 34) rfl
def ow35 := List.mem_of_getElem? (l := tables_1) (i := 35) rfl
def ow36 := List.mem_of_getElem? (l := tables_1) (i := 36) rfl
def ow37 := List.mem_of_getElem? (l := tables_1) (i := 37) rfl
def ow38 := List.mem_of_getElem? (l := tables_1) (i := 38) rfl
def ow39 := List.mem_of_getElem? (l := tables_1) (i := 39) rfl
def ow40 := List.mem_of_getElem? (l := tables_1) (i := 40) rfl
def ow41 := List.mem_of_getElem? (l := tables_1) (i := 41) rfl
def ow42 := List.mem_of_getElem? (l := tables_1) (i := 42) rfl
open Jvm.Free.Fl Jvm.Native.java_lang_Math.nans
def own_max (u v : Int64) : Int64 := if u < v then v else u
def own_min (u v : Int64) : Int64 := if u < v then u else v
def own_imax (u v : Int32) : Int32 := if u < v then v else u
def own_imin (u v : Int32) : Int32 := if v < u then v else u
/-- small: at most 2^20 -/
def own_sm (x : Int64) : Prop := -1048576 ≤ x.toInt ∧ x.toInt ≤ 1048576
def own_si (x : Int32) : Prop := -1048576 ≤ x.toInt ∧ x.toInt ≤ 1048576
theorem own_b {x : Int64} (h : own_sm x) : B53 x := ⟨by have := h.1; omega, by have := h.2; omega⟩
theorem own_add {a b : Int64} (ha : own_sm a) (hb : own_sm b) : (a + b).toInt = a.toInt + b.toInt := add64 (own_b ha) (own_b hb)
theorem own_sub {a b : Int64} (ha : own_sm a) (hb : own_sm b) : (a - b).toInt = a.toInt - b.toInt := sub64 (own_b ha) (own_b hb)
theorem own_maxI (u v : Int64) : (own_max u v).toInt = max u.toInt v.toInt := by
  unfold own_max
  by_cases h : u < v
  · rw [if_pos h]; rw [Int64.lt_iff_toInt_lt] at h; omega
  · rw [if_neg h]; rw [Int64.lt_iff_toInt_lt] at h; omega
theorem own_minI (u v : Int64) : (own_min u v).toInt = min u.toInt v.toInt := by
  unfold own_min
  by_cases h : u < v
  · rw [if_pos h]; rw [Int64.lt_iff_toInt_lt] at h; omega
  · rw [if_neg h]; rw [Int64.lt_iff_toInt_lt] at h; omega
theorem own_imaxI (u v : Int32) : (own_imax u v).toInt = max u.toInt v.toInt := by
  unfold own_imax
  by_cases h : u < v
  · rw [if_pos h]; rw [Int32.lt_iff_toInt_lt] at h; omega
  · rw [if_neg h]; rw [Int32.lt_iff_toInt_lt] at h; omega
theorem own_iminI (u v : Int32) : (own_imin u v).toInt = min u.toInt v.toInt := by
  unfold own_imin
  by_cases h : v < u
  · rw [if_pos h]; rw [Int32.lt_iff_toInt_lt] at h; omega
  · rw [if_neg h]; rw [Int32.lt_iff_toInt_lt] at h; omega
theorem own_maxD {u v : Int64} (hu : B53 u) (hv : B53 v) : Value.double (pick64 true (FP.l2d u) (FP.l2d v)) = .double (FP.l2d (own_max u v)) := by
  unfold own_max
  by_cases h : u < v
  · rw [if_pos h, max_l hu hv h]
  · rw [if_neg h, max_g hu hv h]
theorem own_minD {u v : Int64} (hu : B53 u) (hv : B53 v) : Value.double (pick64 false (FP.l2d u) (FP.l2d v)) = .double (FP.l2d (own_min u v)) := by
  unfold own_min
  by_cases h : u < v
  · rw [if_pos h, min_l hu hv h]
  · rw [if_neg h, min_g hu hv h]
theorem own_ctB {lo hi ce cl : Int64} (h1 : own_sm lo) (h2 : own_sm hi) (h3 : own_sm ce) (h4 : own_sm cl) :
    B53 lo ∧ B53 hi ∧ B53 ce ∧ B53 cl ∧ B53 (ce - cl) ∧ B53 (ce + cl) ∧ B53 (own_max lo (ce - cl)) ∧ B53 (own_min hi (ce + cl)) ∧ B53 (hi - lo) ∧ B53 (own_min hi (ce + cl) - own_max lo (ce - cl)) := by
  have a := own_sub h3 h4
  have b := own_add h3 h4
  have d := own_sub h2 h1
  have e := own_maxI lo (ce - cl)
  have f := own_minI hi (ce + cl)
  have g1 := h1.1; have g2 := h1.2; have g3 := h2.1; have g4 := h2.2; have g5 := h3.1; have g6 := h3.2; have g7 := h4.1; have g8 := h4.2
  have B1 : B53 (own_max lo (ce - cl)) := ⟨by omega, by omega⟩
  have B2 : B53 (own_min hi (ce + cl)) := ⟨by omega, by omega⟩
  have k := sub64 B2 B1
  exact ⟨own_b h1, own_b h2, own_b h3, own_b h4, ⟨by omega, by omega⟩, ⟨by omega, by omega⟩, B1, B2, ⟨by omega, by omega⟩, ⟨by omega, by omega⟩⟩
theorem own_tolf : Fin64 (4517329193108106637 : UInt64) := by unfold Fin64; decide
/-- what the stretch is -/
def own_KI (lo hi ce cl f t : Int) : Prop :=
  (0 < cl ∧ min hi (ce + cl) - max lo (ce - cl) < hi - lo → f = max lo (ce - cl) ∧ t = min hi (ce + cl)) ∧
  (¬ (0 < cl ∧ min hi (ce + cl) - max lo (ce - cl) < hi - lo) → f = ce ∧ t = ce)
def own_K (lo hi ce cl f t : Int64) : Prop := own_KI lo.toInt hi.toInt ce.toInt cl.toInt f.toInt t.toInt
theorem own_KI_fun {lo hi ce cl f t f' t' : Int} (h : own_KI lo hi ce cl f t) (h' : own_KI lo hi ce cl f' t') : f = f' ∧ t = t' := by
  by_cases q : 0 < cl ∧ min hi (ce + cl) - max lo (ce - cl) < hi - lo
  · have a := h.1 q; have b := h'.1 q; exact ⟨a.1.trans b.1.symm, a.2.trans b.2.symm⟩
  · have a := h.2 q; have b := h'.2 q; exact ⟨a.1.trans b.1.symm, a.2.trans b.2.symm⟩
theorem own_zl {a : Int64} (h : B53 a) (h2 : -536870912 < a.toInt ∧ a.toInt < 536870912) : OwnD.Zd (a.toInt * 4194304) (FP.l2d a) := OwnD.l2d_exact (by omega)
theorem own_less {a b : Int64} (ha : -4194304 ≤ a.toInt ∧ a.toInt ≤ 4194304) (hb : -4194304 ≤ b.toInt ∧ b.toInt ≤ 4194304) :
    (cmpValue (FP.dcmp (FP.l2d a) (FP.dsub (FP.l2d b) (4517329193108106637 : UInt64))) .g < (0 : Int32) ↔ a.toInt < b.toInt) := by
  have za : OwnD.Zd (a.toInt * 4194304) (FP.l2d a) := OwnD.l2d_exact (by omega)
  have zb : OwnD.Zd (b.toInt * 4194304) (FP.l2d b) := OwnD.l2d_exact (by omega)
  have tb := OwnD.sub_tol zb (by omega)
  by_cases h : a.toInt < b.toInt
  · have e : FP.dcmp (FP.l2d a) (FP.dsub (FP.l2d b) (4517329193108106637 : UInt64)) = some .lt := OwnD.cmp_lt za.bz tb (by omega)
    rw [e]; exact ⟨fun _ => h, fun _ => by decide⟩
  · have e : FP.dcmp (FP.l2d a) (FP.dsub (FP.l2d b) (4517329193108106637 : UInt64)) = some .gt := OwnD.cmp_gt za.bz tb (by omega)
    rw [e]; exact ⟨fun q => absurd q (by decide), fun q => absurd q h⟩
theorem own_K1 {lo hi ce cl : Int64} (h1 : own_sm lo) (h2 : own_sm hi) (h3 : own_sm ce) (h4 : own_sm cl) (c1 : (0 : Int32) < lcmpW cl (0 : Int64))
    (c2 : cmpValue (FP.dcmp (FP.l2d (own_min hi (ce + cl) - own_max lo (ce - cl))) (FP.dsub (FP.l2d (hi - lo)) (4517329193108106637 : UInt64))) .g < (0 : Int32)) : own_K lo hi ce cl (own_max lo (ce - cl)) (own_min hi (ce + cl)) := by
  have a := own_sub h3 h4
  have b := own_add h3 h4
  have d := own_sub h2 h1
  have e := own_maxI lo (ce - cl)
  have f := own_minI hi (ce + cl)
  have k := sub64 (own_ctB h1 h2 h3 h4).2.2.2.2.2.2.2.1 (own_ctB h1 h2 h3 h4).2.2.2.2.2.2.1
  have g1 := h1.1; have g2 := h1.2; have g3 := h2.1; have g4 := h2.2; have g5 := h3.1; have g6 := h3.2; have g7 := h4.1; have g8 := h4.2
  rw [own_less (by omega) (by omega)] at c2
  have e0 : (0 : Int64).toInt = 0 := by decide
  rw [lw_gt, Int64.lt_iff_toInt_lt, e0] at c1
  exact ⟨fun _ => ⟨by omega, by omega⟩, fun q => absurd ⟨by omega, by omega⟩ q⟩
theorem own_K2 {lo hi ce cl : Int64} (h1 : own_sm lo) (h2 : own_sm hi) (h3 : own_sm ce) (h4 : own_sm cl)
    (c2 : ¬ cmpValue (FP.dcmp (FP.l2d (own_min hi (ce + cl) - own_max lo (ce - cl))) (FP.dsub (FP.l2d (hi - lo)) (4517329193108106637 : UInt64))) .g < (0 : Int32)) : own_K lo hi ce cl ce ce := by
  have a := own_sub h3 h4
  have b := own_add h3 h4
  have d := own_sub h2 h1
  have e := own_maxI lo (ce - cl)
  have f := own_minI hi (ce + cl)
  have k := sub64 (own_ctB h1 h2 h3 h4).2.2.2.2.2.2.2.1 (own_ctB h1 h2 h3 h4).2.2.2.2.2.2.1
  have g1 := h1.1; have g2 := h1.2; have g3 := h2.1; have g4 := h2.2; have g5 := h3.1; have g6 := h3.2; have g7 := h4.1; have g8 := h4.2
  rw [own_less (by omega) (by omega)] at c2
  exact ⟨fun q => absurd q.2 (by omega), fun _ => ⟨rfl, rfl⟩⟩
theorem own_K3 {lo hi ce cl : Int64} (c1 : ¬ (0 : Int32) < lcmpW cl (0 : Int64)) : own_K lo hi ce cl ce ce := by
  have e0 : (0 : Int64).toInt = 0 := by decide
  rw [lw_gt, Int64.lt_iff_toInt_lt, e0] at c1
  exact ⟨fun q => absurd q.1 c1, fun _ => ⟨rfl, rfl⟩⟩
/-- the position -/
def own_pos (x : UInt64) (f t : Int64) (far : Int32) : UInt64 :=
  if far = (0 : Int32) then (if (0 : Int32) < cmpValue (FP.dcmp x (FP.dadd (FP.l2d f) (4517329193108106637 : UInt64))) .l then FP.dadd x (FP.dsub (FP.l2d t) (FP.l2d f)) else x)
  else (if cmpValue (FP.dcmp x (FP.dsub (FP.l2d f) (4517329193108106637 : UInt64))) .l < (0 : Int32) then x else FP.dadd x (FP.dsub (FP.l2d t) (FP.l2d f)))
theorem own_iadd {x y : Int32} (h : -2147483648 ≤ x.toInt + y.toInt ∧ x.toInt + y.toInt < 2147483648) : (x + y).toInt = x.toInt + y.toInt := by
  have a := c_iadd x y; have r := rng32 (x + y); omega
theorem own_isub {x y : Int32} (h : -2147483648 ≤ x.toInt - y.toInt ∧ x.toInt - y.toInt < 2147483648) : (x - y).toInt = x.toInt - y.toInt := by
  have a := c_isub x y; have r := rng32 (x - y); omega
theorem own_lo (x : Int32) : ∃ z, ((x &&& (2047 : Int32)) - (1024 : Int32)) = z ∧ -1024 ≤ z.toInt ∧ z.toInt ≤ 1023 := by
  have a := c_and x (2047 : Int32) (by decide)
  have e1 : (2047 : Int32).toInt = 2047 := by decide
  have e2 : (1024 : Int32).toInt = 1024 := by decide
  have b := own_isub (x := x &&& (2047 : Int32)) (y := (1024 : Int32)) (by omega)
  exact ⟨_, rfl, by omega, by omega⟩
theorem own_len (x : Int32) : ∃ z, (x &&& (2047 : Int32)) = z ∧ 0 ≤ z.toInt ∧ z.toInt ≤ 2047 := by
  have a := c_and x (2047 : Int32) (by decide)
  have e1 : (2047 : Int32).toInt = 2047 := by decide
  exact ⟨_, rfl, by omega, by omega⟩
theorem own_hi {lo len : Int32} (l1 : -1024 ≤ lo.toInt) (l2 : lo.toInt ≤ 1023) (n1 : 0 ≤ len.toInt) (n2 : len.toInt ≤ 2047) : ∃ z, (lo + len) = z ∧ z.toInt = lo.toInt + len.toInt :=
  ⟨_, rfl, own_iadd (by omega)⟩
theorem own_len1 {len : Int32} (n1 : 0 ≤ len.toInt) (n2 : len.toInt ≤ 2047) : (len + (1 : Int32)).toInt = len.toInt + 1 := by
  have e1 : (1 : Int32).toInt = 1 := by decide
  rw [own_iadd (by omega), e1]
theorem own_nz {len : Int32} (n1 : 0 ≤ len.toInt) (n2 : len.toInt ≤ 2047) : (len + (1 : Int32)) ≠ 0 := fun q => by
  have a := own_len1 n1 n2
  have e0 : (0 : Int32).toInt = 0 := by decide
  rw [q, e0] at a; omega
theorem own_ce (x : Int32) {lo len : Int32} (l1 : -1024 ≤ lo.toInt) (l2 : lo.toInt ≤ 1023) (n1 : 0 ≤ len.toInt) (n2 : len.toInt ≤ 2047) : ∃ z, (lo + ((x &&& (2147483647 : Int32)) % (len + (1 : Int32)))) = z ∧ lo.toInt ≤ z.toInt ∧ z.toInt ≤ lo.toInt + len.toInt := by
  have a := c_and x (2147483647 : Int32) (by decide)
  have b := own_len1 n1 n2
  have d := (c_iremV (x &&& (2147483647 : Int32)) (len + (1 : Int32))).1 a.1 (by omega)
  have d1 := d.1
  have d2 := d.2.1
  have f := own_iadd (x := lo) (y := (x &&& (2147483647 : Int32)) % (len + (1 : Int32))) (by omega)
  exact ⟨_, rfl, by omega, by omega⟩
theorem own_cl (x : Int32) : ∃ z, ((x &&& (1023 : Int32)) - (16 : Int32)) = z ∧ -16 ≤ z.toInt ∧ z.toInt ≤ 1007 := by
  have a := c_and x (1023 : Int32) (by decide)
  have e1 : (1023 : Int32).toInt = 1023 := by decide
  have e2 : (16 : Int32).toInt = 16 := by decide
  have b := own_isub (x := x &&& (1023 : Int32)) (y := (16 : Int32)) (by omega)
  exact ⟨_, rfl, by omega, by omega⟩
/-- lo, hi, centre, clear of the law, as ints -/
def own_G (lo len hi ce cl : Int32) : Prop := (-1024 ≤ lo.toInt ∧ lo.toInt ≤ 1023) ∧ (0 ≤ len.toInt ∧ len.toInt ≤ 2047) ∧ hi.toInt = lo.toInt + len.toInt ∧ (lo.toInt ≤ ce.toInt ∧ ce.toInt ≤ lo.toInt + len.toInt) ∧ (-16 ≤ cl.toInt ∧ cl.toInt ≤ 1007)
theorem own_ft {lo len hi ce cl : Int32} (g : own_G lo len hi ce cl) : (own_imax lo (ce - cl)).toInt = max lo.toInt (ce.toInt - cl.toInt) ∧ (own_imin hi (ce + cl)).toInt = min hi.toInt (ce.toInt + cl.toInt) ∧ (own_imin hi (ce + cl) - own_imax lo (ce - cl)).toInt = min hi.toInt (ce.toInt + cl.toInt) - max lo.toInt (ce.toInt - cl.toInt) := by
  obtain ⟨g1, g2, g3, g4, g5⟩ := g
  have a := own_imaxI lo (ce - cl)
  have b := own_iminI hi (ce + cl)
  rw [own_isub (by omega)] at a
  rw [own_iadd (by omega)] at b
  exact ⟨a, b, by rw [own_isub (by omega), a, b]⟩
def own_KC (lo hi ce cl f t : Int32) : Prop := own_KI lo.toInt hi.toInt ce.toInt cl.toInt f.toInt t.toInt
theorem own_C1 {lo len hi ce cl : Int32} (g : own_G lo len hi ce cl) (c1 : (0 : Int32) < cl) (c2 : (own_imin hi (ce + cl) - own_imax lo (ce - cl)) < len) : own_KC lo hi ce cl (own_imax lo (ce - cl)) (own_imin hi (ce + cl)) := by
  obtain ⟨a, b, d⟩ := own_ft g
  have e0 : (0 : Int32).toInt = 0 := by decide
  rw [Int32.lt_iff_toInt_lt, e0] at c1
  rw [Int32.lt_iff_toInt_lt, d] at c2
  have g3 := g.2.2.1
  exact ⟨fun _ => ⟨a, b⟩, fun q => absurd ⟨c1, by omega⟩ q⟩
theorem own_C2 {lo len hi ce cl : Int32} (g : own_G lo len hi ce cl) (c2 : ¬ (own_imin hi (ce + cl) - own_imax lo (ce - cl)) < len) : own_KC lo hi ce cl ce ce := by
  obtain ⟨a, b, d⟩ := own_ft g
  rw [Int32.lt_iff_toInt_lt, d] at c2
  have g3 := g.2.2.1
  exact ⟨fun q => absurd q.2 (by omega), fun _ => ⟨rfl, rfl⟩⟩
theorem own_C3 {lo hi ce cl : Int32} (c1 : ¬ (0 : Int32) < cl) : own_KC lo hi ce cl ce ce := by
  have e0 : (0 : Int32).toInt = 0 := by decide
  rw [Int32.lt_iff_toInt_lt, e0] at c1
  exact ⟨fun q => absurd q.1 c1, fun _ => ⟨rfl, rfl⟩⟩
theorem own_KB {lo len hi ce cl f t : Int32} (g : own_G lo len hi ce cl) (k : own_KC lo hi ce cl f t) : (-4096 ≤ f.toInt ∧ f.toInt ≤ 4096) ∧ (-4096 ≤ t.toInt ∧ t.toInt ≤ 4096) := by
  obtain ⟨g1, g2, g3, g4, g5⟩ := g
  by_cases q : 0 < cl.toInt ∧ min hi.toInt (ce.toInt + cl.toInt) - max lo.toInt (ce.toInt - cl.toInt) < hi.toInt - lo.toInt
  · have a := k.1 q; omega
  · have a := k.2 q; omega
theorem own_KK {lo hi ce cl f t : Int32} {f' t' : Int64} (k : own_KC lo hi ce cl f t) (k' : own_K lo.toInt64 hi.toInt64 ce.toInt64 cl.toInt64 f' t') : f' = f.toInt64 ∧ t' = t.toInt64 := by
  unfold own_K at k'
  rw [c_i2l, c_i2l, c_i2l, c_i2l] at k'
  obtain ⟨a, b⟩ := own_KI_fun k k'
  exact ⟨Int64.toInt_inj.mp (by rw [c_i2l]; exact a.symm), Int64.toInt_inj.mp (by rw [c_i2l]; exact b.symm)⟩
theorem own_smi {x : Int32} (h : -1048576 ≤ x.toInt ∧ x.toInt ≤ 1048576) : own_sm x.toInt64 := by unfold own_sm; rw [c_i2l]; exact h
theorem own_G1 {lo len hi ce cl : Int32} (g : own_G lo len hi ce cl) : own_sm lo.toInt64 ∧ own_sm hi.toInt64 ∧ own_sm ce.toInt64 ∧ own_sm cl.toInt64 := by
  obtain ⟨g1, g2, g3, g4, g5⟩ := g
  exact ⟨own_smi (by omega), own_smi (by omega), own_smi (by omega), own_smi (by omega)⟩
theorem own_dA (x : Int32) : -2048 ≤ ((x &&& (3 : Int32)) - (2 : Int32)).toInt ∧ ((x &&& (3 : Int32)) - (2 : Int32)).toInt ≤ 2047 := by
  have a := c_and x (3 : Int32) (by decide)
  have e1 : (3 : Int32).toInt = 3 := by decide
  have e2 : (2 : Int32).toInt = 2 := by decide
  rw [own_isub (by omega)]; omega
theorem own_dB (x : Int32) : -2048 ≤ ((x &&& (4095 : Int32)) - (2048 : Int32)).toInt ∧ ((x &&& (4095 : Int32)) - (2048 : Int32)).toInt ≤ 2047 := by
  have a := c_and x (4095 : Int32) (by decide)
  have e1 : (4095 : Int32).toInt = 4095 := by decide
  have e2 : (2048 : Int32).toInt = 2048 := by decide
  rw [own_isub (by omega)]; omega
theorem own_k (x : Int32) : ∃ z, ((x &&& (7 : Int32)) - (4 : Int32)) = z ∧ -4 ≤ z.toInt ∧ z.toInt ≤ 3 := by
  have a := c_and x (7 : Int32) (by decide)
  have e1 : (7 : Int32).toInt = 7 := by decide
  have e2 : (4 : Int32).toInt = 4 := by decide
  have b := own_isub (x := x &&& (7 : Int32)) (y := (4 : Int32)) (by omega)
  exact ⟨_, rfl, by omega, by omega⟩
theorem own_zi {x : Int32} (h : -1048576 ≤ x.toInt ∧ x.toInt ≤ 1048576) : OwnD.Zd (x.toInt * 4194304) (FP.l2d x.toInt64) := by
  have z := OwnD.l2d_exact (k := x.toInt64) (by rw [c_i2l]; omega)
  rw [c_i2l] at z; exact z
theorem own_zk {x : Int32} (h : -4 ≤ x.toInt ∧ x.toInt ≤ 3) : OwnD.Zd (x.toInt * 4) (FP.dmul (FP.l2d x.toInt64) (4517110426252607488 : UInt64)) := by
  have z := OwnD.mul20 (k := x.toInt64) (by rw [c_i2l]; omega)
  rw [c_i2l] at z; exact z
theorem own_kf {x : Int32} (h : -4 ≤ x.toInt ∧ x.toInt ≤ 3) : Fin64 (FP.dmul (FP.l2d x.toInt64) (4517110426252607488 : UInt64)) := fin64_core.mpr (own_zk h).1
theorem own_kn (x : Int64) : NoNaN64 (FP.dmul (FP.l2d x) (4517110426252607488 : UInt64)) := dmul_out (l2d_fin x) (by unfold Fin64; decide)
theorem own_zp {p k : Int32} (hp : -1048576 ≤ p.toInt ∧ p.toInt ≤ 1048576) (h : -4 ≤ k.toInt ∧ k.toInt ≤ 3) : OwnD.Zd (p.toInt * 4194304 + k.toInt * 4) (FP.dadd (FP.l2d p.toInt64) (FP.dmul (FP.l2d k.toInt64) (4517110426252607488 : UInt64))) :=
  OwnD.sum_exact (own_zi hp) (own_zk h) (by omega)
theorem own_m {de k : Int32} (hd : -2048 ≤ de.toInt ∧ de.toInt ≤ 2047) (h : -4 ≤ k.toInt ∧ k.toInt ≤ 3) : ((de.toInt64 * (1048576 : Int64)) + k.toInt64).toInt = de.toInt * 1048576 + k.toInt := by
  have a := c_ladd (de.toInt64 * (1048576 : Int64)) k.toInt64
  have b := c_lmul de.toInt64 (1048576 : Int64)
  have e : (1048576 : Int64).toInt = 1048576 := by decide
  have r1 := rng64 (de.toInt64 * (1048576 : Int64))
  have r2 := rng64 ((de.toInt64 * (1048576 : Int64)) + k.toInt64)
  rw [e, c_i2l] at b
  rw [c_i2l] at a
  omega
theorem own_p {cf de : Int32} (hf : -4096 ≤ cf.toInt ∧ cf.toInt ≤ 4096) (hd : -2048 ≤ de.toInt ∧ de.toInt ≤ 2047) : ∃ z, (cf + de) = z ∧ z.toInt = cf.toInt + de.toInt := ⟨_, rfl, own_iadd (by omega)⟩
theorem own_fin {cf ct de k p q far : Int32} (hf : -4096 ≤ cf.toInt ∧ cf.toInt ≤ 4096) (ht : -4096 ≤ ct.toInt ∧ ct.toInt ≤ 4096) (hd : -2048 ≤ de.toInt ∧ de.toInt ≤ 2047) (hk : -4 ≤ k.toInt ∧ k.toInt ≤ 3) (hp : p.toInt = cf.toInt + de.toInt)
    (h : (far = (0 : Int32) ∧ ¬ lcmpW ((de.toInt64 * (1048576 : Int64)) + k.toInt64) (2 : Int64) < (0 : Int32) ∧ q = (p + (ct - cf))) ∨ (far = (0 : Int32) ∧ lcmpW ((de.toInt64 * (1048576 : Int64)) + k.toInt64) (2 : Int64) < (0 : Int32) ∧ q = p)
      ∨ (¬ far = (0 : Int32) ∧ ¬ lcmpW ((de.toInt64 * (1048576 : Int64)) + k.toInt64) (-1 : Int64) < (0 : Int32) ∧ q = (p + (ct - cf))) ∨ (¬ far = (0 : Int32) ∧ lcmpW ((de.toInt64 * (1048576 : Int64)) + k.toInt64) (-1 : Int64) < (0 : Int32) ∧ q = p)) :
    cmpValue (FP.dcmp (own_pos (FP.dadd (FP.l2d p.toInt64) (FP.dmul (FP.l2d k.toInt64) (4517110426252607488 : UInt64))) cf.toInt64 ct.toInt64 far) (FP.dadd (FP.l2d q.toInt64) (FP.dmul (FP.l2d k.toInt64) (4517110426252607488 : UInt64)))) .l = (0 : Int32) := by
  have em := own_m hd hk
  have e2 : (2 : Int64).toInt = 2 := by decide
  have e1 : (-1 : Int64).toInt = -1 := by decide
  rw [lw_lt, lw_lt, Int64.lt_iff_toInt_lt, Int64.lt_iff_toInt_lt, em, e1, e2] at h
  have zp := own_zp (p := p) (k := k) (by omega) hk
  have zf := own_zi (x := cf) (by omega)
  have zt := own_zi (x := ct) (by omega)
  have zd := OwnD.sub_exact zt zf (by omega)
  have zs := OwnD.sum_exact zp zd (by omega)
  have tA := OwnD.add_tol zf (by omega)
  have tS := OwnD.sub_tol zf (by omega)
  have fin : ∀ {x y : UInt64} {a : Int}, OwnD.Zd a x → OwnD.Zd a y → cmpValue (FP.dcmp x y) .l = (0 : Int32) := fun {x y a} hx hy => by
    have e : FP.dcmp x y = some .eq := OwnD.cmp_eq hx hy
    rw [e]; rfl
  have eq1 : (p + (ct - cf)).toInt = p.toInt + (ct.toInt - cf.toInt) := by
    have e3 := own_isub (x := ct) (y := cf) (by omega)
    rw [own_iadd (by omega), e3]
  rcases h with ⟨h1, h2, rfl⟩ | ⟨h1, h2, rfl⟩ | ⟨h1, h2, rfl⟩ | ⟨h1, h2, rfl⟩
  · have c1 : FP.dcmp (FP.dadd (FP.l2d p.toInt64) (FP.dmul (FP.l2d k.toInt64) (4517110426252607488 : UInt64))) (FP.dadd (FP.l2d cf.toInt64) (4517329193108106637 : UInt64)) = some .gt := OwnD.cmp_gt zp.bz tA (by omega)
    have zq := own_zp (p := p + (ct - cf)) (k := k) (by omega) hk
    unfold own_pos
    rw [if_pos h1, c1, if_pos (by decide)]
    refine fin zs ?_
    have e : p.toInt * 4194304 + k.toInt * 4 + (ct.toInt * 4194304 - cf.toInt * 4194304) = (p + (ct - cf)).toInt * 4194304 + k.toInt * 4 := by rw [eq1]; omega
    rw [e]; exact zq
  · have c1 := OwnD.cmp_le zp.bz tA (by omega)
    have c2 : ¬ (0 : Int32) < cmpValue (FP.dcmp (FP.dadd (FP.l2d q.toInt64) (FP.dmul (FP.l2d k.toInt64) (4517110426252607488 : UInt64))) (FP.dadd (FP.l2d cf.toInt64) (4517329193108106637 : UInt64))) .l := by
      rcases c1 with c1 | c1
      · have e : FP.dcmp (FP.dadd (FP.l2d q.toInt64) (FP.dmul (FP.l2d k.toInt64) (4517110426252607488 : UInt64))) (FP.dadd (FP.l2d cf.toInt64) (4517329193108106637 : UInt64)) = some .lt := c1
        rw [e]; decide
      · have e : FP.dcmp (FP.dadd (FP.l2d q.toInt64) (FP.dmul (FP.l2d k.toInt64) (4517110426252607488 : UInt64))) (FP.dadd (FP.l2d cf.toInt64) (4517329193108106637 : UInt64)) = some .eq := c1
        rw [e]; decide
    unfold own_pos
    rw [if_pos h1, if_neg c2]
    exact fin zp zp
  · have c1 := OwnD.cmp_ge zp.bz tS (by omega)
    have c2 : ¬ cmpValue (FP.dcmp (FP.dadd (FP.l2d p.toInt64) (FP.dmul (FP.l2d k.toInt64) (4517110426252607488 : UInt64))) (FP.dsub (FP.l2d cf.toInt64) (4517329193108106637 : UInt64))) .l < (0 : Int32) := by
      rcases c1 with c1 | c1
      · have e : FP.dcmp (FP.dadd (FP.l2d p.toInt64) (FP.dmul (FP.l2d k.toInt64) (4517110426252607488 : UInt64))) (FP.dsub (FP.l2d cf.toInt64) (4517329193108106637 : UInt64)) = some .gt := c1
        rw [e]; decide
      · have e : FP.dcmp (FP.dadd (FP.l2d p.toInt64) (FP.dmul (FP.l2d k.toInt64) (4517110426252607488 : UInt64))) (FP.dsub (FP.l2d cf.toInt64) (4517329193108106637 : UInt64)) = some .eq := c1
        rw [e]; decide
    have zq := own_zp (p := p + (ct - cf)) (k := k) (by omega) hk
    unfold own_pos
    rw [if_neg h1, if_neg c2]
    refine fin zs ?_
    have e : p.toInt * 4194304 + k.toInt * 4 + (ct.toInt * 4194304 - cf.toInt * 4194304) = (p + (ct - cf)).toInt * 4194304 + k.toInt * 4 := by rw [eq1]; omega
    rw [e]; exact zq
  · have c1 : FP.dcmp (FP.dadd (FP.l2d q.toInt64) (FP.dmul (FP.l2d k.toInt64) (4517110426252607488 : UInt64))) (FP.dsub (FP.l2d cf.toInt64) (4517329193108106637 : UInt64)) = some .lt := OwnD.cmp_lt zp.bz tS (by omega)
    unfold own_pos
    rw [if_neg h1, c1, if_pos (by decide)]
    exact fin zp zp
theorem own_imaxW_d0 : decode jdk_29_method_65_code 0 = .ok (.iload_n 0, 1) := by decide +kernel
theorem own_imaxW_d1 : decode jdk_29_method_65_code 1 = .ok (.iload_n 1, 1) := by decide +kernel
theorem own_imaxW_d2 : decode jdk_29_method_65_code 2 = .ok (.if_icmp .lt 7, 3) := by decide +kernel
theorem own_imaxW_d5 : decode jdk_29_method_65_code 5 = .ok (.iload_n 0, 1) := by decide +kernel
theorem own_imaxW_d6 : decode jdk_29_method_65_code 6 = .ok (.goto 4, 3) := by decide +kernel
theorem own_imaxW_d9 : decode jdk_29_method_65_code 9 = .ok (.iload_n 1, 1) := by decide +kernel
theorem own_imaxW_d10 : decode jdk_29_method_65_code 10 = .ok (.ireturn, 1) := by decide +kernel
theorem own_imaxW_ef (m : MethodId) (x0 : Int32) (x1 : Int32) : entryFrame m #[(.int x0), (.int x1)] 2 = mkF m 0 #[.val (.int x0), .val (.int x1)] [] := by first | (simp [entryFrame, mkF, argsToLocals, Value.category]; done) | rfl
def own_imaxW_Q (Z : State) (u : Int32) (v : Int32) (h0 : Heap) (n0 : Nat) (vv_ : Option Value) (hh_ : Heap) (LL_ : List Loc) : Prop := vv_ = some (.int (own_imax u v)) ∧ Fr n0 LL_ ∧ hh_ = h0
set_option maxRecDepth 65536 in
set_option maxHeartbeats 40000000 in
theorem own_imaxW (l : Launch) (Z : State) (a0 : Array Value) (hw : ∀ d ∈ tables_1, d.before a0 Z = true) (ws : List Jvm.Cond) (u : Int32) (v : Int32) (h0 : Heap) (n0 : Nat) (Z0 : n0 ≤ h0.size) :
    MetFree l (⟨"java/lang/Math", "max", "(II)I"⟩ : MethodName) (head1 (Jvm.Cond.code (⟨"java/lang/Math", "max", "(II)I"⟩ : MethodName) jdk_29_method_65_code 2 (some .int) :: ws) ({ frames := 0, cells := 0, slots := 0, locals := 0 } : Room)) (fun aa_ UU_ => aa_ = #[(.int u), (.int v)] ∧ Z.Warmed39 UU_.vm ∧ UU_.heap = h0) (fun _ _ _ _ _ => True) (fun _ UU_ oo_ UV_ => ∃ vv_ LL_, oo_ = .returned vv_ ∧ own_imaxW_Q Z u v h0 n0 vv_ UV_.heap LL_ ∧ FrameEnd UU_ oo_ UV_ LL_ ({ frames := 0, cells := 0, slots := 0, locals := 0 } : Room).cells ({ frames := 0, cells := 0, slots := 0, locals := 0 } : Room).slots) := by
  refine MetFree.of_bodySF (Jvm.Free.JP.mathPlain rfl (by decide +kernel)) hisR ?_
  intro p e s m args below meth c s₁ Bd hml0 hP hK
  obtain ⟨rfl, hZ, hh⟩ := hP
  have hx := Bd.exec
  have hby := Bd.bytes
  have hml : c.maxLocals = 2 := hml0
  have hown : s.vm.findClass "java/lang/Math" = some m.cls := findClass_of_methodNamed Bd.named
  have hnm := (name_of_methodNamed Bd.named Bd.method).1
  have X0 : Stand p l e ({ frames := 0, cells := 0, slots := 0, locals := 0 } : Room) s m #[(.int u), (.int v)] below meth c s₁ [] 0 0 := Stand.of_body Bd
  have e0 : s₁.heap = h0 := by rw [← hh, Bd.state]; rfl
  have N0 := Fr.nil n0
  have KP0 : Keep h0 h0 [] := Keep.refl _ _
  refine ownFin (Q := own_imaxW_Q Z u v h0 n0) ?_
  refine ownStep (fun _ k => castTop (own_imaxW_ef m u v) k) ?_
  show ownGo p.tables e below (s₁.setTop (mkF m 0 #[.val (.int u), .val (.int v)] [])) _
  refine ownStep (fun _ k => XS.iloadN X0.here hx rfl (hb hby own_imaxW_d0) rfl  k) ?_
  refine ownStep (fun _ k => XS.iloadN X0.here hx rfl (hb hby own_imaxW_d1) rfl  k) ?_
  show ownGo p.tables e below (s₁.setTop (mkF m 2 #[.val (.int u), .val (.int v)] [(.int v), (.int u)])) _
  by_cases hc2 : u < v
  · skip
    refine ownStep (fun _ k => XS.icmpYes X0.here hx rfl (pc0 := 2) (pc' := 9) rfl (hb hby own_imaxW_d2) rfl (tlt (hc2 : u < v)).1 (by decide) (by decide) k) ?_
    refine ownStep (fun _ k => XS.iloadN X0.here hx rfl (hb hby own_imaxW_d9) rfl  k) ?_
    show ownGo p.tables e below (s₁.setTop (mkF m 10 #[.val (.int u), .val (.int v)] [(.int v)])) _
    exact ownRet X0 (v := some (.int v)) Bd.notSynchronized (fun h => by rw [Bd.returns] at h; cases h) (fun _ hr => retI X0 hx Bd.returns (hb hby own_imaxW_d10) hr) (by rw [e0]; exact ⟨(by unfold own_imax; rw [if_pos hc2]), N0, rfl⟩) (by decide) (by decide)
  · skip
    refine ownStep (fun _ k => XS.icmpNo X0.here hx rfl (hb hby own_imaxW_d2) rfl (flt (hc2 : ¬ u < v)).1 k) ?_
    refine ownStep (fun _ k => XS.iloadN X0.here hx rfl (hb hby own_imaxW_d5) rfl  k) ?_
    refine ownStep (fun _ k => XS.goto X0.here hx rfl (pc0 := 6) (pc' := 10) rfl (hb hby own_imaxW_d6) (by decide) (by decide) k) ?_
    show ownGo p.tables e below (s₁.setTop (mkF m 10 #[.val (.int u), .val (.int v)] [(.int u)])) _
    exact ownRet X0 (v := some (.int u)) Bd.notSynchronized (fun h => by rw [Bd.returns] at h; cases h) (fun _ hr => retI X0 hx Bd.returns (hb hby own_imaxW_d10) hr) (by rw [e0]; exact ⟨(by unfold own_imax; rw [if_neg hc2]), N0, rfl⟩) (by decide) (by decide)
theorem own_iminW_d0 : decode jdk_29_method_69_code 0 = .ok (.iload_n 0, 1) := by decide +kernel
theorem own_iminW_d1 : decode jdk_29_method_69_code 1 = .ok (.iload_n 1, 1) := by decide +kernel
theorem own_iminW_d2 : decode jdk_29_method_69_code 2 = .ok (.if_icmp .gt 7, 3) := by decide +kernel
theorem own_iminW_d5 : decode jdk_29_method_69_code 5 = .ok (.iload_n 0, 1) := by decide +kernel
theorem own_iminW_d6 : decode jdk_29_method_69_code 6 = .ok (.goto 4, 3) := by decide +kernel
theorem own_iminW_d9 : decode jdk_29_method_69_code 9 = .ok (.iload_n 1, 1) := by decide +kernel
theorem own_iminW_d10 : decode jdk_29_method_69_code 10 = .ok (.ireturn, 1) := by decide +kernel
theorem own_iminW_ef (m : MethodId) (x0 : Int32) (x1 : Int32) : entryFrame m #[(.int x0), (.int x1)] 2 = mkF m 0 #[.val (.int x0), .val (.int x1)] [] := by first | (simp [entryFrame, mkF, argsToLocals, Value.category]; done) | rfl
def own_iminW_Q (Z : State) (u : Int32) (v : Int32) (h0 : Heap) (n0 : Nat) (vv_ : Option Value) (hh_ : Heap) (LL_ : List Loc) : Prop := vv_ = some (.int (own_imin u v)) ∧ Fr n0 LL_ ∧ hh_ = h0
set_option maxRecDepth 65536 in
set_option maxHeartbeats 40000000 in
theorem own_iminW (l : Launch) (Z : State) (a0 : Array Value) (hw : ∀ d ∈ tables_1, d.before a0 Z = true) (ws : List Jvm.Cond) (u : Int32) (v : Int32) (h0 : Heap) (n0 : Nat) (Z0 : n0 ≤ h0.size) :
    MetFree l (⟨"java/lang/Math", "min", "(II)I"⟩ : MethodName) (head1 (Jvm.Cond.code (⟨"java/lang/Math", "min", "(II)I"⟩ : MethodName) jdk_29_method_69_code 2 (some .int) :: ws) ({ frames := 0, cells := 0, slots := 0, locals := 0 } : Room)) (fun aa_ UU_ => aa_ = #[(.int u), (.int v)] ∧ Z.Warmed39 UU_.vm ∧ UU_.heap = h0) (fun _ _ _ _ _ => True) (fun _ UU_ oo_ UV_ => ∃ vv_ LL_, oo_ = .returned vv_ ∧ own_iminW_Q Z u v h0 n0 vv_ UV_.heap LL_ ∧ FrameEnd UU_ oo_ UV_ LL_ ({ frames := 0, cells := 0, slots := 0, locals := 0 } : Room).cells ({ frames := 0, cells := 0, slots := 0, locals := 0 } : Room).slots) := by
  refine MetFree.of_bodySF (Jvm.Free.JP.mathPlain rfl (by decide +kernel)) hisR ?_
  intro p e s m args below meth c s₁ Bd hml0 hP hK
  obtain ⟨rfl, hZ, hh⟩ := hP
  have hx := Bd.exec
  have hby := Bd.bytes
  have hml : c.maxLocals = 2 := hml0
  have hown : s.vm.findClass "java/lang/Math" = some m.cls := findClass_of_methodNamed Bd.named
  have hnm := (name_of_methodNamed Bd.named Bd.method).1
  have X0 : Stand p l e ({ frames := 0, cells := 0, slots := 0, locals := 0 } : Room) s m #[(.int u), (.int v)] below meth c s₁ [] 0 0 := Stand.of_body Bd
  have e0 : s₁.heap = h0 := by rw [← hh, Bd.state]; rfl
  have N0 := Fr.nil n0
  have KP0 : Keep h0 h0 [] := Keep.refl _ _
  refine ownFin (Q := own_iminW_Q Z u v h0 n0) ?_
  refine ownStep (fun _ k => castTop (own_iminW_ef m u v) k) ?_
  show ownGo p.tables e below (s₁.setTop (mkF m 0 #[.val (.int u), .val (.int v)] [])) _
  refine ownStep (fun _ k => XS.iloadN X0.here hx rfl (hb hby own_iminW_d0) rfl  k) ?_
  refine ownStep (fun _ k => XS.iloadN X0.here hx rfl (hb hby own_iminW_d1) rfl  k) ?_
  show ownGo p.tables e below (s₁.setTop (mkF m 2 #[.val (.int u), .val (.int v)] [(.int v), (.int u)])) _
  by_cases hc2 : v < u
  · skip
    refine ownStep (fun _ k => XS.icmpYes X0.here hx rfl (pc0 := 2) (pc' := 9) rfl (hb hby own_iminW_d2) rfl (tlt (hc2 : v < u)).2.2.1 (by decide) (by decide) k) ?_
    refine ownStep (fun _ k => XS.iloadN X0.here hx rfl (hb hby own_iminW_d9) rfl  k) ?_
    show ownGo p.tables e below (s₁.setTop (mkF m 10 #[.val (.int u), .val (.int v)] [(.int v)])) _
    exact ownRet X0 (v := some (.int v)) Bd.notSynchronized (fun h => by rw [Bd.returns] at h; cases h) (fun _ hr => retI X0 hx Bd.returns (hb hby own_iminW_d10) hr) (by rw [e0]; exact ⟨(by unfold own_imin; rw [if_pos hc2]), N0, rfl⟩) (by decide) (by decide)
  · skip
    refine ownStep (fun _ k => XS.icmpNo X0.here hx rfl (hb hby own_iminW_d2) rfl (flt (hc2 : ¬ v < u)).2.2.1 k) ?_
    refine ownStep (fun _ k => XS.iloadN X0.here hx rfl (hb hby own_iminW_d5) rfl  k) ?_
    refine ownStep (fun _ k => XS.goto X0.here hx rfl (pc0 := 6) (pc' := 10) rfl (hb hby own_iminW_d6) (by decide) (by decide) k) ?_
    show ownGo p.tables e below (s₁.setTop (mkF m 10 #[.val (.int u), .val (.int v)] [(.int u)])) _
    exact ownRet X0 (v := some (.int u)) Bd.notSynchronized (fun h => by rw [Bd.returns] at h; cases h) (fun _ hr => retI X0 hx Bd.returns (hb hby own_iminW_d10) hr) (by rw [e0]; exact ⟨(by unfold own_imin; rw [if_neg hc2]), N0, rfl⟩) (by decide) (by decide)
theorem own_ct_d0 : decode prog_20_method_1_code 0 = .ok (.aload_n 0, 1) := by decide +kernel
theorem own_ct_d1 : decode prog_20_method_1_code 1 = .ok (.invokespecial 1, 3) := by decide +kernel
theorem own_ct_d4 : decode prog_20_method_1_code 4 = .ok (.aload_n 0, 1) := by decide +kernel
theorem own_ct_d5 : decode prog_20_method_1_code 5 = .ok (.dload_n 1, 1) := by decide +kernel
theorem own_ct_d6 : decode prog_20_method_1_code 6 = .ok (.putfield 7, 3) := by decide +kernel
theorem own_ct_d9 : decode prog_20_method_1_code 9 = .ok (.aload_n 0, 1) := by decide +kernel
theorem own_ct_d10 : decode prog_20_method_1_code 10 = .ok (.dload_n 3, 1) := by decide +kernel
theorem own_ct_d11 : decode prog_20_method_1_code 11 = .ok (.putfield 13, 3) := by decide +kernel
theorem own_ct_d14 : decode prog_20_method_1_code 14 = .ok (.dload_n 1, 1) := by decide +kernel
theorem own_ct_d15 : decode prog_20_method_1_code 15 = .ok (.dload 5, 2) := by decide +kernel
theorem own_ct_d17 : decode prog_20_method_1_code 17 = .ok (.dload 7, 2) := by decide +kernel
theorem own_ct_d19 : decode prog_20_method_1_code 19 = .ok (.dsub, 1) := by decide +kernel
theorem own_ct_d20 : decode prog_20_method_1_code 20 = .ok (.invokestatic 16, 3) := by decide +kernel
theorem own_ct_d23 : decode prog_20_method_1_code 23 = .ok (.dstore 9, 2) := by decide +kernel
theorem own_ct_d25 : decode prog_20_method_1_code 25 = .ok (.dload_n 3, 1) := by decide +kernel
theorem own_ct_d26 : decode prog_20_method_1_code 26 = .ok (.dload 5, 2) := by decide +kernel
theorem own_ct_d28 : decode prog_20_method_1_code 28 = .ok (.dload 7, 2) := by decide +kernel
theorem own_ct_d30 : decode prog_20_method_1_code 30 = .ok (.dadd, 1) := by decide +kernel
theorem own_ct_d31 : decode prog_20_method_1_code 31 = .ok (.invokestatic 22, 3) := by decide +kernel
theorem own_ct_d34 : decode prog_20_method_1_code 34 = .ok (.dstore 11, 2) := by decide +kernel
theorem own_ct_d36 : decode prog_20_method_1_code 36 = .ok (.dload 7, 2) := by decide +kernel
theorem own_ct_d38 : decode prog_20_method_1_code 38 = .ok (.dconst 0, 1) := by decide +kernel
theorem own_ct_d39 : decode prog_20_method_1_code 39 = .ok (.dcmp .l, 1) := by decide +kernel
theorem own_ct_d40 : decode prog_20_method_1_code 40 = .ok (.ifCond .le 23, 3) := by decide +kernel
theorem own_ct_d43 : decode prog_20_method_1_code 43 = .ok (.dload 11, 2) := by decide +kernel
theorem own_ct_d45 : decode prog_20_method_1_code 45 = .ok (.dload 9, 2) := by decide +kernel
theorem own_ct_d47 : decode prog_20_method_1_code 47 = .ok (.dsub, 1) := by decide +kernel
theorem own_ct_d48 : decode prog_20_method_1_code 48 = .ok (.dload_n 3, 1) := by decide +kernel
theorem own_ct_d49 : decode prog_20_method_1_code 49 = .ok (.dload_n 1, 1) := by decide +kernel
theorem own_ct_d50 : decode prog_20_method_1_code 50 = .ok (.dsub, 1) := by decide +kernel
theorem own_ct_d51 : decode prog_20_method_1_code 51 = .ok (.ldc2_w 27, 3) := by decide +kernel
theorem own_ct_d54 : decode prog_20_method_1_code 54 = .ok (.dsub, 1) := by decide +kernel
theorem own_ct_d55 : decode prog_20_method_1_code 55 = .ok (.dcmp .g, 1) := by decide +kernel
theorem own_ct_d56 : decode prog_20_method_1_code 56 = .ok (.ifCond .ge 7, 3) := by decide +kernel
theorem own_ct_d59 : decode prog_20_method_1_code 59 = .ok (.iconst 1, 1) := by decide +kernel
theorem own_ct_d60 : decode prog_20_method_1_code 60 = .ok (.goto 4, 3) := by decide +kernel
theorem own_ct_d63 : decode prog_20_method_1_code 63 = .ok (.iconst 0, 1) := by decide +kernel
theorem own_ct_d64 : decode prog_20_method_1_code 64 = .ok (.istore 13, 2) := by decide +kernel
theorem own_ct_d66 : decode prog_20_method_1_code 66 = .ok (.aload_n 0, 1) := by decide +kernel
theorem own_ct_d67 : decode prog_20_method_1_code 67 = .ok (.iload 13, 2) := by decide +kernel
theorem own_ct_d69 : decode prog_20_method_1_code 69 = .ok (.ifCond .eq 8, 3) := by decide +kernel
theorem own_ct_d72 : decode prog_20_method_1_code 72 = .ok (.dload 9, 2) := by decide +kernel
theorem own_ct_d74 : decode prog_20_method_1_code 74 = .ok (.goto 5, 3) := by decide +kernel
theorem own_ct_d77 : decode prog_20_method_1_code 77 = .ok (.dload 5, 2) := by decide +kernel
theorem own_ct_d79 : decode prog_20_method_1_code 79 = .ok (.putfield 29, 3) := by decide +kernel
theorem own_ct_d82 : decode prog_20_method_1_code 82 = .ok (.aload_n 0, 1) := by decide +kernel
theorem own_ct_d83 : decode prog_20_method_1_code 83 = .ok (.iload 13, 2) := by decide +kernel
theorem own_ct_d85 : decode prog_20_method_1_code 85 = .ok (.ifCond .eq 8, 3) := by decide +kernel
theorem own_ct_d88 : decode prog_20_method_1_code 88 = .ok (.dload 11, 2) := by decide +kernel
theorem own_ct_d90 : decode prog_20_method_1_code 90 = .ok (.goto 5, 3) := by decide +kernel
theorem own_ct_d93 : decode prog_20_method_1_code 93 = .ok (.dload 5, 2) := by decide +kernel
theorem own_ct_d95 : decode prog_20_method_1_code 95 = .ok (.putfield 32, 3) := by decide +kernel
theorem own_ct_d98 : decode prog_20_method_1_code 98 = .ok (.aload_n 0, 1) := by decide +kernel
theorem own_ct_d99 : decode prog_20_method_1_code 99 = .ok (.dload_n 3, 1) := by decide +kernel
theorem own_ct_d100 : decode prog_20_method_1_code 100 = .ok (.dload_n 1, 1) := by decide +kernel
theorem own_ct_d101 : decode prog_20_method_1_code 101 = .ok (.dsub, 1) := by decide +kernel
theorem own_ct_d102 : decode prog_20_method_1_code 102 = .ok (.aload_n 0, 1) := by decide +kernel
theorem own_ct_d103 : decode prog_20_method_1_code 103 = .ok (.getfield 32, 3) := by decide +kernel
theorem own_ct_d106 : decode prog_20_method_1_code 106 = .ok (.aload_n 0, 1) := by decide +kernel
theorem own_ct_d107 : decode prog_20_method_1_code 107 = .ok (.getfield 29, 3) := by decide +kernel
theorem own_ct_d110 : decode prog_20_method_1_code 110 = .ok (.dsub, 1) := by decide +kernel
theorem own_ct_d111 : decode prog_20_method_1_code 111 = .ok (.dsub, 1) := by decide +kernel
theorem own_ct_d112 : decode prog_20_method_1_code 112 = .ok (.putfield 35, 3) := by decide +kernel
theorem own_ct_d115 : decode prog_20_method_1_code 115 = .ok (.return_, 1) := by decide +kernel
theorem own_ct_pn : plainName "com/example/adept_layout/adeptlayout/layout/SidePlaces" = true := by first | (simp [plainName, overriddenIn]; done) | decide +kernel
theorem own_ct_pd0 : parseMethodDescriptor "(DD)D" = some ⟨[.double, .double], some .double⟩ := by decide +kernel
theorem own_ct_ef (m : MethodId) (x0 : Addr) (x1 : UInt64) (x2 : UInt64) (x3 : UInt64) (x4 : UInt64) : entryFrame m #[(.ref x0), (.double x1), (.double x2), (.double x3), (.double x4)] 14 = mkF m 0 #[.val (.ref x0), .val (.double x1), .second, .val (.double x2), .second, .val (.double x3), .second, .val (.double x4), .second, .unset, .unset, .unset, .unset, .unset] [] := by first | (simp [entryFrame, mkF, argsToLocals, Value.category]; done) | rfl
def own_ct_Q (Z : State) (a : Addr) (lo : Int64) (hi : Int64) (ce : Int64) (cl : Int64) (h0 : Heap) (n0 : Nat) (vv_ : Option Value) (hh_ : Heap) (LL_ : List Loc) : Prop := ∃ f : Int64, ∃ t : Int64, vv_ = none ∧ Fr n0 LL_ ∧ Keep h0 hh_ [a] ∧ (Fld Z hh_ a "com/example/adept_layout/adeptlayout/layout/SidePlaces" "clearFrom" "D" (.double (FP.l2d f))) ∧ (Fld Z hh_ a "com/example/adept_layout/adeptlayout/layout/SidePlaces" "clearTo" "D" (.double (FP.l2d t))) ∧ (own_K lo hi ce cl f t)
set_option maxRecDepth 65536 in
set_option maxHeartbeats 40000000 in
theorem own_ct (l : Launch) (Z : State) (a0 : Array Value) (hw : ∀ d ∈ tables_1, d.before a0 Z = true) (ws : List Jvm.Cond) (a : Addr) (lo : Int64) (hi : Int64) (ce : Int64) (cl : Int64) (h0 : Heap) (n0 : Nat) (Z0 : n0 ≤ h0.size) (E : Exa Z h0 a "com/example/adept_layout/adeptlayout/layout/SidePlaces") (g : n0 ≤ a) (sb1 : own_sm lo) (sb2 : own_sm hi) (sb3 : own_sm ce) (sb4 : own_sm cl) (G_low : Fld Z h0 a "com/example/adept_layout/adeptlayout/layout/SidePlaces" "low" "D" (.double 0)) (G_high : Fld Z h0 a "com/example/adept_layout/adeptlayout/layout/SidePlaces" "high" "D" (.double 0)) (G_clearFrom : Fld Z h0 a "com/example/adept_layout/adeptlayout/layout/SidePlaces" "clearFrom" "D" (.double 0)) (G_clearTo : Fld Z h0 a "com/example/adept_layout/adeptlayout/layout/SidePlaces" "clearTo" "D" (.double 0)) (G_length : Fld Z h0 a "com/example/adept_layout/adeptlayout/layout/SidePlaces" "length" "D" (.double 0)) :
    MetFree l (⟨"com/example/adept_layout/adeptlayout/layout/SidePlaces", "<init>", "(DDDD)V"⟩ : MethodName) (head1 (Jvm.Cond.code (⟨"com/example/adept_layout/adeptlayout/layout/SidePlaces", "<init>", "(DDDD)V"⟩ : MethodName) prog_20_method_1_code 14 none :: ws) ({ frames := 1, cells := 0, slots := 0, locals := 15 } : Room)) (fun aa_ UU_ => aa_ = #[(.ref a), (.double (FP.l2d lo)), (.double (FP.l2d hi)), (.double (FP.l2d ce)), (.double (FP.l2d cl))] ∧ Z.Warmed39 UU_.vm ∧ UU_.heap = h0) (fun _ _ _ _ _ => True) (fun _ UU_ oo_ UV_ => ∃ vv_ LL_, oo_ = .returned vv_ ∧ own_ct_Q Z a lo hi ce cl h0 n0 vv_ UV_.heap LL_ ∧ FrameEnd UU_ oo_ UV_ LL_ ({ frames := 1, cells := 0, slots := 0, locals := 15 } : Room).cells ({ frames := 1, cells := 0, slots := 0, locals := 15 } : Room).slots) := by
  refine MetFree.of_bodySF (plainFor_of_name own_ct_pn) hisR ?_
  intro p e s m args below meth c s₁ Bd hml0 hP hK
  obtain ⟨rfl, hZ, hh⟩ := hP
  have hx := Bd.exec
  have hby := Bd.bytes
  have hml : c.maxLocals = 14 := hml0
  have hown : s.vm.findClass "com/example/adept_layout/adeptlayout/layout/SidePlaces" = some m.cls := findClass_of_methodNamed Bd.named
  have hnm := (name_of_methodNamed Bd.named Bd.method).1
  have X0 : Stand p l e ({ frames := 1, cells := 0, slots := 0, locals := 15 } : Room) s m #[(.ref a), (.double (FP.l2d lo)), (.double (FP.l2d hi)), (.double (FP.l2d ce)), (.double (FP.l2d cl))] below meth c s₁ [] 0 0 := Stand.of_body Bd
  have e0 : s₁.heap = h0 := by rw [← hh, Bd.state]; rfl
  have N0 := Fr.nil n0
  have KP0 : Keep h0 h0 [a] := Keep.refl _ _
  refine ownFin (Q := own_ct_Q Z a lo hi ce cl h0 n0) ?_
  refine ownStep (fun _ k => castTop (own_ct_ef m a (FP.l2d lo) (FP.l2d hi) (FP.l2d ce) (FP.l2d cl)) k) ?_
  show ownGo p.tables e below (s₁.setTop (mkF m 0 #[.val (.ref a), .val (.double (FP.l2d lo)), .second, .val (.double (FP.l2d hi)), .second, .val (.double (FP.l2d ce)), .second, .val (.double (FP.l2d cl)), .second, .unset, .unset, .unset, .unset, .unset] [])) _
  refine ownStep (fun _ k => XS.aloadN X0.here hx rfl (hb hby own_ct_d0) rfl rfl k) ?_
  show ownGo p.tables e below (s₁.setTop (mkF m 1 #[.val (.ref a), .val (.double (FP.l2d lo)), .second, .val (.double (FP.l2d hi)), .second, .val (.double (FP.l2d ce)), .second, .val (.double (FP.l2d cl)), .second, .unset, .unset, .unset, .unset, .unset] [(.ref a)])) _
  obtain ⟨T1, X1, e1, st1⟩ := initO X0 hx hZ hown (hw _ ow17) (hw _ ow18) (hw _ ow19) e0 (g := (mkF m 1 #[.val (.ref a), .val (.double (FP.l2d lo)), .second, .val (.double (FP.l2d hi)), .second, .val (.double (FP.l2d ce)), .second, .val (.double (FP.l2d cl)), .second, .unset, .unset, .unset, .unset, .unset] [(.ref a)])) rfl (by rw [hml]; rfl) rfl (hb hby own_ct_d1) (by decide) (W := 0) (by show 2 * 0 + _ ≤ _; exact Nat.le_of_eq rfl) (by decide)
  refine ownStep st1 ?_
  show ownGo p.tables e below (T1.setTop (mkF m 4 #[.val (.ref a), .val (.double (FP.l2d lo)), .second, .val (.double (FP.l2d hi)), .second, .val (.double (FP.l2d ce)), .second, .val (.double (FP.l2d cl)), .second, .unset, .unset, .unset, .unset, .unset] [])) _
  have hB := own_ctB sb1 sb2 sb3 sb4
  refine ownStep (fun _ k => XS.aloadN X1.here hx rfl (hb hby own_ct_d4) rfl rfl k) ?_
  refine ownStep (fun _ k => XS.dloadN X1.here hx rfl (hb hby own_ct_d5) rfl k) ?_
  show ownGo p.tables e below (T1.setTop (mkF m 6 #[.val (.ref a), .val (.double (FP.l2d lo)), .second, .val (.double (FP.l2d hi)), .second, .val (.double (FP.l2d ce)), .second, .val (.double (FP.l2d cl)), .second, .unset, .unset, .unset, .unset, .unset] [(.double (FP.l2d lo)), (.ref a)])) _
  obtain ⟨T2, h2, X2, e2, W2, st2⟩ := putF X1 hx hZ hown (host := "") (Or.inl (hw _ ow20)) Via.refl e1 G_low E (Or.inr ⟨(hw _ ow21), rfl, hnm⟩) (hw _ ow12) (ty := .double) (by decide) rfl rfl (g := (mkF m 6 #[.val (.ref a), .val (.double (FP.l2d lo)), .second, .val (.double (FP.l2d hi)), .second, .val (.double (FP.l2d ce)), .second, .val (.double (FP.l2d cl)), .second, .unset, .unset, .unset, .unset, .unset] [(.double (FP.l2d lo)), (.ref a)])) rfl rfl (hb hby own_ct_d6)
  have N3 := Fr.snoc X2 N0 g
  have KP4 : Keep h0 h2 [a] := KP0.wr W2 (Or.inl (List.mem_of_getElem? (i := 0) rfl))
  have F5 : Fld Z h2 a "com/example/adept_layout/adeptlayout/layout/SidePlaces" "low" "D" (.double (FP.l2d lo)) := G_low.same W2
  refine ownStep st2 ?_
  refine ownStep (fun _ k => XS.aloadN X2.here hx rfl (hb hby own_ct_d9) rfl rfl k) ?_
  refine ownStep (fun _ k => XS.dloadN X2.here hx rfl (hb hby own_ct_d10) rfl k) ?_
  show ownGo p.tables e below (T2.setTop (mkF m 11 #[.val (.ref a), .val (.double (FP.l2d lo)), .second, .val (.double (FP.l2d hi)), .second, .val (.double (FP.l2d ce)), .second, .val (.double (FP.l2d cl)), .second, .unset, .unset, .unset, .unset, .unset] [(.double (FP.l2d hi)), (.ref a)])) _
  have Q6 : Fld Z h2 a "com/example/adept_layout/adeptlayout/layout/SidePlaces" "high" "D" (.double 0) := (G_high.other W2 (Or.inr (slot_ne (Or.inr (hw _ ow23)) (Or.inr (hw _ ow21)) (by decide) (t := .double) (t' := .double) (by decide) (by decide))))
  have Q7 : Exa Z h2 a "com/example/adept_layout/adeptlayout/layout/SidePlaces" := (E.wr W2)
  obtain ⟨T8, h8, X8, e8, W8, st8⟩ := putF X2 hx hZ hown (host := "") (Or.inl (hw _ ow22)) Via.refl e2 Q6 Q7 (Or.inr ⟨(hw _ ow23), rfl, hnm⟩) (hw _ ow12) (ty := .double) (by decide) rfl rfl (g := (mkF m 11 #[.val (.ref a), .val (.double (FP.l2d lo)), .second, .val (.double (FP.l2d hi)), .second, .val (.double (FP.l2d ce)), .second, .val (.double (FP.l2d cl)), .second, .unset, .unset, .unset, .unset, .unset] [(.double (FP.l2d hi)), (.ref a)])) rfl rfl (hb hby own_ct_d11)
  have N9 := Fr.snoc X8 N3 g
  have KP10 : Keep h0 h8 [a] := KP4.wr W8 (Or.inl (List.mem_of_getElem? (i := 0) rfl))
  have F11 : Fld Z h8 a "com/example/adept_layout/adeptlayout/layout/SidePlaces" "high" "D" (.double (FP.l2d hi)) := Q6.same W8
  refine ownStep st8 ?_
  refine ownStep (fun _ k => XS.dloadN X8.here hx rfl (hb hby own_ct_d14) rfl k) ?_
  refine ownStep (fun _ k => XS.dload X8.here hx rfl (hb hby own_ct_d15) rfl k) ?_
  refine ownStep (fun _ k => XS.dload X8.here hx rfl (hb hby own_ct_d17) rfl k) ?_
  refine ownStep (fun _ k => XS.dsubS X8.here hx rfl (hb hby own_ct_d19) rfl (dsub_out (l2d_fin _).noNaN (l2d_fin _)) (dsub_w hB.2.2.1 hB.2.2.2.1) k) ?_
  show ownGo p.tables e below (T8.setTop (mkF m 20 #[.val (.ref a), .val (.double (FP.l2d lo)), .second, .val (.double (FP.l2d hi)), .second, .val (.double (FP.l2d ce)), .second, .val (.double (FP.l2d cl)), .second, .unset, .unset, .unset, .unset, .unset] [(.double (FP.l2d (ce - cl))), (.double (FP.l2d lo))])) _
  obtain ⟨T12, X12, e12, st12⟩ := natS X8 hx hZ (y := (⟨"java/lang/Math", "max", "(DD)D"⟩ : MethodName)) hown (hw _ ow24) (hw _ ow25) (hw _ ow3) (hw _ ow26) (by decide) e8 (W := 0) (fun cc => Abs.maxD_pays (W := 0) (FP.l2d lo) (FP.l2d (ce - cl)) cc (by decide) (by decide)) (g := (mkF m 20 #[.val (.ref a), .val (.double (FP.l2d lo)), .second, .val (.double (FP.l2d hi)), .second, .val (.double (FP.l2d ce)), .second, .val (.double (FP.l2d cl)), .second, .unset, .unset, .unset, .unset, .unset] [(.double (FP.l2d (ce - cl))), (.double (FP.l2d lo))])) rfl (by rw [hml]; rfl) (argsL := [(.double (FP.l2d lo)), (.double (FP.l2d (ce - cl)))]) (rest := []) (lenOf own_ct_pd0 rfl) rfl (by show 2 * 0 + _ ≤ _; exact Nat.le_of_eq rfl) (hb hby own_ct_d20) (by decide) (by decide) ⟨rfl, (l2d_fin _).noNaN, (l2d_fin _).noNaN⟩ (own_maxD hB.1 hB.2.2.2.2.1)
  refine ownStep st12 ?_
  refine ownStep (fun _ k => XS.dstore X12.here hx rfl (hb hby own_ct_d23) rfl (l' := #[.val (.ref a), .val (.double (FP.l2d lo)), .second, .val (.double (FP.l2d hi)), .second, .val (.double (FP.l2d ce)), .second, .val (.double (FP.l2d cl)), .second, .val (.double (FP.l2d (own_max lo (ce - cl)))), .second, .unset, .unset, .unset]) rfl k) ?_
  refine ownStep (fun _ k => XS.dloadN X12.here hx rfl (hb hby own_ct_d25) rfl k) ?_
  refine ownStep (fun _ k => XS.dload X12.here hx rfl (hb hby own_ct_d26) rfl k) ?_
  refine ownStep (fun _ k => XS.dload X12.here hx rfl (hb hby own_ct_d28) rfl k) ?_
  show ownGo p.tables e below (T12.setTop (mkF m 30 #[.val (.ref a), .val (.double (FP.l2d lo)), .second, .val (.double (FP.l2d hi)), .second, .val (.double (FP.l2d ce)), .second, .val (.double (FP.l2d cl)), .second, .val (.double (FP.l2d (own_max lo (ce - cl)))), .second, .unset, .unset, .unset] [(.double (FP.l2d cl)), (.double (FP.l2d ce)), (.double (FP.l2d hi))])) _
  refine ownStep (fun _ k => XS.daddS X12.here hx rfl (hb hby own_ct_d30) rfl (dadd_out (l2d_fin _).noNaN (l2d_fin _)) (dadd_w hB.2.2.1 hB.2.2.2.1) k) ?_
  show ownGo p.tables e below (T12.setTop (mkF m 31 #[.val (.ref a), .val (.double (FP.l2d lo)), .second, .val (.double (FP.l2d hi)), .second, .val (.double (FP.l2d ce)), .second, .val (.double (FP.l2d cl)), .second, .val (.double (FP.l2d (own_max lo (ce - cl)))), .second, .unset, .unset, .unset] [(.double (FP.l2d (ce + cl))), (.double (FP.l2d hi))])) _
  obtain ⟨T13, X13, e13, st13⟩ := natS X12 hx hZ (y := (⟨"java/lang/Math", "min", "(DD)D"⟩ : MethodName)) hown (hw _ ow27) (hw _ ow28) (hw _ ow3) (hw _ ow29) (by decide) e12 (W := 0) (fun cc => Abs.minD_pays (W := 0) (FP.l2d hi) (FP.l2d (ce + cl)) cc (by decide) (by decide)) (g := (mkF m 31 #[.val (.ref a), .val (.double (FP.l2d lo)), .second, .val (.double (FP.l2d hi)), .second, .val (.double (FP.l2d ce)), .second, .val (.double (FP.l2d cl)), .second, .val (.double (FP.l2d (own_max lo (ce - cl)))), .second, .unset, .unset, .unset] [(.double (FP.l2d (ce + cl))), (.double (FP.l2d hi))])) rfl (by rw [hml]; rfl) (argsL := [(.double (FP.l2d hi)), (.double (FP.l2d (ce + cl)))]) (rest := []) (lenOf own_ct_pd0 rfl) rfl (by show 2 * 0 + _ ≤ _; exact Nat.le_of_eq rfl) (hb hby own_ct_d31) (by decide) (by decide) ⟨rfl, (l2d_fin _).noNaN, (l2d_fin _).noNaN⟩ (own_minD hB.2.1 hB.2.2.2.2.2.1)
  refine ownStep st13 ?_
  refine ownStep (fun _ k => XS.dstore X13.here hx rfl (hb hby own_ct_d34) rfl (l' := #[.val (.ref a), .val (.double (FP.l2d lo)), .second, .val (.double (FP.l2d hi)), .second, .val (.double (FP.l2d ce)), .second, .val (.double (FP.l2d cl)), .second, .val (.double (FP.l2d (own_max lo (ce - cl)))), .second, .val (.double (FP.l2d (own_min hi (ce + cl)))), .second, .unset]) rfl k) ?_
  refine ownStep (fun _ k => XS.dload X13.here hx rfl (hb hby own_ct_d36) rfl k) ?_
  refine ownStep (fun _ k => XS.dconst0 X13.here hx rfl (hb hby own_ct_d38) l2d_zero.symm k) ?_
  refine ownStep (fun _ k => XS.dcmpS X13.here hx rfl (hb hby own_ct_d39) rfl (dcmpV_w hB.2.2.2.1 (show B53 (0 : Int64) from ⟨by decide, by decide⟩) _) k) ?_
  show ownGo p.tables e below (T13.setTop (mkF m 40 #[.val (.ref a), .val (.double (FP.l2d lo)), .second, .val (.double (FP.l2d hi)), .second, .val (.double (FP.l2d ce)), .second, .val (.double (FP.l2d cl)), .second, .val (.double (FP.l2d (own_max lo (ce - cl)))), .second, .val (.double (FP.l2d (own_min hi (ce + cl)))), .second, .unset] [(.int (lcmpW cl (0 : Int64)))])) _
  by_cases hc40 : (0 : Int32) < (lcmpW cl (0 : Int64))
  · skip
    refine ownStep (fun _ k => XS.ifNo X13.here hx rfl (hb hby own_ct_d40) rfl ((if0 _ _).trans (tlt (hc40 : (0 : Int32) < (lcmpW cl (0 : Int64)))).2.2.2) k) ?_
    refine ownStep (fun _ k => XS.dload X13.here hx rfl (hb hby own_ct_d43) rfl k) ?_
    refine ownStep (fun _ k => XS.dload X13.here hx rfl (hb hby own_ct_d45) rfl k) ?_
    refine ownStep (fun _ k => XS.dsubS X13.here hx rfl (hb hby own_ct_d47) rfl (dsub_out (l2d_fin _).noNaN (l2d_fin _)) (dsub_w hB.2.2.2.2.2.2.2.1 hB.2.2.2.2.2.2.1) k) ?_
    refine ownStep (fun _ k => XS.dloadN X13.here hx rfl (hb hby own_ct_d48) rfl k) ?_
    show ownGo p.tables e below (T13.setTop (mkF m 49 #[.val (.ref a), .val (.double (FP.l2d lo)), .second, .val (.double (FP.l2d hi)), .second, .val (.double (FP.l2d ce)), .second, .val (.double (FP.l2d cl)), .second, .val (.double (FP.l2d (own_max lo (ce - cl)))), .second, .val (.double (FP.l2d (own_min hi (ce + cl)))), .second, .unset] [(.double (FP.l2d hi)), (.double (FP.l2d ((own_min hi (ce + cl)) - (own_max lo (ce - cl)))))])) _
    refine ownStep (fun _ k => XS.dloadN X13.here hx rfl (hb hby own_ct_d49) rfl k) ?_
    refine ownStep (fun _ k => XS.dsubS X13.here hx rfl (hb hby own_ct_d50) rfl (dsub_out (l2d_fin _).noNaN (l2d_fin _)) (dsub_w hB.2.1 hB.1) k) ?_
    show ownGo p.tables e below (T13.setTop (mkF m 51 #[.val (.ref a), .val (.double (FP.l2d lo)), .second, .val (.double (FP.l2d hi)), .second, .val (.double (FP.l2d ce)), .second, .val (.double (FP.l2d cl)), .second, .val (.double (FP.l2d (own_max lo (ce - cl)))), .second, .val (.double (FP.l2d (own_min hi (ce + cl)))), .second, .unset] [(.double (FP.l2d (hi - lo))), (.double (FP.l2d ((own_min hi (ce + cl)) - (own_max lo (ce - cl)))))])) _
    refine ownStep (X13.ldc2DoubleC hx hown (mvT hZ (hw _ ow41)) (g := (mkF m 51 #[.val (.ref a), .val (.double (FP.l2d lo)), .second, .val (.double (FP.l2d hi)), .second, .val (.double (FP.l2d ce)), .second, .val (.double (FP.l2d cl)), .second, .val (.double (FP.l2d (own_max lo (ce - cl)))), .second, .val (.double (FP.l2d (own_min hi (ce + cl)))), .second, .unset] [(.double (FP.l2d (hi - lo))), (.double (FP.l2d ((own_min hi (ce + cl)) - (own_max lo (ce - cl)))))])) rfl (hb hby own_ct_d51)) ?_
    refine ownStep (fun _ k => XS.dsubS X13.here hx rfl (hb hby own_ct_d54) rfl (dsub_out (l2d_fin _).noNaN own_tolf) rfl k) ?_
    refine ownStep (fun _ k => XS.dcmpS X13.here hx rfl (hb hby own_ct_d55) rfl rfl k) ?_
    show ownGo p.tables e below (T13.setTop (mkF m 56 #[.val (.ref a), .val (.double (FP.l2d lo)), .second, .val (.double (FP.l2d hi)), .second, .val (.double (FP.l2d ce)), .second, .val (.double (FP.l2d cl)), .second, .val (.double (FP.l2d (own_max lo (ce - cl)))), .second, .val (.double (FP.l2d (own_min hi (ce + cl)))), .second, .unset] [(.int (cmpValue (FP.dcmp (FP.l2d ((own_min hi (ce + cl)) - (own_max lo (ce - cl)))) (FP.dsub (FP.l2d (hi - lo)) (4517329193108106637 : UInt64))) .g))])) _
    by_cases hc56 : (cmpValue (FP.dcmp (FP.l2d ((own_min hi (ce + cl)) - (own_max lo (ce - cl)))) (FP.dsub (FP.l2d (hi - lo)) (4517329193108106637 : UInt64))) .g) < (0 : Int32)
    · skip
      refine ownStep (fun _ k => XS.ifNo X13.here hx rfl (hb hby own_ct_d56) rfl ((if0 _ _).trans (tlt (hc56 : (cmpValue (FP.dcmp (FP.l2d ((own_min hi (ce + cl)) - (own_max lo (ce - cl)))) (FP.dsub (FP.l2d (hi - lo)) (4517329193108106637 : UInt64))) .g) < (0 : Int32))).2.1) k) ?_
      refine ownStep (fun _ k => XS.iconst X13.here hx rfl (hb hby own_ct_d59) k) ?_
      refine ownStep (fun _ k => XS.goto X13.here hx rfl (pc0 := 60) (pc' := 64) rfl (hb hby own_ct_d60) (by decide) (by decide) k) ?_
      refine ownStep (fun _ k => XS.istore X13.here hx rfl (hb hby own_ct_d64) rfl (l' := #[.val (.ref a), .val (.double (FP.l2d lo)), .second, .val (.double (FP.l2d hi)), .second, .val (.double (FP.l2d ce)), .second, .val (.double (FP.l2d cl)), .second, .val (.double (FP.l2d (own_max lo (ce - cl)))), .second, .val (.double (FP.l2d (own_min hi (ce + cl)))), .second, .val (.int (1 : Int32))]) rfl k) ?_
      refine ownStep (fun _ k => XS.aloadN X13.here hx rfl (hb hby own_ct_d66) rfl rfl k) ?_
      show ownGo p.tables e below (T13.setTop (mkF m 67 #[.val (.ref a), .val (.double (FP.l2d lo)), .second, .val (.double (FP.l2d hi)), .second, .val (.double (FP.l2d ce)), .second, .val (.double (FP.l2d cl)), .second, .val (.double (FP.l2d (own_max lo (ce - cl)))), .second, .val (.double (FP.l2d (own_min hi (ce + cl)))), .second, .val (.int (1 : Int32))] [(.ref a)])) _
      refine ownStep (fun _ k => XS.iload X13.here hx rfl (hb hby own_ct_d67) rfl  k) ?_
      refine ownStep (fun _ k => XS.ifNo X13.here hx rfl (hb hby own_ct_d69) rfl ((if0 _ _).trans (feq (by decide : ¬ (1 : Int32) = (0 : Int32))).1) k) ?_
      refine ownStep (fun _ k => XS.dload X13.here hx rfl (hb hby own_ct_d72) rfl k) ?_
      refine ownStep (fun _ k => XS.goto X13.here hx rfl (pc0 := 74) (pc' := 79) rfl (hb hby own_ct_d74) (by decide) (by decide) k) ?_
      show ownGo p.tables e below (T13.setTop (mkF m 79 #[.val (.ref a), .val (.double (FP.l2d lo)), .second, .val (.double (FP.l2d hi)), .second, .val (.double (FP.l2d ce)), .second, .val (.double (FP.l2d cl)), .second, .val (.double (FP.l2d (own_max lo (ce - cl)))), .second, .val (.double (FP.l2d (own_min hi (ce + cl)))), .second, .val (.int (1 : Int32))] [(.double (FP.l2d (own_max lo (ce - cl)))), (.ref a)])) _
      have Q14 : Fld Z h8 a "com/example/adept_layout/adeptlayout/layout/SidePlaces" "clearFrom" "D" (.double 0) := ((G_clearFrom.other W2 (Or.inr (slot_ne (Or.inr (hw _ ow31)) (Or.inr (hw _ ow21)) (by decide) (t := .double) (t' := .double) (by decide) (by decide)))).other W8 (Or.inr (slot_ne (Or.inr (hw _ ow31)) (Or.inr (hw _ ow23)) (by decide) (t := .double) (t' := .double) (by decide) (by decide))))
      have Q15 : Exa Z h8 a "com/example/adept_layout/adeptlayout/layout/SidePlaces" := (Q7.wr W8)
      obtain ⟨T16, h16, X16, e16, W16, st16⟩ := putF X13 hx hZ hown (host := "") (Or.inl (hw _ ow30)) Via.refl e13 Q14 Q15 (Or.inr ⟨(hw _ ow31), rfl, hnm⟩) (hw _ ow12) (ty := .double) (by decide) rfl rfl (g := (mkF m 79 #[.val (.ref a), .val (.double (FP.l2d lo)), .second, .val (.double (FP.l2d hi)), .second, .val (.double (FP.l2d ce)), .second, .val (.double (FP.l2d cl)), .second, .val (.double (FP.l2d (own_max lo (ce - cl)))), .second, .val (.double (FP.l2d (own_min hi (ce + cl)))), .second, .val (.int (1 : Int32))] [(.double (FP.l2d (own_max lo (ce - cl)))), (.ref a)])) rfl rfl (hb hby own_ct_d79)
      have N17 := Fr.snoc X16 N9 g
      have KP18 : Keep h0 h16 [a] := KP10.wr W16 (Or.inl (List.mem_of_getElem? (i := 0) rfl))
      have F19 : Fld Z h16 a "com/example/adept_layout/adeptlayout/layout/SidePlaces" "clearFrom" "D" (.double (FP.l2d (own_max lo (ce - cl)))) := Q14.same W16
      refine ownStep st16 ?_
      refine ownStep (fun _ k => XS.aloadN X16.here hx rfl (hb hby own_ct_d82) rfl rfl k) ?_
      refine ownStep (fun _ k => XS.iload X16.here hx rfl (hb hby own_ct_d83) rfl  k) ?_
      refine ownStep (fun _ k => XS.ifNo X16.here hx rfl (hb hby own_ct_d85) rfl ((if0 _ _).trans (feq (by decide : ¬ (1 : Int32) = (0 : Int32))).1) k) ?_
      refine ownStep (fun _ k => XS.dload X16.here hx rfl (hb hby own_ct_d88) rfl k) ?_
      show ownGo p.tables e below (T16.setTop (mkF m 90 #[.val (.ref a), .val (.double (FP.l2d lo)), .second, .val (.double (FP.l2d hi)), .second, .val (.double (FP.l2d ce)), .second, .val (.double (FP.l2d cl)), .second, .val (.double (FP.l2d (own_max lo (ce - cl)))), .second, .val (.double (FP.l2d (own_min hi (ce + cl)))), .second, .val (.int (1 : Int32))] [(.double (FP.l2d (own_min hi (ce + cl)))), (.ref a)])) _
      refine ownStep (fun _ k => XS.goto X16.here hx rfl (pc0 := 90) (pc' := 95) rfl (hb hby own_ct_d90) (by decide) (by decide) k) ?_
      show ownGo p.tables e below (T16.setTop (mkF m 95 #[.val (.ref a), .val (.double (FP.l2d lo)), .second, .val (.double (FP.l2d hi)), .second, .val (.double (FP.l2d ce)), .second, .val (.double (FP.l2d cl)), .second, .val (.double (FP.l2d (own_max lo (ce - cl)))), .second, .val (.double (FP.l2d (own_min hi (ce + cl)))), .second, .val (.int (1 : Int32))] [(.double (FP.l2d (own_min hi (ce + cl)))), (.ref a)])) _
      have Q20 : Fld Z h16 a "com/example/adept_layout/adeptlayout/layout/SidePlaces" "clearTo" "D" (.double 0) := (((G_clearTo.other W2 (Or.inr (slot_ne (Or.inr (hw _ ow33)) (Or.inr (hw _ ow21)) (by decide) (t := .double) (t' := .double) (by decide) (by decide)))).other W8 (Or.inr (slot_ne (Or.inr (hw _ ow33)) (Or.inr (hw _ ow23)) (by decide) (t := .double) (t' := .double) (by decide) (by decide)))).other W16 (Or.inr (slot_ne (Or.inr (hw _ ow33)) (Or.inr (hw _ ow31)) (by decide) (t := .double) (t' := .double) (by decide) (by decide))))
      have Q21 : Exa Z h16 a "com/example/adept_layout/adeptlayout/layout/SidePlaces" := (Q15.wr W16)
      obtain ⟨T22, h22, X22, e22, W22, st22⟩ := putF X16 hx hZ hown (host := "") (Or.inl (hw _ ow32)) Via.refl e16 Q20 Q21 (Or.inr ⟨(hw _ ow33), rfl, hnm⟩) (hw _ ow12) (ty := .double) (by decide) rfl rfl (g := (mkF m 95 #[.val (.ref a), .val (.double (FP.l2d lo)), .second, .val (.double (FP.l2d hi)), .second, .val (.double (FP.l2d ce)), .second, .val (.double (FP.l2d cl)), .second, .val (.double (FP.l2d (own_max lo (ce - cl)))), .second, .val (.double (FP.l2d (own_min hi (ce + cl)))), .second, .val (.int (1 : Int32))] [(.double (FP.l2d (own_min hi (ce + cl)))), (.ref a)])) rfl rfl (hb hby own_ct_d95)
      have N23 := Fr.snoc X22 N17 g
      have KP24 : Keep h0 h22 [a] := KP18.wr W22 (Or.inl (List.mem_of_getElem? (i := 0) rfl))
      have F25 : Fld Z h22 a "com/example/adept_layout/adeptlayout/layout/SidePlaces" "clearTo" "D" (.double (FP.l2d (own_min hi (ce + cl)))) := Q20.same W22
      refine ownStep st22 ?_
      refine ownStep (fun _ k => XS.aloadN X22.here hx rfl (hb hby own_ct_d98) rfl rfl k) ?_
      refine ownStep (fun _ k => XS.dloadN X22.here hx rfl (hb hby own_ct_d99) rfl k) ?_
      refine ownStep (fun _ k => XS.dloadN X22.here hx rfl (hb hby own_ct_d100) rfl k) ?_
      refine ownStep (fun _ k => XS.dsubS X22.here hx rfl (hb hby own_ct_d101) rfl (dsub_out (l2d_fin _).noNaN (l2d_fin _)) (dsub_w hB.2.1 hB.1) k) ?_
      show ownGo p.tables e below (T22.setTop (mkF m 102 #[.val (.ref a), .val (.double (FP.l2d lo)), .second, .val (.double (FP.l2d hi)), .second, .val (.double (FP.l2d ce)), .second, .val (.double (FP.l2d cl)), .second, .val (.double (FP.l2d (own_max lo (ce - cl)))), .second, .val (.double (FP.l2d (own_min hi (ce + cl)))), .second, .val (.int (1 : Int32))] [(.double (FP.l2d (hi - lo))), (.ref a)])) _
      refine ownStep (fun _ k => XS.aloadN X22.here hx rfl (hb hby own_ct_d102) rfl rfl k) ?_
      show ownGo p.tables e below (T22.setTop (mkF m 103 #[.val (.ref a), .val (.double (FP.l2d lo)), .second, .val (.double (FP.l2d hi)), .second, .val (.double (FP.l2d ce)), .second, .val (.double (FP.l2d cl)), .second, .val (.double (FP.l2d (own_max lo (ce - cl)))), .second, .val (.double (FP.l2d (own_min hi (ce + cl)))), .second, .val (.int (1 : Int32))] [(.ref a), (.double (FP.l2d (hi - lo))), (.ref a)])) _
      obtain ⟨T26, X26, e26, st26⟩ := getF X22 hx hZ hown (host := "") (Or.inl (hw _ ow32)) Via.refl e22 F25 (g := (mkF m 103 #[.val (.ref a), .val (.double (FP.l2d lo)), .second, .val (.double (FP.l2d hi)), .second, .val (.double (FP.l2d ce)), .second, .val (.double (FP.l2d cl)), .second, .val (.double (FP.l2d (own_max lo (ce - cl)))), .second, .val (.double (FP.l2d (own_min hi (ce + cl)))), .second, .val (.int (1 : Int32))] [(.ref a), (.double (FP.l2d (hi - lo))), (.ref a)])) rfl rfl (hb hby own_ct_d103)
      refine ownStep st26 ?_
      refine ownStep (fun _ k => XS.aloadN X26.here hx rfl (hb hby own_ct_d106) rfl rfl k) ?_
      show ownGo p.tables e below (T26.setTop (mkF m 107 #[.val (.ref a), .val (.double (FP.l2d lo)), .second, .val (.double (FP.l2d hi)), .second, .val (.double (FP.l2d ce)), .second, .val (.double (FP.l2d cl)), .second, .val (.double (FP.l2d (own_max lo (ce - cl)))), .second, .val (.double (FP.l2d (own_min hi (ce + cl)))), .second, .val (.int (1 : Int32))] [(.ref a), (.double (FP.l2d (own_min hi (ce + cl)))), (.double (FP.l2d (hi - lo))), (.ref a)])) _
      have Q27 : Fld Z h22 a "com/example/adept_layout/adeptlayout/layout/SidePlaces" "clearFrom" "D" (.double (FP.l2d (own_max lo (ce - cl)))) := (F19.other W22 (Or.inr (slot_ne (Or.inr (hw _ ow31)) (Or.inr (hw _ ow33)) (by decide) (t := .double) (t' := .double) (by decide) (by decide))))
      obtain ⟨T28, X28, e28, st28⟩ := getF X26 hx hZ hown (host := "") (Or.inl (hw _ ow30)) Via.refl e26 Q27 (g := (mkF m 107 #[.val (.ref a), .val (.double (FP.l2d lo)), .second, .val (.double (FP.l2d hi)), .second, .val (.double (FP.l2d ce)), .second, .val (.double (FP.l2d cl)), .second, .val (.double (FP.l2d (own_max lo (ce - cl)))), .second, .val (.double (FP.l2d (own_min hi (ce + cl)))), .second, .val (.int (1 : Int32))] [(.ref a), (.double (FP.l2d (own_min hi (ce + cl)))), (.double (FP.l2d (hi - lo))), (.ref a)])) rfl rfl (hb hby own_ct_d107)
      refine ownStep st28 ?_
      refine ownStep (fun _ k => XS.dsubS X28.here hx rfl (hb hby own_ct_d110) rfl (dsub_out (l2d_fin _).noNaN (l2d_fin _)) (dsub_w hB.2.2.2.2.2.2.2.1 hB.2.2.2.2.2.2.1) k) ?_
      refine ownStep (fun _ k => XS.dsubS X28.here hx rfl (hb hby own_ct_d111) rfl (dsub_out (l2d_fin _).noNaN (l2d_fin _)) rfl k) ?_
      show ownGo p.tables e below (T28.setTop (mkF m 112 #[.val (.ref a), .val (.double (FP.l2d lo)), .second, .val (.double (FP.l2d hi)), .second, .val (.double (FP.l2d ce)), .second, .val (.double (FP.l2d cl)), .second, .val (.double (FP.l2d (own_max lo (ce - cl)))), .second, .val (.double (FP.l2d (own_min hi (ce + cl)))), .second, .val (.int (1 : Int32))] [(.double (FP.dsub (FP.l2d (hi - lo)) (FP.l2d ((own_min hi (ce + cl)) - (own_max lo (ce - cl)))))), (.ref a)])) _
      have Q29 : Fld Z h22 a "com/example/adept_layout/adeptlayout/layout/SidePlaces" "length" "D" (.double 0) := ((((G_length.other W2 (Or.inr (slot_ne (Or.inr (hw _ ow35)) (Or.inr (hw _ ow21)) (by decide) (t := .double) (t' := .double) (by decide) (by decide)))).other W8 (Or.inr (slot_ne (Or.inr (hw _ ow35)) (Or.inr (hw _ ow23)) (by decide) (t := .double) (t' := .double) (by decide) (by decide)))).other W16 (Or.inr (slot_ne (Or.inr (hw _ ow35)) (Or.inr (hw _ ow31)) (by decide) (t := .double) (t' := .double) (by decide) (by decide)))).other W22 (Or.inr (slot_ne (Or.inr (hw _ ow35)) (Or.inr (hw _ ow33)) (by decide) (t := .double) (t' := .double) (by decide) (by decide))))
      have Q30 : Exa Z h22 a "com/example/adept_layout/adeptlayout/layout/SidePlaces" := (Q21.wr W22)
      obtain ⟨T31, h31, X31, e31, W31, st31⟩ := putF X28 hx hZ hown (host := "") (Or.inl (hw _ ow34)) Via.refl e28 Q29 Q30 (Or.inr ⟨(hw _ ow35), rfl, hnm⟩) (hw _ ow12) (ty := .double) (by decide) rfl rfl (g := (mkF m 112 #[.val (.ref a), .val (.double (FP.l2d lo)), .second, .val (.double (FP.l2d hi)), .second, .val (.double (FP.l2d ce)), .second, .val (.double (FP.l2d cl)), .second, .val (.double (FP.l2d (own_max lo (ce - cl)))), .second, .val (.double (FP.l2d (own_min hi (ce + cl)))), .second, .val (.int (1 : Int32))] [(.double (FP.dsub (FP.l2d (hi - lo)) (FP.l2d ((own_min hi (ce + cl)) - (own_max lo (ce - cl)))))), (.ref a)])) rfl rfl (hb hby own_ct_d112)
      have N32 := Fr.snoc X31 N23 g
      have KP33 : Keep h0 h31 [a] := KP24.wr W31 (Or.inl (List.mem_of_getElem? (i := 0) rfl))
      have F34 : Fld Z h31 a "com/example/adept_layout/adeptlayout/layout/SidePlaces" "length" "D" (.double (FP.dsub (FP.l2d (hi - lo)) (FP.l2d ((own_min hi (ce + cl)) - (own_max lo (ce - cl)))))) := Q29.same W31
      refine ownStep st31 ?_
      show ownGo p.tables e below (T31.setTop (mkF m 115 #[.val (.ref a), .val (.double (FP.l2d lo)), .second, .val (.double (FP.l2d hi)), .second, .val (.double (FP.l2d ce)), .second, .val (.double (FP.l2d cl)), .second, .val (.double (FP.l2d (own_max lo (ce - cl)))), .second, .val (.double (FP.l2d (own_min hi (ce + cl)))), .second, .val (.int (1 : Int32))] [])) _
      have Q35 : Fld Z h31 a "com/example/adept_layout/adeptlayout/layout/SidePlaces" "clearFrom" "D" (.double (FP.l2d (own_max lo (ce - cl)))) := (Q27.other W31 (Or.inr (slot_ne (Or.inr (hw _ ow31)) (Or.inr (hw _ ow35)) (by decide) (t := .double) (t' := .double) (by decide) (by decide))))
      have Q36 : Fld Z h31 a "com/example/adept_layout/adeptlayout/layout/SidePlaces" "clearTo" "D" (.double (FP.l2d (own_min hi (ce + cl)))) := (F25.other W31 (Or.inr (slot_ne (Or.inr (hw _ ow33)) (Or.inr (hw _ ow35)) (by decide) (t := .double) (t' := .double) (by decide) (by decide))))
      exact ownRet X31 (v := none) Bd.notSynchronized (fun _ => rfl) (fun _ hr => X31.returnOut hx Bd.returns (hb hby own_ct_d115) hr) (by rw [e31]; exact ⟨(own_max lo (ce - cl)), (own_min hi (ce + cl)), rfl, N32, KP33, Q35, Q36, own_K1 sb1 sb2 sb3 sb4 hc40 hc56⟩) (by decide) (by decide)
    · skip
      refine ownStep (fun _ k => XS.ifYes X13.here hx rfl (pc0 := 56) (pc' := 63) rfl (hb hby own_ct_d56) rfl ((if0 _ _).trans (flt (hc56 : ¬ (cmpValue (FP.dcmp (FP.l2d ((own_min hi (ce + cl)) - (own_max lo (ce - cl)))) (FP.dsub (FP.l2d (hi - lo)) (4517329193108106637 : UInt64))) .g) < (0 : Int32))).2.1) (by decide) (by decide) k) ?_
      refine ownStep (fun _ k => XS.iconst X13.here hx rfl (hb hby own_ct_d63) k) ?_
      refine ownStep (fun _ k => XS.istore X13.here hx rfl (hb hby own_ct_d64) rfl (l' := #[.val (.ref a), .val (.double (FP.l2d lo)), .second, .val (.double (FP.l2d hi)), .second, .val (.double (FP.l2d ce)), .second, .val (.double (FP.l2d cl)), .second, .val (.double (FP.l2d (own_max lo (ce - cl)))), .second, .val (.double (FP.l2d (own_min hi (ce + cl)))), .second, .val (.int (0 : Int32))]) rfl k) ?_
      refine ownStep (fun _ k => XS.aloadN X13.here hx rfl (hb hby own_ct_d66) rfl rfl k) ?_
      refine ownStep (fun _ k => XS.iload X13.here hx rfl (hb hby own_ct_d67) rfl  k) ?_
      show ownGo p.tables e below (T13.setTop (mkF m 69 #[.val (.ref a), .val (.double (FP.l2d lo)), .second, .val (.double (FP.l2d hi)), .second, .val (.double (FP.l2d ce)), .second, .val (.double (FP.l2d cl)), .second, .val (.double (FP.l2d (own_max lo (ce - cl)))), .second, .val (.double (FP.l2d (own_min hi (ce + cl)))), .second, .val (.int (0 : Int32))] [(.int (0 : Int32)), (.ref a)])) _
      refine ownStep (fun _ k => XS.ifYes X13.here hx rfl (pc0 := 69) (pc' := 77) rfl (hb hby own_ct_d69) rfl ((if0 _ _).trans (teq (by decide : (0 : Int32) = (0 : Int32))).1) (by decide) (by decide) k) ?_
      refine ownStep (fun _ k => XS.dload X13.here hx rfl (hb hby own_ct_d77) rfl k) ?_
      show ownGo p.tables e below (T13.setTop (mkF m 79 #[.val (.ref a), .val (.double (FP.l2d lo)), .second, .val (.double (FP.l2d hi)), .second, .val (.double (FP.l2d ce)), .second, .val (.double (FP.l2d cl)), .second, .val (.double (FP.l2d (own_max lo (ce - cl)))), .second, .val (.double (FP.l2d (own_min hi (ce + cl)))), .second, .val (.int (0 : Int32))] [(.double (FP.l2d ce)), (.ref a)])) _
      have Q37 : Fld Z h8 a "com/example/adept_layout/adeptlayout/layout/SidePlaces" "clearFrom" "D" (.double 0) := ((G_clearFrom.other W2 (Or.inr (slot_ne (Or.inr (hw _ ow31)) (Or.inr (hw _ ow21)) (by decide) (t := .double) (t' := .double) (by decide) (by decide)))).other W8 (Or.inr (slot_ne (Or.inr (hw _ ow31)) (Or.inr (hw _ ow23)) (by decide) (t := .double) (t' := .double) (by decide) (by decide))))
      have Q38 : Exa Z h8 a "com/example/adept_layout/adeptlayout/layout/SidePlaces" := (Q7.wr W8)
      obtain ⟨T39, h39, X39, e39, W39, st39⟩ := putF X13 hx hZ hown (host := "") (Or.inl (hw _ ow30)) Via.refl e13 Q37 Q38 (Or.inr ⟨(hw _ ow31), rfl, hnm⟩) (hw _ ow12) (ty := .double) (by decide) rfl rfl (g := (mkF m 79 #[.val (.ref a), .val (.double (FP.l2d lo)), .second, .val (.double (FP.l2d hi)), .second, .val (.double (FP.l2d ce)), .second, .val (.double (FP.l2d cl)), .second, .val (.double (FP.l2d (own_max lo (ce - cl)))), .second, .val (.double (FP.l2d (own_min hi (ce + cl)))), .second, .val (.int (0 : Int32))] [(.double (FP.l2d ce)), (.ref a)])) rfl rfl (hb hby own_ct_d79)
      have N40 := Fr.snoc X39 N9 g
      have KP41 : Keep h0 h39 [a] := KP10.wr W39 (Or.inl (List.mem_of_getElem? (i := 0) rfl))
      have F42 : Fld Z h39 a "com/example/adept_layout/adeptlayout/layout/SidePlaces" "clearFrom" "D" (.double (FP.l2d ce)) := Q37.same W39
      refine ownStep st39 ?_
      refine ownStep (fun _ k => XS.aloadN X39.here hx rfl (hb hby own_ct_d82) rfl rfl k) ?_
      refine ownStep (fun _ k => XS.iload X39.here hx rfl (hb hby own_ct_d83) rfl  k) ?_
      refine ownStep (fun _ k => XS.ifYes X39.here hx rfl (pc0 := 85) (pc' := 93) rfl (hb hby own_ct_d85) rfl ((if0 _ _).trans (teq (by decide : (0 : Int32) = (0 : Int32))).1) (by decide) (by decide) k) ?_
      refine ownStep (fun _ k => XS.dload X39.here hx rfl (hb hby own_ct_d93) rfl k) ?_
      show ownGo p.tables e below (T39.setTop (mkF m 95 #[.val (.ref a), .val (.double (FP.l2d lo)), .second, .val (.double (FP.l2d hi)), .second, .val (.double (FP.l2d ce)), .second, .val (.double (FP.l2d cl)), .second, .val (.double (FP.l2d (own_max lo (ce - cl)))), .second, .val (.double (FP.l2d (own_min hi (ce + cl)))), .second, .val (.int (0 : Int32))] [(.double (FP.l2d ce)), (.ref a)])) _
      have Q43 : Fld Z h39 a "com/example/adept_layout/adeptlayout/layout/SidePlaces" "clearTo" "D" (.double 0) := (((G_clearTo.other W2 (Or.inr (slot_ne (Or.inr (hw _ ow33)) (Or.inr (hw _ ow21)) (by decide) (t := .double) (t' := .double) (by decide) (by decide)))).other W8 (Or.inr (slot_ne (Or.inr (hw _ ow33)) (Or.inr (hw _ ow23)) (by decide) (t := .double) (t' := .double) (by decide) (by decide)))).other W39 (Or.inr (slot_ne (Or.inr (hw _ ow33)) (Or.inr (hw _ ow31)) (by decide) (t := .double) (t' := .double) (by decide) (by decide))))
      have Q44 : Exa Z h39 a "com/example/adept_layout/adeptlayout/layout/SidePlaces" := (Q38.wr W39)
      obtain ⟨T45, h45, X45, e45, W45, st45⟩ := putF X39 hx hZ hown (host := "") (Or.inl (hw _ ow32)) Via.refl e39 Q43 Q44 (Or.inr ⟨(hw _ ow33), rfl, hnm⟩) (hw _ ow12) (ty := .double) (by decide) rfl rfl (g := (mkF m 95 #[.val (.ref a), .val (.double (FP.l2d lo)), .second, .val (.double (FP.l2d hi)), .second, .val (.double (FP.l2d ce)), .second, .val (.double (FP.l2d cl)), .second, .val (.double (FP.l2d (own_max lo (ce - cl)))), .second, .val (.double (FP.l2d (own_min hi (ce + cl)))), .second, .val (.int (0 : Int32))] [(.double (FP.l2d ce)), (.ref a)])) rfl rfl (hb hby own_ct_d95)
      have N46 := Fr.snoc X45 N40 g
      have KP47 : Keep h0 h45 [a] := KP41.wr W45 (Or.inl (List.mem_of_getElem? (i := 0) rfl))
      have F48 : Fld Z h45 a "com/example/adept_layout/adeptlayout/layout/SidePlaces" "clearTo" "D" (.double (FP.l2d ce)) := Q43.same W45
      refine ownStep st45 ?_
      refine ownStep (fun _ k => XS.aloadN X45.here hx rfl (hb hby own_ct_d98) rfl rfl k) ?_
      refine ownStep (fun _ k => XS.dloadN X45.here hx rfl (hb hby own_ct_d99) rfl k) ?_
      refine ownStep (fun _ k => XS.dloadN X45.here hx rfl (hb hby own_ct_d100) rfl k) ?_
      refine ownStep (fun _ k => XS.dsubS X45.here hx rfl (hb hby own_ct_d101) rfl (dsub_out (l2d_fin _).noNaN (l2d_fin _)) (dsub_w hB.2.1 hB.1) k) ?_
      show ownGo p.tables e below (T45.setTop (mkF m 102 #[.val (.ref a), .val (.double (FP.l2d lo)), .second, .val (.double (FP.l2d hi)), .second, .val (.double (FP.l2d ce)), .second, .val (.double (FP.l2d cl)), .second, .val (.double (FP.l2d (own_max lo (ce - cl)))), .second, .val (.double (FP.l2d (own_min hi (ce + cl)))), .second, .val (.int (0 : Int32))] [(.double (FP.l2d (hi - lo))), (.ref a)])) _
      refine ownStep (fun _ k => XS.aloadN X45.here hx rfl (hb hby own_ct_d102) rfl rfl k) ?_
      show ownGo p.tables e below (T45.setTop (mkF m 103 #[.val (.ref a), .val (.double (FP.l2d lo)), .second, .val (.double (FP.l2d hi)), .second, .val (.double (FP.l2d ce)), .second, .val (.double (FP.l2d cl)), .second, .val (.double (FP.l2d (own_max lo (ce - cl)))), .second, .val (.double (FP.l2d (own_min hi (ce + cl)))), .second, .val (.int (0 : Int32))] [(.ref a), (.double (FP.l2d (hi - lo))), (.ref a)])) _
      obtain ⟨T49, X49, e49, st49⟩ := getF X45 hx hZ hown (host := "") (Or.inl (hw _ ow32)) Via.refl e45 F48 (g := (mkF m 103 #[.val (.ref a), .val (.double (FP.l2d lo)), .second, .val (.double (FP.l2d hi)), .second, .val (.double (FP.l2d ce)), .second, .val (.double (FP.l2d cl)), .second, .val (.double (FP.l2d (own_max lo (ce - cl)))), .second, .val (.double (FP.l2d (own_min hi (ce + cl)))), .second, .val (.int (0 : Int32))] [(.ref a), (.double (FP.l2d (hi - lo))), (.ref a)])) rfl rfl (hb hby own_ct_d103)
      refine ownStep st49 ?_
      refine ownStep (fun _ k => XS.aloadN X49.here hx rfl (hb hby own_ct_d106) rfl rfl k) ?_
      show ownGo p.tables e below (T49.setTop (mkF m 107 #[.val (.ref a), .val (.double (FP.l2d lo)), .second, .val (.double (FP.l2d hi)), .second, .val (.double (FP.l2d ce)), .second, .val (.double (FP.l2d cl)), .second, .val (.double (FP.l2d (own_max lo (ce - cl)))), .second, .val (.double (FP.l2d (own_min hi (ce + cl)))), .second, .val (.int (0 : Int32))] [(.ref a), (.double (FP.l2d ce)), (.double (FP.l2d (hi - lo))), (.ref a)])) _
      have Q50 : Fld Z h45 a "com/example/adept_layout/adeptlayout/layout/SidePlaces" "clearFrom" "D" (.double (FP.l2d ce)) := (F42.other W45 (Or.inr (slot_ne (Or.inr (hw _ ow31)) (Or.inr (hw _ ow33)) (by decide) (t := .double) (t' := .double) (by decide) (by decide))))
      obtain ⟨T51, X51, e51, st51⟩ := getF X49 hx hZ hown (host := "") (Or.inl (hw _ ow30)) Via.refl e49 Q50 (g := (mkF m 107 #[.val (.ref a), .val (.double (FP.l2d lo)), .second, .val (.double (FP.l2d hi)), .second, .val (.double (FP.l2d ce)), .second, .val (.double (FP.l2d cl)), .second, .val (.double (FP.l2d (own_max lo (ce - cl)))), .second, .val (.double (FP.l2d (own_min hi (ce + cl)))), .second, .val (.int (0 : Int32))] [(.ref a), (.double (FP.l2d ce)), (.double (FP.l2d (hi - lo))), (.ref a)])) rfl rfl (hb hby own_ct_d107)
      refine ownStep st51 ?_
      refine ownStep (fun _ k => XS.dsubS X51.here hx rfl (hb hby own_ct_d110) rfl (dsub_out (l2d_fin _).noNaN (l2d_fin _)) (dsub_w hB.2.2.1 hB.2.2.1) k) ?_
      refine ownStep (fun _ k => XS.dsubS X51.here hx rfl (hb hby own_ct_d111) rfl (dsub_out (l2d_fin _).noNaN (l2d_fin _)) rfl k) ?_
      show ownGo p.tables e below (T51.setTop (mkF m 112 #[.val (.ref a), .val (.double (FP.l2d lo)), .second, .val (.double (FP.l2d hi)), .second, .val (.double (FP.l2d ce)), .second, .val (.double (FP.l2d cl)), .second, .val (.double (FP.l2d (own_max lo (ce - cl)))), .second, .val (.double (FP.l2d (own_min hi (ce + cl)))), .second, .val (.int (0 : Int32))] [(.double (FP.dsub (FP.l2d (hi - lo)) (FP.l2d (ce - ce)))), (.ref a)])) _
      have Q52 : Fld Z h45 a "com/example/adept_layout/adeptlayout/layout/SidePlaces" "length" "D" (.double 0) := ((((G_length.other W2 (Or.inr (slot_ne (Or.inr (hw _ ow35)) (Or.inr (hw _ ow21)) (by decide) (t := .double) (t' := .double) (by decide) (by decide)))).other W8 (Or.inr (slot_ne (Or.inr (hw _ ow35)) (Or.inr (hw _ ow23)) (by decide) (t := .double) (t' := .double) (by decide) (by decide)))).other W39 (Or.inr (slot_ne (Or.inr (hw _ ow35)) (Or.inr (hw _ ow31)) (by decide) (t := .double) (t' := .double) (by decide) (by decide)))).other W45 (Or.inr (slot_ne (Or.inr (hw _ ow35)) (Or.inr (hw _ ow33)) (by decide) (t := .double) (t' := .double) (by decide) (by decide))))
      have Q53 : Exa Z h45 a "com/example/adept_layout/adeptlayout/layout/SidePlaces" := (Q44.wr W45)
      obtain ⟨T54, h54, X54, e54, W54, st54⟩ := putF X51 hx hZ hown (host := "") (Or.inl (hw _ ow34)) Via.refl e51 Q52 Q53 (Or.inr ⟨(hw _ ow35), rfl, hnm⟩) (hw _ ow12) (ty := .double) (by decide) rfl rfl (g := (mkF m 112 #[.val (.ref a), .val (.double (FP.l2d lo)), .second, .val (.double (FP.l2d hi)), .second, .val (.double (FP.l2d ce)), .second, .val (.double (FP.l2d cl)), .second, .val (.double (FP.l2d (own_max lo (ce - cl)))), .second, .val (.double (FP.l2d (own_min hi (ce + cl)))), .second, .val (.int (0 : Int32))] [(.double (FP.dsub (FP.l2d (hi - lo)) (FP.l2d (ce - ce)))), (.ref a)])) rfl rfl (hb hby own_ct_d112)
      have N55 := Fr.snoc X54 N46 g
      have KP56 : Keep h0 h54 [a] := KP47.wr W54 (Or.inl (List.mem_of_getElem? (i := 0) rfl))
      have F57 : Fld Z h54 a "com/example/adept_layout/adeptlayout/layout/SidePlaces" "length" "D" (.double (FP.dsub (FP.l2d (hi - lo)) (FP.l2d (ce - ce)))) := Q52.same W54
      refine ownStep st54 ?_
      show ownGo p.tables e below (T54.setTop (mkF m 115 #[.val (.ref a), .val (.double (FP.l2d lo)), .second, .val (.double (FP.l2d hi)), .second, .val (.double (FP.l2d ce)), .second, .val (.double (FP.l2d cl)), .second, .val (.double (FP.l2d (own_max lo (ce - cl)))), .second, .val (.double (FP.l2d (own_min hi (ce + cl)))), .second, .val (.int (0 : Int32))] [])) _
      have Q58 : Fld Z h54 a "com/example/adept_layout/adeptlayout/layout/SidePlaces" "clearFrom" "D" (.double (FP.l2d ce)) := (Q50.other W54 (Or.inr (slot_ne (Or.inr (hw _ ow31)) (Or.inr (hw _ ow35)) (by decide) (t := .double) (t' := .double) (by decide) (by decide))))
      have Q59 : Fld Z h54 a "com/example/adept_layout/adeptlayout/layout/SidePlaces" "clearTo" "D" (.double (FP.l2d ce)) := (F48.other W54 (Or.inr (slot_ne (Or.inr (hw _ ow33)) (Or.inr (hw _ ow35)) (by decide) (t := .double) (t' := .double) (by decide) (by decide))))
      exact ownRet X54 (v := none) Bd.notSynchronized (fun _ => rfl) (fun _ hr => X54.returnOut hx Bd.returns (hb hby own_ct_d115) hr) (by rw [e54]; exact ⟨ce, ce, rfl, N55, KP56, Q58, Q59, (by first | exact own_K3 hc40 | exact own_K2 sb1 sb2 sb3 sb4 hc56)⟩) (by decide) (by decide)
  · skip
    refine ownStep (fun _ k => XS.ifYes X13.here hx rfl (pc0 := 40) (pc' := 63) rfl (hb hby own_ct_d40) rfl ((if0 _ _).trans (flt (hc40 : ¬ (0 : Int32) < (lcmpW cl (0 : Int64)))).2.2.2) (by decide) (by decide) k) ?_
    refine ownStep (fun _ k => XS.iconst X13.here hx rfl (hb hby own_ct_d63) k) ?_
    refine ownStep (fun _ k => XS.istore X13.here hx rfl (hb hby own_ct_d64) rfl (l' := #[.val (.ref a), .val (.double (FP.l2d lo)), .second, .val (.double (FP.l2d hi)), .second, .val (.double (FP.l2d ce)), .second, .val (.double (FP.l2d cl)), .second, .val (.double (FP.l2d (own_max lo (ce - cl)))), .second, .val (.double (FP.l2d (own_min hi (ce + cl)))), .second, .val (.int (0 : Int32))]) rfl k) ?_
    refine ownStep (fun _ k => XS.aloadN X13.here hx rfl (hb hby own_ct_d66) rfl rfl k) ?_
    refine ownStep (fun _ k => XS.iload X13.here hx rfl (hb hby own_ct_d67) rfl  k) ?_
    show ownGo p.tables e below (T13.setTop (mkF m 69 #[.val (.ref a), .val (.double (FP.l2d lo)), .second, .val (.double (FP.l2d hi)), .second, .val (.double (FP.l2d ce)), .second, .val (.double (FP.l2d cl)), .second, .val (.double (FP.l2d (own_max lo (ce - cl)))), .second, .val (.double (FP.l2d (own_min hi (ce + cl)))), .second, .val (.int (0 : Int32))] [(.int (0 : Int32)), (.ref a)])) _
    refine ownStep (fun _ k => XS.ifYes X13.here hx rfl (pc0 := 69) (pc' := 77) rfl (hb hby own_ct_d69) rfl ((if0 _ _).trans (teq (by decide : (0 : Int32) = (0 : Int32))).1) (by decide) (by decide) k) ?_
    refine ownStep (fun _ k => XS.dload X13.here hx rfl (hb hby own_ct_d77) rfl k) ?_
    show ownGo p.tables e below (T13.setTop (mkF m 79 #[.val (.ref a), .val (.double (FP.l2d lo)), .second, .val (.double (FP.l2d hi)), .second, .val (.double (FP.l2d ce)), .second, .val (.double (FP.l2d cl)), .second, .val (.double (FP.l2d (own_max lo (ce - cl)))), .second, .val (.double (FP.l2d (own_min hi (ce + cl)))), .second, .val (.int (0 : Int32))] [(.double (FP.l2d ce)), (.ref a)])) _
    have Q60 : Fld Z h8 a "com/example/adept_layout/adeptlayout/layout/SidePlaces" "clearFrom" "D" (.double 0) := ((G_clearFrom.other W2 (Or.inr (slot_ne (Or.inr (hw _ ow31)) (Or.inr (hw _ ow21)) (by decide) (t := .double) (t' := .double) (by decide) (by decide)))).other W8 (Or.inr (slot_ne (Or.inr (hw _ ow31)) (Or.inr (hw _ ow23)) (by decide) (t := .double) (t' := .double) (by decide) (by decide))))
    have Q61 : Exa Z h8 a "com/example/adept_layout/adeptlayout/layout/SidePlaces" := (Q7.wr W8)
    obtain ⟨T62, h62, X62, e62, W62, st62⟩ := putF X13 hx hZ hown (host := "") (Or.inl (hw _ ow30)) Via.refl e13 Q60 Q61 (Or.inr ⟨(hw _ ow31), rfl, hnm⟩) (hw _ ow12) (ty := .double) (by decide) rfl rfl (g := (mkF m 79 #[.val (.ref a), .val (.double (FP.l2d lo)), .second, .val (.double (FP.l2d hi)), .second, .val (.double (FP.l2d ce)), .second, .val (.double (FP.l2d cl)), .second, .val (.double (FP.l2d (own_max lo (ce - cl)))), .second, .val (.double (FP.l2d (own_min hi (ce + cl)))), .second, .val (.int (0 : Int32))] [(.double (FP.l2d ce)), (.ref a)])) rfl rfl (hb hby own_ct_d79)
    have N63 := Fr.snoc X62 N9 g
    have KP64 : Keep h0 h62 [a] := KP10.wr W62 (Or.inl (List.mem_of_getElem? (i := 0) rfl))
    have F65 : Fld Z h62 a "com/example/adept_layout/adeptlayout/layout/SidePlaces" "clearFrom" "D" (.double (FP.l2d ce)) := Q60.same W62
    refine ownStep st62 ?_
    refine ownStep (fun _ k => XS.aloadN X62.here hx rfl (hb hby own_ct_d82) rfl rfl k) ?_
    refine ownStep (fun _ k => XS.iload X62.here hx rfl (hb hby own_ct_d83) rfl  k) ?_
    refine ownStep (fun _ k => XS.ifYes X62.here hx rfl (pc0 := 85) (pc' := 93) rfl (hb hby own_ct_d85) rfl ((if0 _ _).trans (teq (by decide : (0 : Int32) = (0 : Int32))).1) (by decide) (by decide) k) ?_
    refine ownStep (fun _ k => XS.dload X62.here hx rfl (hb hby own_ct_d93) rfl k) ?_
    show ownGo p.tables e below (T62.setTop (mkF m 95 #[.val (.ref a), .val (.double (FP.l2d lo)), .second, .val (.double (FP.l2d hi)), .second, .val (.double (FP.l2d ce)), .second, .val (.double (FP.l2d cl)), .second, .val (.double (FP.l2d (own_max lo (ce - cl)))), .second, .val (.double (FP.l2d (own_min hi (ce + cl)))), .second, .val (.int (0 : Int32))] [(.double (FP.l2d ce)), (.ref a)])) _
    have Q66 : Fld Z h62 a "com/example/adept_layout/adeptlayout/layout/SidePlaces" "clearTo" "D" (.double 0) := (((G_clearTo.other W2 (Or.inr (slot_ne (Or.inr (hw _ ow33)) (Or.inr (hw _ ow21)) (by decide) (t := .double) (t' := .double) (by decide) (by decide)))).other W8 (Or.inr (slot_ne (Or.inr (hw _ ow33)) (Or.inr (hw _ ow23)) (by decide) (t := .double) (t' := .double) (by decide) (by decide)))).other W62 (Or.inr (slot_ne (Or.inr (hw _ ow33)) (Or.inr (hw _ ow31)) (by decide) (t := .double) (t' := .double) (by decide) (by decide))))
    have Q67 : Exa Z h62 a "com/example/adept_layout/adeptlayout/layout/SidePlaces" := (Q61.wr W62)
    obtain ⟨T68, h68, X68, e68, W68, st68⟩ := putF X62 hx hZ hown (host := "") (Or.inl (hw _ ow32)) Via.refl e62 Q66 Q67 (Or.inr ⟨(hw _ ow33), rfl, hnm⟩) (hw _ ow12) (ty := .double) (by decide) rfl rfl (g := (mkF m 95 #[.val (.ref a), .val (.double (FP.l2d lo)), .second, .val (.double (FP.l2d hi)), .second, .val (.double (FP.l2d ce)), .second, .val (.double (FP.l2d cl)), .second, .val (.double (FP.l2d (own_max lo (ce - cl)))), .second, .val (.double (FP.l2d (own_min hi (ce + cl)))), .second, .val (.int (0 : Int32))] [(.double (FP.l2d ce)), (.ref a)])) rfl rfl (hb hby own_ct_d95)
    have N69 := Fr.snoc X68 N63 g
    have KP70 : Keep h0 h68 [a] := KP64.wr W68 (Or.inl (List.mem_of_getElem? (i := 0) rfl))
    have F71 : Fld Z h68 a "com/example/adept_layout/adeptlayout/layout/SidePlaces" "clearTo" "D" (.double (FP.l2d ce)) := Q66.same W68
    refine ownStep st68 ?_
    refine ownStep (fun _ k => XS.aloadN X68.here hx rfl (hb hby own_ct_d98) rfl rfl k) ?_
    refine ownStep (fun _ k => XS.dloadN X68.here hx rfl (hb hby own_ct_d99) rfl k) ?_
    refine ownStep (fun _ k => XS.dloadN X68.here hx rfl (hb hby own_ct_d100) rfl k) ?_
    refine ownStep (fun _ k => XS.dsubS X68.here hx rfl (hb hby own_ct_d101) rfl (dsub_out (l2d_fin _).noNaN (l2d_fin _)) (dsub_w hB.2.1 hB.1) k) ?_
    show ownGo p.tables e below (T68.setTop (mkF m 102 #[.val (.ref a), .val (.double (FP.l2d lo)), .second, .val (.double (FP.l2d hi)), .second, .val (.double (FP.l2d ce)), .second, .val (.double (FP.l2d cl)), .second, .val (.double (FP.l2d (own_max lo (ce - cl)))), .second, .val (.double (FP.l2d (own_min hi (ce + cl)))), .second, .val (.int (0 : Int32))] [(.double (FP.l2d (hi - lo))), (.ref a)])) _
    refine ownStep (fun _ k => XS.aloadN X68.here hx rfl (hb hby own_ct_d102) rfl rfl k) ?_
    show ownGo p.tables e below (T68.setTop (mkF m 103 #[.val (.ref a), .val (.double (FP.l2d lo)), .second, .val (.double (FP.l2d hi)), .second, .val (.double (FP.l2d ce)), .second, .val (.double (FP.l2d cl)), .second, .val (.double (FP.l2d (own_max lo (ce - cl)))), .second, .val (.double (FP.l2d (own_min hi (ce + cl)))), .second, .val (.int (0 : Int32))] [(.ref a), (.double (FP.l2d (hi - lo))), (.ref a)])) _
    obtain ⟨T72, X72, e72, st72⟩ := getF X68 hx hZ hown (host := "") (Or.inl (hw _ ow32)) Via.refl e68 F71 (g := (mkF m 103 #[.val (.ref a), .val (.double (FP.l2d lo)), .second, .val (.double (FP.l2d hi)), .second, .val (.double (FP.l2d ce)), .second, .val (.double (FP.l2d cl)), .second, .val (.double (FP.l2d (own_max lo (ce - cl)))), .second, .val (.double (FP.l2d (own_min hi (ce + cl)))), .second, .val (.int (0 : Int32))] [(.ref a), (.double (FP.l2d (hi - lo))), (.ref a)])) rfl rfl (hb hby own_ct_d103)
    refine ownStep st72 ?_
    refine ownStep (fun _ k => XS.aloadN X72.here hx rfl (hb hby own_ct_d106) rfl rfl k) ?_
    show ownGo p.tables e below (T72.setTop (mkF m 107 #[.val (.ref a), .val (.double (FP.l2d lo)), .second, .val (.double (FP.l2d hi)), .second, .val (.double (FP.l2d ce)), .second, .val (.double (FP.l2d cl)), .second, .val (.double (FP.l2d (own_max lo (ce - cl)))), .second, .val (.double (FP.l2d (own_min hi (ce + cl)))), .second, .val (.int (0 : Int32))] [(.ref a), (.double (FP.l2d ce)), (.double (FP.l2d (hi - lo))), (.ref a)])) _
    have Q73 : Fld Z h68 a "com/example/adept_layout/adeptlayout/layout/SidePlaces" "clearFrom" "D" (.double (FP.l2d ce)) := (F65.other W68 (Or.inr (slot_ne (Or.inr (hw _ ow31)) (Or.inr (hw _ ow33)) (by decide) (t := .double) (t' := .double) (by decide) (by decide))))
    obtain ⟨T74, X74, e74, st74⟩ := getF X72 hx hZ hown (host := "") (Or.inl (hw _ ow30)) Via.refl e72 Q73 (g := (mkF m 107 #[.val (.ref a), .val (.double (FP.l2d lo)), .second, .val (.double (FP.l2d hi)), .second, .val (.double (FP.l2d ce)), .second, .val (.double (FP.l2d cl)), .second, .val (.double (FP.l2d (own_max lo (ce - cl)))), .second, .val (.double (FP.l2d (own_min hi (ce + cl)))), .second, .val (.int (0 : Int32))] [(.ref a), (.double (FP.l2d ce)), (.double (FP.l2d (hi - lo))), (.ref a)])) rfl rfl (hb hby own_ct_d107)
    refine ownStep st74 ?_
    refine ownStep (fun _ k => XS.dsubS X74.here hx rfl (hb hby own_ct_d110) rfl (dsub_out (l2d_fin _).noNaN (l2d_fin _)) (dsub_w hB.2.2.1 hB.2.2.1) k) ?_
    refine ownStep (fun _ k => XS.dsubS X74.here hx rfl (hb hby own_ct_d111) rfl (dsub_out (l2d_fin _).noNaN (l2d_fin _)) rfl k) ?_
    show ownGo p.tables e below (T74.setTop (mkF m 112 #[.val (.ref a), .val (.double (FP.l2d lo)), .second, .val (.double (FP.l2d hi)), .second, .val (.double (FP.l2d ce)), .second, .val (.double (FP.l2d cl)), .second, .val (.double (FP.l2d (own_max lo (ce - cl)))), .second, .val (.double (FP.l2d (own_min hi (ce + cl)))), .second, .val (.int (0 : Int32))] [(.double (FP.dsub (FP.l2d (hi - lo)) (FP.l2d (ce - ce)))), (.ref a)])) _
    have Q75 : Fld Z h68 a "com/example/adept_layout/adeptlayout/layout/SidePlaces" "length" "D" (.double 0) := ((((G_length.other W2 (Or.inr (slot_ne (Or.inr (hw _ ow35)) (Or.inr (hw _ ow21)) (by decide) (t := .double) (t' := .double) (by decide) (by decide)))).other W8 (Or.inr (slot_ne (Or.inr (hw _ ow35)) (Or.inr (hw _ ow23)) (by decide) (t := .double) (t' := .double) (by decide) (by decide)))).other W62 (Or.inr (slot_ne (Or.inr (hw _ ow35)) (Or.inr (hw _ ow31)) (by decide) (t := .double) (t' := .double) (by decide) (by decide)))).other W68 (Or.inr (slot_ne (Or.inr (hw _ ow35)) (Or.inr (hw _ ow33)) (by decide) (t := .double) (t' := .double) (by decide) (by decide))))
    have Q76 : Exa Z h68 a "com/example/adept_layout/adeptlayout/layout/SidePlaces" := (Q67.wr W68)
    obtain ⟨T77, h77, X77, e77, W77, st77⟩ := putF X74 hx hZ hown (host := "") (Or.inl (hw _ ow34)) Via.refl e74 Q75 Q76 (Or.inr ⟨(hw _ ow35), rfl, hnm⟩) (hw _ ow12) (ty := .double) (by decide) rfl rfl (g := (mkF m 112 #[.val (.ref a), .val (.double (FP.l2d lo)), .second, .val (.double (FP.l2d hi)), .second, .val (.double (FP.l2d ce)), .second, .val (.double (FP.l2d cl)), .second, .val (.double (FP.l2d (own_max lo (ce - cl)))), .second, .val (.double (FP.l2d (own_min hi (ce + cl)))), .second, .val (.int (0 : Int32))] [(.double (FP.dsub (FP.l2d (hi - lo)) (FP.l2d (ce - ce)))), (.ref a)])) rfl rfl (hb hby own_ct_d112)
    have N78 := Fr.snoc X77 N69 g
    have KP79 : Keep h0 h77 [a] := KP70.wr W77 (Or.inl (List.mem_of_getElem? (i := 0) rfl))
    have F80 : Fld Z h77 a "com/example/adept_layout/adeptlayout/layout/SidePlaces" "length" "D" (.double (FP.dsub (FP.l2d (hi - lo)) (FP.l2d (ce - ce)))) := Q75.same W77
    refine ownStep st77 ?_
    show ownGo p.tables e below (T77.setTop (mkF m 115 #[.val (.ref a), .val (.double (FP.l2d lo)), .second, .val (.double (FP.l2d hi)), .second, .val (.double (FP.l2d ce)), .second, .val (.double (FP.l2d cl)), .second, .val (.double (FP.l2d (own_max lo (ce - cl)))), .second, .val (.double (FP.l2d (own_min hi (ce + cl)))), .second, .val (.int (0 : Int32))] [])) _
    have Q81 : Fld Z h77 a "com/example/adept_layout/adeptlayout/layout/SidePlaces" "clearFrom" "D" (.double (FP.l2d ce)) := (Q73.other W77 (Or.inr (slot_ne (Or.inr (hw _ ow31)) (Or.inr (hw _ ow35)) (by decide) (t := .double) (t' := .double) (by decide) (by decide))))
    have Q82 : Fld Z h77 a "com/example/adept_layout/adeptlayout/layout/SidePlaces" "clearTo" "D" (.double (FP.l2d ce)) := (F71.other W77 (Or.inr (slot_ne (Or.inr (hw _ ow33)) (Or.inr (hw _ ow35)) (by decide) (t := .double) (t' := .double) (by decide) (by decide))))
    exact ownRet X77 (v := none) Bd.notSynchronized (fun _ => rfl) (fun _ hr => X77.returnOut hx Bd.returns (hb hby own_ct_d115) hr) (by rw [e77]; exact ⟨ce, ce, rfl, N78, KP79, Q81, Q82, (by first | exact own_K3 hc40 | exact own_K2 sb1 sb2 sb3 sb4 hc56)⟩) (by decide) (by decide)
theorem own_posW_d0 : decode prog_20_method_10_code 0 = .ok (.iload_n 3, 1) := by decide +kernel
theorem own_posW_d1 : decode prog_20_method_10_code 1 = .ok (.ifCond .eq 24, 3) := by decide +kernel
theorem own_posW_d4 : decode prog_20_method_10_code 4 = .ok (.dload_n 1, 1) := by decide +kernel
theorem own_posW_d5 : decode prog_20_method_10_code 5 = .ok (.aload_n 0, 1) := by decide +kernel
theorem own_posW_d6 : decode prog_20_method_10_code 6 = .ok (.getfield 29, 3) := by decide +kernel
theorem own_posW_d9 : decode prog_20_method_10_code 9 = .ok (.ldc2_w 27, 3) := by decide +kernel
theorem own_posW_d12 : decode prog_20_method_10_code 12 = .ok (.dsub, 1) := by decide +kernel
theorem own_posW_d13 : decode prog_20_method_10_code 13 = .ok (.dcmp .l, 1) := by decide +kernel
theorem own_posW_d14 : decode prog_20_method_10_code 14 = .ok (.ifCond .lt 7, 3) := by decide +kernel
theorem own_posW_d17 : decode prog_20_method_10_code 17 = .ok (.iconst 1, 1) := by decide +kernel
theorem own_posW_d18 : decode prog_20_method_10_code 18 = .ok (.goto 25, 3) := by decide +kernel
theorem own_posW_d21 : decode prog_20_method_10_code 21 = .ok (.iconst 0, 1) := by decide +kernel
theorem own_posW_d22 : decode prog_20_method_10_code 22 = .ok (.goto 21, 3) := by decide +kernel
theorem own_posW_d25 : decode prog_20_method_10_code 25 = .ok (.dload_n 1, 1) := by decide +kernel
theorem own_posW_d26 : decode prog_20_method_10_code 26 = .ok (.aload_n 0, 1) := by decide +kernel
theorem own_posW_d27 : decode prog_20_method_10_code 27 = .ok (.getfield 29, 3) := by decide +kernel
theorem own_posW_d30 : decode prog_20_method_10_code 30 = .ok (.ldc2_w 27, 3) := by decide +kernel
theorem own_posW_d33 : decode prog_20_method_10_code 33 = .ok (.dadd, 1) := by decide +kernel
theorem own_posW_d34 : decode prog_20_method_10_code 34 = .ok (.dcmp .l, 1) := by decide +kernel
theorem own_posW_d35 : decode prog_20_method_10_code 35 = .ok (.ifCond .le 7, 3) := by decide +kernel
theorem own_posW_d38 : decode prog_20_method_10_code 38 = .ok (.iconst 1, 1) := by decide +kernel
theorem own_posW_d39 : decode prog_20_method_10_code 39 = .ok (.goto 4, 3) := by decide +kernel
theorem own_posW_d42 : decode prog_20_method_10_code 42 = .ok (.iconst 0, 1) := by decide +kernel
theorem own_posW_d43 : decode prog_20_method_10_code 43 = .ok (.istore 4, 2) := by decide +kernel
theorem own_posW_d45 : decode prog_20_method_10_code 45 = .ok (.iload 4, 2) := by decide +kernel
theorem own_posW_d47 : decode prog_20_method_10_code 47 = .ok (.ifCond .eq 17, 3) := by decide +kernel
theorem own_posW_d50 : decode prog_20_method_10_code 50 = .ok (.dload_n 1, 1) := by decide +kernel
theorem own_posW_d51 : decode prog_20_method_10_code 51 = .ok (.aload_n 0, 1) := by decide +kernel
theorem own_posW_d52 : decode prog_20_method_10_code 52 = .ok (.getfield 32, 3) := by decide +kernel
theorem own_posW_d55 : decode prog_20_method_10_code 55 = .ok (.aload_n 0, 1) := by decide +kernel
theorem own_posW_d56 : decode prog_20_method_10_code 56 = .ok (.getfield 29, 3) := by decide +kernel
theorem own_posW_d59 : decode prog_20_method_10_code 59 = .ok (.dsub, 1) := by decide +kernel
theorem own_posW_d60 : decode prog_20_method_10_code 60 = .ok (.dadd, 1) := by decide +kernel
theorem own_posW_d61 : decode prog_20_method_10_code 61 = .ok (.goto 4, 3) := by decide +kernel
theorem own_posW_d64 : decode prog_20_method_10_code 64 = .ok (.dload_n 1, 1) := by decide +kernel
theorem own_posW_d65 : decode prog_20_method_10_code 65 = .ok (.dreturn, 1) := by decide +kernel
theorem own_posW_pn : plainName "com/example/adept_layout/adeptlayout/layout/SidePlaces" = true := by first | (simp [plainName, overriddenIn]; done) | decide +kernel
theorem own_posW_ef (m : MethodId) (x0 : Addr) (x1 : UInt64) (x2 : Int32) : entryFrame m #[(.ref x0), (.double x1), (.int x2)] 5 = mkF m 0 #[.val (.ref x0), .val (.double x1), .second, .val (.int x2), .unset] [] := by first | (simp [entryFrame, mkF, argsToLocals, Value.category]; done) | rfl
def own_posW_Q (Z : State) (a : Addr) (x : UInt64) (f : Int64) (t : Int64) (far : Int32) (h0 : Heap) (n0 : Nat) (vv_ : Option Value) (hh_ : Heap) (LL_ : List Loc) : Prop := vv_ = some (.double (own_pos x f t far)) ∧ Fr n0 LL_ ∧ hh_ = h0
set_option maxRecDepth 65536 in
set_option maxHeartbeats 40000000 in
theorem own_posW (l : Launch) (Z : State) (a0 : Array Value) (hw : ∀ d ∈ tables_1, d.before a0 Z = true) (ws : List Jvm.Cond) (a : Addr) (x : UInt64) (f : Int64) (t : Int64) (far : Int32) (h0 : Heap) (n0 : Nat) (Z0 : n0 ≤ h0.size) (fx : Fin64 x) (pA : Fld Z h0 a "com/example/adept_layout/adeptlayout/layout/SidePlaces" "clearFrom" "D" (.double (FP.l2d f))) (pB : Fld Z h0 a "com/example/adept_layout/adeptlayout/layout/SidePlaces" "clearTo" "D" (.double (FP.l2d t))) :
    MetFree l (⟨"com/example/adept_layout/adeptlayout/layout/SidePlaces", "position", "(DZ)D"⟩ : MethodName) (head1 (Jvm.Cond.code (⟨"com/example/adept_layout/adeptlayout/layout/SidePlaces", "position", "(DZ)D"⟩ : MethodName) prog_20_method_10_code 5 (some .double) :: ws) ({ frames := 0, cells := 0, slots := 0, locals := 0 } : Room)) (fun aa_ UU_ => aa_ = #[(.ref a), (.double x), (.int far)] ∧ Z.Warmed39 UU_.vm ∧ UU_.heap = h0) (fun _ _ _ _ _ => True) (fun _ UU_ oo_ UV_ => ∃ vv_ LL_, oo_ = .returned vv_ ∧ own_posW_Q Z a x f t far h0 n0 vv_ UV_.heap LL_ ∧ FrameEnd UU_ oo_ UV_ LL_ ({ frames := 0, cells := 0, slots := 0, locals := 0 } : Room).cells ({ frames := 0, cells := 0, slots := 0, locals := 0 } : Room).slots) := by
  refine MetFree.of_bodySF (plainFor_of_name own_posW_pn) hisR ?_
  intro p e s m args below meth c s₁ Bd hml0 hP hK
  obtain ⟨rfl, hZ, hh⟩ := hP
  have hx := Bd.exec
  have hby := Bd.bytes
  have hml : c.maxLocals = 5 := hml0
  have hown : s.vm.findClass "com/example/adept_layout/adeptlayout/layout/SidePlaces" = some m.cls := findClass_of_methodNamed Bd.named
  have hnm := (name_of_methodNamed Bd.named Bd.method).1
  have X0 : Stand p l e ({ frames := 0, cells := 0, slots := 0, locals := 0 } : Room) s m #[(.ref a), (.double x), (.int far)] below meth c s₁ [] 0 0 := Stand.of_body Bd
  have e0 : s₁.heap = h0 := by rw [← hh, Bd.state]; rfl
  have N0 := Fr.nil n0
  have KP0 : Keep h0 h0 [] := Keep.refl _ _
  refine ownFin (Q := own_posW_Q Z a x f t far h0 n0) ?_
  refine ownStep (fun _ k => castTop (own_posW_ef m a x far) k) ?_
  show ownGo p.tables e below (s₁.setTop (mkF m 0 #[.val (.ref a), .val (.double x), .second, .val (.int far), .unset] [])) _
  refine ownStep (fun _ k => XS.iloadN X0.here hx rfl (hb hby own_posW_d0) rfl  k) ?_
  show ownGo p.tables e below (s₁.setTop (mkF m 1 #[.val (.ref a), .val (.double x), .second, .val (.int far), .unset] [(.int far)])) _
  by_cases hc1 : far = (0 : Int32)
  · skip
    refine ownStep (fun _ k => XS.ifYes X0.here hx rfl (pc0 := 1) (pc' := 25) rfl (hb hby own_posW_d1) rfl ((if0 _ _).trans (teq (hc1 : far = (0 : Int32))).1) (by decide) (by decide) k) ?_
    refine ownStep (fun _ k => XS.dloadN X0.here hx rfl (hb hby own_posW_d25) rfl k) ?_
    refine ownStep (fun _ k => XS.aloadN X0.here hx rfl (hb hby own_posW_d26) rfl rfl k) ?_
    show ownGo p.tables e below (s₁.setTop (mkF m 27 #[.val (.ref a), .val (.double x), .second, .val (.int far), .unset] [(.ref a), (.double x)])) _
    obtain ⟨T1, X1, e1, st1⟩ := getF X0 hx hZ hown (host := "") (Or.inl (hw _ ow30)) Via.refl e0 pA (g := (mkF m 27 #[.val (.ref a), .val (.double x), .second, .val (.int far), .unset] [(.ref a), (.double x)])) rfl rfl (hb hby own_posW_d27)
    refine ownStep st1 ?_
    show ownGo p.tables e below (T1.setTop (mkF m 30 #[.val (.ref a), .val (.double x), .second, .val (.int far), .unset] [(.double (FP.l2d f)), (.double x)])) _
    refine ownStep (X1.ldc2DoubleC hx hown (mvT hZ (hw _ ow41)) (g := (mkF m 30 #[.val (.ref a), .val (.double x), .second, .val (.int far), .unset] [(.double (FP.l2d f)), (.double x)])) rfl (hb hby own_posW_d30)) ?_
    refine ownStep (fun _ k => XS.daddS X1.here hx rfl (hb hby own_posW_d33) rfl (dadd_out (l2d_fin _).noNaN own_tolf) rfl k) ?_
    refine ownStep (fun _ k => XS.dcmpS X1.here hx rfl (hb hby own_posW_d34) rfl rfl k) ?_
    show ownGo p.tables e below (T1.setTop (mkF m 35 #[.val (.ref a), .val (.double x), .second, .val (.int far), .unset] [(.int (cmpValue (FP.dcmp x (FP.dadd (FP.l2d f) (4517329193108106637 : UInt64))) .l))])) _
    by_cases hc35 : (0 : Int32) < (cmpValue (FP.dcmp x (FP.dadd (FP.l2d f) (4517329193108106637 : UInt64))) .l)
    · skip
      refine ownStep (fun _ k => XS.ifNo X1.here hx rfl (hb hby own_posW_d35) rfl ((if0 _ _).trans (tlt (hc35 : (0 : Int32) < (cmpValue (FP.dcmp x (FP.dadd (FP.l2d f) (4517329193108106637 : UInt64))) .l))).2.2.2) k) ?_
      refine ownStep (fun _ k => XS.iconst X1.here hx rfl (hb hby own_posW_d38) k) ?_
      refine ownStep (fun _ k => XS.goto X1.here hx rfl (pc0 := 39) (pc' := 43) rfl (hb hby own_posW_d39) (by decide) (by decide) k) ?_
      refine ownStep (fun _ k => XS.istore X1.here hx rfl (hb hby own_posW_d43) rfl (l' := #[.val (.ref a), .val (.double x), .second, .val (.int far), .val (.int (1 : Int32))]) rfl k) ?_
      refine ownStep (fun _ k => XS.iload X1.here hx rfl (hb hby own_posW_d45) rfl  k) ?_
      show ownGo p.tables e below (T1.setTop (mkF m 47 #[.val (.ref a), .val (.double x), .second, .val (.int far), .val (.int (1 : Int32))] [(.int (1 : Int32))])) _
      refine ownStep (fun _ k => XS.ifNo X1.here hx rfl (hb hby own_posW_d47) rfl ((if0 _ _).trans (feq (by decide : ¬ (1 : Int32) = (0 : Int32))).1) k) ?_
      refine ownStep (fun _ k => XS.dloadN X1.here hx rfl (hb hby own_posW_d50) rfl k) ?_
      refine ownStep (fun _ k => XS.aloadN X1.here hx rfl (hb hby own_posW_d51) rfl rfl k) ?_
      show ownGo p.tables e below (T1.setTop (mkF m 52 #[.val (.ref a), .val (.double x), .second, .val (.int far), .val (.int (1 : Int32))] [(.ref a), (.double x)])) _
      obtain ⟨T2, X2, e2, st2⟩ := getF X1 hx hZ hown (host := "") (Or.inl (hw _ ow32)) Via.refl e1 pB (g := (mkF m 52 #[.val (.ref a), .val (.double x), .second, .val (.int far), .val (.int (1 : Int32))] [(.ref a), (.double x)])) rfl rfl (hb hby own_posW_d52)
      refine ownStep st2 ?_
      refine ownStep (fun _ k => XS.aloadN X2.here hx rfl (hb hby own_posW_d55) rfl rfl k) ?_
      show ownGo p.tables e below (T2.setTop (mkF m 56 #[.val (.ref a), .val (.double x), .second, .val (.int far), .val (.int (1 : Int32))] [(.ref a), (.double (FP.l2d t)), (.double x)])) _
      obtain ⟨T3, X3, e3, st3⟩ := getF X2 hx hZ hown (host := "") (Or.inl (hw _ ow30)) Via.refl e2 pA (g := (mkF m 56 #[.val (.ref a), .val (.double x), .second, .val (.int far), .val (.int (1 : Int32))] [(.ref a), (.double (FP.l2d t)), (.double x)])) rfl rfl (hb hby own_posW_d56)
      refine ownStep st3 ?_
      refine ownStep (fun _ k => XS.dsubS X3.here hx rfl (hb hby own_posW_d59) rfl (dsub_out (l2d_fin _).noNaN (l2d_fin _)) rfl k) ?_
      refine ownStep (fun _ k => XS.daddS X3.here hx rfl (hb hby own_posW_d60) rfl (dadd_out' fx (dsub_out (l2d_fin _).noNaN (l2d_fin _))) rfl k) ?_
      refine ownStep (fun _ k => XS.goto X3.here hx rfl (pc0 := 61) (pc' := 65) rfl (hb hby own_posW_d61) (by decide) (by decide) k) ?_
      show ownGo p.tables e below (T3.setTop (mkF m 65 #[.val (.ref a), .val (.double x), .second, .val (.int far), .val (.int (1 : Int32))] [(.double (FP.dadd x (FP.dsub (FP.l2d t) (FP.l2d f))))])) _
      exact ownRet X3 (v := some (.double (FP.dadd x (FP.dsub (FP.l2d t) (FP.l2d f))))) Bd.notSynchronized (fun h => by rw [Bd.returns] at h; cases h) (fun _ hr => retOut X3 hx (t := .double) Bd.returns rfl (Or.inr (Or.inr (Or.inl ⟨rfl, rfl, _, rfl⟩))) (hb hby own_posW_d65) hr) (by rw [e3]; exact ⟨(by unfold own_pos; first | rw [if_pos hc1, if_pos hc35] | rw [if_pos hc1, if_neg hc35] | rw [if_neg hc1, if_pos hc14] | rw [if_neg hc1, if_neg hc14]), N0, rfl⟩) (by decide) (by decide)
    · skip
      refine ownStep (fun _ k => XS.ifYes X1.here hx rfl (pc0 := 35) (pc' := 42) rfl (hb hby own_posW_d35) rfl ((if0 _ _).trans (flt (hc35 : ¬ (0 : Int32) < (cmpValue (FP.dcmp x (FP.dadd (FP.l2d f) (4517329193108106637 : UInt64))) .l))).2.2.2) (by decide) (by decide) k) ?_
      refine ownStep (fun _ k => XS.iconst X1.here hx rfl (hb hby own_posW_d42) k) ?_
      refine ownStep (fun _ k => XS.istore X1.here hx rfl (hb hby own_posW_d43) rfl (l' := #[.val (.ref a), .val (.double x), .second, .val (.int far), .val (.int (0 : Int32))]) rfl k) ?_
      refine ownStep (fun _ k => XS.iload X1.here hx rfl (hb hby own_posW_d45) rfl  k) ?_
      refine ownStep (fun _ k => XS.ifYes X1.here hx rfl (pc0 := 47) (pc' := 64) rfl (hb hby own_posW_d47) rfl ((if0 _ _).trans (teq (by decide : (0 : Int32) = (0 : Int32))).1) (by decide) (by decide) k) ?_
      show ownGo p.tables e below (T1.setTop (mkF m 64 #[.val (.ref a), .val (.double x), .second, .val (.int far), .val (.int (0 : Int32))] [])) _
      refine ownStep (fun _ k => XS.dloadN X1.here hx rfl (hb hby own_posW_d64) rfl k) ?_
      show ownGo p.tables e below (T1.setTop (mkF m 65 #[.val (.ref a), .val (.double x), .second, .val (.int far), .val (.int (0 : Int32))] [(.double x)])) _
      exact ownRet X1 (v := some (.double x)) Bd.notSynchronized (fun h => by rw [Bd.returns] at h; cases h) (fun _ hr => retOut X1 hx (t := .double) Bd.returns rfl (Or.inr (Or.inr (Or.inl ⟨rfl, rfl, _, rfl⟩))) (hb hby own_posW_d65) hr) (by rw [e1]; exact ⟨(by unfold own_pos; first | rw [if_pos hc1, if_pos hc35] | rw [if_pos hc1, if_neg hc35] | rw [if_neg hc1, if_pos hc14] | rw [if_neg hc1, if_neg hc14]), N0, rfl⟩) (by decide) (by decide)
  · skip
    refine ownStep (fun _ k => XS.ifNo X0.here hx rfl (hb hby own_posW_d1) rfl ((if0 _ _).trans (feq (hc1 : ¬ far = (0 : Int32))).1) k) ?_
    refine ownStep (fun _ k => XS.dloadN X0.here hx rfl (hb hby own_posW_d4) rfl k) ?_
    refine ownStep (fun _ k => XS.aloadN X0.here hx rfl (hb hby own_posW_d5) rfl rfl k) ?_
    show ownGo p.tables e below (s₁.setTop (mkF m 6 #[.val (.ref a), .val (.double x), .second, .val (.int far), .unset] [(.ref a), (.double x)])) _
    obtain ⟨T4, X4, e4, st4⟩ := getF X0 hx hZ hown (host := "") (Or.inl (hw _ ow30)) Via.refl e0 pA (g := (mkF m 6 #[.val (.ref a), .val (.double x), .second, .val (.int far), .unset] [(.ref a), (.double x)])) rfl rfl (hb hby own_posW_d6)
    refine ownStep st4 ?_
    show ownGo p.tables e below (T4.setTop (mkF m 9 #[.val (.ref a), .val (.double x), .second, .val (.int far), .unset] [(.double (FP.l2d f)), (.double x)])) _
    refine ownStep (X4.ldc2DoubleC hx hown (mvT hZ (hw _ ow41)) (g := (mkF m 9 #[.val (.ref a), .val (.double x), .second, .val (.int far), .unset] [(.double (FP.l2d f)), (.double x)])) rfl (hb hby own_posW_d9)) ?_
    refine ownStep (fun _ k => XS.dsubS X4.here hx rfl (hb hby own_posW_d12) rfl (dsub_out (l2d_fin _).noNaN own_tolf) rfl k) ?_
    refine ownStep (fun _ k => XS.dcmpS X4.here hx rfl (hb hby own_posW_d13) rfl rfl k) ?_
    show ownGo p.tables e below (T4.setTop (mkF m 14 #[.val (.ref a), .val (.double x), .second, .val (.int far), .unset] [(.int (cmpValue (FP.dcmp x (FP.dsub (FP.l2d f) (4517329193108106637 : UInt64))) .l))])) _
    by_cases hc14 : (cmpValue (FP.dcmp x (FP.dsub (FP.l2d f) (4517329193108106637 : UInt64))) .l) < (0 : Int32)
    · skip
      refine ownStep (fun _ k => XS.ifYes X4.here hx rfl (pc0 := 14) (pc' := 21) rfl (hb hby own_posW_d14) rfl ((if0 _ _).trans (tlt (hc14 : (cmpValue (FP.dcmp x (FP.dsub (FP.l2d f) (4517329193108106637 : UInt64))) .l) < (0 : Int32))).1) (by decide) (by decide) k) ?_
      refine ownStep (fun _ k => XS.iconst X4.here hx rfl (hb hby own_posW_d21) k) ?_
      refine ownStep (fun _ k => XS.goto X4.here hx rfl (pc0 := 22) (pc' := 43) rfl (hb hby own_posW_d22) (by decide) (by decide) k) ?_
      refine ownStep (fun _ k => XS.istore X4.here hx rfl (hb hby own_posW_d43) rfl (l' := #[.val (.ref a), .val (.double x), .second, .val (.int far), .val (.int (0 : Int32))]) rfl k) ?_
      refine ownStep (fun _ k => XS.iload X4.here hx rfl (hb hby own_posW_d45) rfl  k) ?_
      show ownGo p.tables e below (T4.setTop (mkF m 47 #[.val (.ref a), .val (.double x), .second, .val (.int far), .val (.int (0 : Int32))] [(.int (0 : Int32))])) _
      refine ownStep (fun _ k => XS.ifYes X4.here hx rfl (pc0 := 47) (pc' := 64) rfl (hb hby own_posW_d47) rfl ((if0 _ _).trans (teq (by decide : (0 : Int32) = (0 : Int32))).1) (by decide) (by decide) k) ?_
      refine ownStep (fun _ k => XS.dloadN X4.here hx rfl (hb hby own_posW_d64) rfl k) ?_
      show ownGo p.tables e below (T4.setTop (mkF m 65 #[.val (.ref a), .val (.double x), .second, .val (.int far), .val (.int (0 : Int32))] [(.double x)])) _
      exact ownRet X4 (v := some (.double x)) Bd.notSynchronized (fun h => by rw [Bd.returns] at h; cases h) (fun _ hr => retOut X4 hx (t := .double) Bd.returns rfl (Or.inr (Or.inr (Or.inl ⟨rfl, rfl, _, rfl⟩))) (hb hby own_posW_d65) hr) (by rw [e4]; exact ⟨(by unfold own_pos; first | rw [if_pos hc1, if_pos hc35] | rw [if_pos hc1, if_neg hc35] | rw [if_neg hc1, if_pos hc14] | rw [if_neg hc1, if_neg hc14]), N0, rfl⟩) (by decide) (by decide)
    · skip
      refine ownStep (fun _ k => XS.ifNo X4.here hx rfl (hb hby own_posW_d14) rfl ((if0 _ _).trans (flt (hc14 : ¬ (cmpValue (FP.dcmp x (FP.dsub (FP.l2d f) (4517329193108106637 : UInt64))) .l) < (0 : Int32))).1) k) ?_
      refine ownStep (fun _ k => XS.iconst X4.here hx rfl (hb hby own_posW_d17) k) ?_
      refine ownStep (fun _ k => XS.goto X4.here hx rfl (pc0 := 18) (pc' := 43) rfl (hb hby own_posW_d18) (by decide) (by decide) k) ?_
      refine ownStep (fun _ k => XS.istore X4.here hx rfl (hb hby own_posW_d43) rfl (l' := #[.val (.ref a), .val (.double x), .second, .val (.int far), .val (.int (1 : Int32))]) rfl k) ?_
      refine ownStep (fun _ k => XS.iload X4.here hx rfl (hb hby own_posW_d45) rfl  k) ?_
      show ownGo p.tables e below (T4.setTop (mkF m 47 #[.val (.ref a), .val (.double x), .second, .val (.int far), .val (.int (1 : Int32))] [(.int (1 : Int32))])) _
      refine ownStep (fun _ k => XS.ifNo X4.here hx rfl (hb hby own_posW_d47) rfl ((if0 _ _).trans (feq (by decide : ¬ (1 : Int32) = (0 : Int32))).1) k) ?_
      refine ownStep (fun _ k => XS.dloadN X4.here hx rfl (hb hby own_posW_d50) rfl k) ?_
      refine ownStep (fun _ k => XS.aloadN X4.here hx rfl (hb hby own_posW_d51) rfl rfl k) ?_
      show ownGo p.tables e below (T4.setTop (mkF m 52 #[.val (.ref a), .val (.double x), .second, .val (.int far), .val (.int (1 : Int32))] [(.ref a), (.double x)])) _
      obtain ⟨T5, X5, e5, st5⟩ := getF X4 hx hZ hown (host := "") (Or.inl (hw _ ow32)) Via.refl e4 pB (g := (mkF m 52 #[.val (.ref a), .val (.double x), .second, .val (.int far), .val (.int (1 : Int32))] [(.ref a), (.double x)])) rfl rfl (hb hby own_posW_d52)
      refine ownStep st5 ?_
      refine ownStep (fun _ k => XS.aloadN X5.here hx rfl (hb hby own_posW_d55) rfl rfl k) ?_
      show ownGo p.tables e below (T5.setTop (mkF m 56 #[.val (.ref a), .val (.double x), .second, .val (.int far), .val (.int (1 : Int32))] [(.ref a), (.double (FP.l2d t)), (.double x)])) _
      obtain ⟨T6, X6, e6, st6⟩ := getF X5 hx hZ hown (host := "") (Or.inl (hw _ ow30)) Via.refl e5 pA (g := (mkF m 56 #[.val (.ref a), .val (.double x), .second, .val (.int far), .val (.int (1 : Int32))] [(.ref a), (.double (FP.l2d t)), (.double x)])) rfl rfl (hb hby own_posW_d56)
      refine ownStep st6 ?_
      refine ownStep (fun _ k => XS.dsubS X6.here hx rfl (hb hby own_posW_d59) rfl (dsub_out (l2d_fin _).noNaN (l2d_fin _)) rfl k) ?_
      refine ownStep (fun _ k => XS.daddS X6.here hx rfl (hb hby own_posW_d60) rfl (dadd_out' fx (dsub_out (l2d_fin _).noNaN (l2d_fin _))) rfl k) ?_
      refine ownStep (fun _ k => XS.goto X6.here hx rfl (pc0 := 61) (pc' := 65) rfl (hb hby own_posW_d61) (by decide) (by decide) k) ?_
      show ownGo p.tables e below (T6.setTop (mkF m 65 #[.val (.ref a), .val (.double x), .second, .val (.int far), .val (.int (1 : Int32))] [(.double (FP.dadd x (FP.dsub (FP.l2d t) (FP.l2d f))))])) _
      exact ownRet X6 (v := some (.double (FP.dadd x (FP.dsub (FP.l2d t) (FP.l2d f))))) Bd.notSynchronized (fun h => by rw [Bd.returns] at h; cases h) (fun _ hr => retOut X6 hx (t := .double) Bd.returns rfl (Or.inr (Or.inr (Or.inl ⟨rfl, rfl, _, rfl⟩))) (hb hby own_posW_d65) hr) (by rw [e6]; exact ⟨(by unfold own_pos; first | rw [if_pos hc1, if_pos hc35] | rw [if_pos hc1, if_neg hc35] | rw [if_neg hc1, if_pos hc14] | rw [if_neg hc1, if_neg hc14]), N0, rfl⟩) (by decide) (by decide)
theorem own_law_pn : plainName "com/example/adept_layout/adeptlayout/layout/SidePlacesPositionPinLaw" = true := by first | (simp [plainName, overriddenIn]; done) | decide +kernel
theorem own_law_pd0 : parseMethodDescriptor "(II)I" = some ⟨[.int, .int], some .int⟩ := by decide +kernel
theorem own_law_pd1 : parseMethodDescriptor "(DDDD)V" = some ⟨[.double, .double, .double, .double], none⟩ := by decide +kernel
theorem own_law_pd2 : parseMethodDescriptor "(DZ)D" = some ⟨[.double, .boolean], some .double⟩ := by decide +kernel
theorem own_law_ef (m : MethodId) (x0 : Int32) (x1 : Int32) (x2 : Int32) (x3 : Int32) (x4 : Int32) (x5 : Int32) : entryFrame m #[(.int x0), (.int x1), (.int x2), (.int x3), (.int x4), (.int x5)] maxLocals = mkF m 0 #[.val (.int x0), .val (.int x1), .val (.int x2), .val (.int x3), .val (.int x4), .val (.int x5), .unset, .unset, .unset, .unset, .unset, .unset, .unset, .unset, .unset, .unset, .unset, .unset, .unset, .unset, .unset, .unset, .unset, .unset, .unset, .unset, .unset, .unset, .unset, .unset, .unset] [] := by first | (simp [entryFrame, mkF, argsToLocals, Value.category, maxLocals]; done) | rfl
def own_law_Q (Z : State) (i0 : Int32) (i1 : Int32) (i2 : Int32) (i3 : Int32) (i4 : Int32) (i5 : Int32) (h0 : Heap) (n0 : Nat) (vv_ : Option Value) (hh_ : Heap) (LL_ : List Loc) : Prop := vv_ = some (.int (1 : Int32)) ∧ Fr n0 LL_ ∧ Ext h0 hh_
set_option maxRecDepth 65536 in
set_option maxHeartbeats 40000000 in
theorem own_law (l : Launch) (Z : State) (a0 : Array Value) (hw : ∀ d ∈ tables_1, d.before a0 Z = true) (ws : List Jvm.Cond) (i0 : Int32) (i1 : Int32) (i2 : Int32) (i3 : Int32) (i4 : Int32) (i5 : Int32) (h0 : Heap) (n0 : Nat) (Z0 : n0 ≤ h0.size) :
    MetFree l x (head1 (Jvm.Cond.code x code maxLocals ret :: ws) room_1) (fun aa_ UU_ => aa_ = #[(.int i0), (.int i1), (.int i2), (.int i3), (.int i4), (.int i5)] ∧ Z.Warmed39 UU_.vm ∧ UU_.heap = h0) (fun _ _ _ _ _ => True) (fun _ UU_ oo_ UV_ => ∃ vv_ LL_, oo_ = .returned vv_ ∧ own_law_Q Z i0 i1 i2 i3 i4 i5 h0 n0 vv_ UV_.heap LL_ ∧ FrameEnd UU_ oo_ UV_ LL_ room_1.cells room_1.slots) := by
  refine MetFree.of_bodySF (plainFor_of_name own_law_pn) hisR ?_
  intro p e s m args below meth c s₁ Bd hml0 hP hK
  obtain ⟨rfl, hZ, hh⟩ := hP
  have hx := Bd.exec
  have hby := Bd.bytes
  have hml : c.maxLocals = 31 := hml0
  have hown : s.vm.findClass "com/example/adept_layout/adeptlayout/layout/SidePlacesPositionPinLaw" = some m.cls := findClass_of_methodNamed Bd.named
  have hnm := (name_of_methodNamed Bd.named Bd.method).1
  have X0 : Stand p l e room_1 s m #[(.int i0), (.int i1), (.int i2), (.int i3), (.int i4), (.int i5)] below meth c s₁ [] 0 0 := Stand.of_body Bd
  have e0 : s₁.heap = h0 := by rw [← hh, Bd.state]; rfl
  have N0 := Fr.nil n0
  have KP0 : Keep h0 h0 [] := Keep.refl _ _
  refine ownFin (Q := own_law_Q Z i0 i1 i2 i3 i4 i5 h0 n0) ?_
  refine ownStep (fun _ k => castTop (own_law_ef m i0 i1 i2 i3 i4 i5) k) ?_
  show ownGo p.tables e below (s₁.setTop (mkF m 0 #[.val (.int i0), .val (.int i1), .val (.int i2), .val (.int i3), .val (.int i4), .val (.int i5), .unset, .unset, .unset, .unset, .unset, .unset, .unset, .unset, .unset, .unset, .unset, .unset, .unset, .unset, .unset, .unset, .unset, .unset, .unset, .unset, .unset, .unset, .unset, .unset, .unset] [])) _
  refine ownStep (fun _ k => XS.iloadN X0.here hx rfl (hb hby at_0) rfl  k) ?_
  refine ownStep (fun _ k => XS.sipush X0.here hx rfl (hb hby at_1) k) ?_
  refine ownStep (fun _ k => XS.iand X0.here hx rfl (hb hby at_4) rfl k) ?_
  refine ownStep (fun _ k => XS.sipush X0.here hx rfl (hb hby at_5) k) ?_
  refine ownStep (fun _ k => XS.isub X0.here hx rfl (hb hby at_8) rfl k) ?_
  refine ownStep (fun _ k => XS.istore X0.here hx rfl (hb hby at_9) rfl (l' := #[.val (.int i0), .val (.int i1), .val (.int i2), .val (.int i3), .val (.int i4), .val (.int i5), .val (.int ((i0 &&& (2047 : Int32)) - (1024 : Int32))), .unset, .unset, .unset, .unset, .unset, .unset, .unset, .unset, .unset, .unset, .unset, .unset, .unset, .unset, .unset, .unset, .unset, .unset, .unset, .unset, .unset, .unset, .unset, .unset]) rfl k) ?_
  show ownGo p.tables e below (s₁.setTop (mkF m 11 #[.val (.int i0), .val (.int i1), .val (.int i2), .val (.int i3), .val (.int i4), .val (.int i5), .val (.int ((i0 &&& (2047 : Int32)) - (1024 : Int32))), .unset, .unset, .unset, .unset, .unset, .unset, .unset, .unset, .unset, .unset, .unset, .unset, .unset, .unset, .unset, .unset, .unset, .unset, .unset, .unset, .unset, .unset, .unset, .unset] [])) _
  obtain ⟨lo, e_lo, bl1, bl2⟩ := own_lo i0
  rw [e_lo]
  refine ownStep (fun _ k => XS.iloadN X0.here hx rfl (hb hby at_11) rfl  k) ?_
  refine ownStep (fun _ k => XS.sipush X0.here hx rfl (hb hby at_12) k) ?_
  refine ownStep (fun _ k => XS.iand X0.here hx rfl (hb hby at_15) rfl k) ?_
  refine ownStep (fun _ k => XS.istore X0.here hx rfl (hb hby at_16) rfl (l' := #[.val (.int i0), .val (.int i1), .val (.int i2), .val (.int i3), .val (.int i4), .val (.int i5), .val (.int lo), .val (.int (i1 &&& (2047 : Int32))), .unset, .unset, .unset, .unset, .unset, .unset, .unset, .unset, .unset, .unset, .unset, .unset, .unset, .unset, .unset, .unset, .unset, .unset, .unset, .unset, .unset, .unset, .unset]) rfl k) ?_
  show ownGo p.tables e below (s₁.setTop (mkF m 18 #[.val (.int i0), .val (.int i1), .val (.int i2), .val (.int i3), .val (.int i4), .val (.int i5), .val (.int lo), .val (.int (i1 &&& (2047 : Int32))), .unset, .unset, .unset, .unset, .unset, .unset, .unset, .unset, .unset, .unset, .unset, .unset, .unset, .unset, .unset, .unset, .unset, .unset, .unset, .unset, .unset, .unset, .unset] [])) _
  obtain ⟨len, e_len, bn1, bn2⟩ := own_len i1
  rw [e_len]
  refine ownStep (fun _ k => XS.iload X0.here hx rfl (hb hby at_18) rfl  k) ?_
  refine ownStep (fun _ k => XS.iload X0.here hx rfl (hb hby at_20) rfl  k) ?_
  refine ownStep (fun _ k => XS.iadd X0.here hx rfl (hb hby at_22) rfl k) ?_
  refine ownStep (fun _ k => XS.istore X0.here hx rfl (hb hby at_23) rfl (l' := #[.val (.int i0), .val (.int i1), .val (.int i2), .val (.int i3), .val (.int i4), .val (.int i5), .val (.int lo), .val (.int len), .val (.int (lo + len)), .unset, .unset, .unset, .unset, .unset, .unset, .unset, .unset, .unset, .unset, .unset, .unset, .unset, .unset, .unset, .unset, .unset, .unset, .unset, .unset, .unset, .unset]) rfl k) ?_
  show ownGo p.tables e below (s₁.setTop (mkF m 25 #[.val (.int i0), .val (.int i1), .val (.int i2), .val (.int i3), .val (.int i4), .val (.int i5), .val (.int lo), .val (.int len), .val (.int (lo + len)), .unset, .unset, .unset, .unset, .unset, .unset, .unset, .unset, .unset, .unset, .unset, .unset, .unset, .unset, .unset, .unset, .unset, .unset, .unset, .unset, .unset, .unset] [])) _
  obtain ⟨hi, e_hi, bh⟩ := own_hi bl1 bl2 bn1 bn2
  rw [e_hi]
  refine ownStep (fun _ k => XS.iload X0.here hx rfl (hb hby at_25) rfl  k) ?_
  refine ownStep (fun _ k => XS.iloadN X0.here hx rfl (hb hby at_27) rfl  k) ?_
  show ownGo p.tables e below (s₁.setTop (mkF m 28 #[.val (.int i0), .val (.int i1), .val (.int i2), .val (.int i3), .val (.int i4), .val (.int i5), .val (.int lo), .val (.int len), .val (.int hi), .unset, .unset, .unset, .unset, .unset, .unset, .unset, .unset, .unset, .unset, .unset, .unset, .unset, .unset, .unset, .unset, .unset, .unset, .unset, .unset, .unset, .unset] [(.int i2), (.int lo)])) _
  refine ownStep (X0.ldcInt hx hown (mvT hZ (hw _ ow0)) (g := (mkF m 28 #[.val (.int i0), .val (.int i1), .val (.int i2), .val (.int i3), .val (.int i4), .val (.int i5), .val (.int lo), .val (.int len), .val (.int hi), .unset, .unset, .unset, .unset, .unset, .unset, .unset, .unset, .unset, .unset, .unset, .unset, .unset, .unset, .unset, .unset, .unset, .unset, .unset, .unset, .unset, .unset] [(.int i2), (.int lo)])) rfl (hb hby at_28)) ?_
  refine ownStep (fun _ k => XS.iand X0.here hx rfl (hb hby at_30) rfl k) ?_
  refine ownStep (fun _ k => XS.iload X0.here hx rfl (hb hby at_31) rfl  k) ?_
  refine ownStep (fun _ k => XS.iconst X0.here hx rfl (hb hby at_33) k) ?_
  refine ownStep (fun _ k => XS.iadd X0.here hx rfl (hb hby at_34) rfl k) ?_
  show ownGo p.tables e below (s₁.setTop (mkF m 35 #[.val (.int i0), .val (.int i1), .val (.int i2), .val (.int i3), .val (.int i4), .val (.int i5), .val (.int lo), .val (.int len), .val (.int hi), .unset, .unset, .unset, .unset, .unset, .unset, .unset, .unset, .unset, .unset, .unset, .unset, .unset, .unset, .unset, .unset, .unset, .unset, .unset, .unset, .unset, .unset] [(.int (len + (1 : Int32))), (.int (i2 &&& (2147483647 : Int32))), (.int lo)])) _
  refine ownStep (fun _ k => iremM X0 hx rfl (hb hby at_35) rfl (own_nz bn1 bn2) k) ?_
  refine ownStep (fun _ k => XS.iadd X0.here hx rfl (hb hby at_36) rfl k) ?_
  refine ownStep (fun _ k => XS.istore X0.here hx rfl (hb hby at_37) rfl (l' := #[.val (.int i0), .val (.int i1), .val (.int i2), .val (.int i3), .val (.int i4), .val (.int i5), .val (.int lo), .val (.int len), .val (.int hi), .val (.int (lo + ((i2 &&& (2147483647 : Int32)) % (len + (1 : Int32))))), .unset, .unset, .unset, .unset, .unset, .unset, .unset, .unset, .unset, .unset, .unset, .unset, .unset, .unset, .unset, .unset, .unset, .unset, .unset, .unset, .unset]) rfl k) ?_
  show ownGo p.tables e below (s₁.setTop (mkF m 39 #[.val (.int i0), .val (.int i1), .val (.int i2), .val (.int i3), .val (.int i4), .val (.int i5), .val (.int lo), .val (.int len), .val (.int hi), .val (.int (lo + ((i2 &&& (2147483647 : Int32)) % (len + (1 : Int32))))), .unset, .unset, .unset, .unset, .unset, .unset, .unset, .unset, .unset, .unset, .unset, .unset, .unset, .unset, .unset, .unset, .unset, .unset, .unset, .unset, .unset] [])) _
  obtain ⟨ce, e_ce, bc1, bc2⟩ := own_ce i2 bl1 bl2 bn1 bn2
  rw [e_ce]
  refine ownStep (fun _ k => XS.iloadN X0.here hx rfl (hb hby at_39) rfl  k) ?_
  refine ownStep (fun _ k => XS.sipush X0.here hx rfl (hb hby at_40) k) ?_
  refine ownStep (fun _ k => XS.iand X0.here hx rfl (hb hby at_43) rfl k) ?_
  refine ownStep (fun _ k => XS.bipush X0.here hx rfl (hb hby at_44) k) ?_
  refine ownStep (fun _ k => XS.isub X0.here hx rfl (hb hby at_46) rfl k) ?_
  refine ownStep (fun _ k => XS.istore X0.here hx rfl (hb hby at_47) rfl (l' := #[.val (.int i0), .val (.int i1), .val (.int i2), .val (.int i3), .val (.int i4), .val (.int i5), .val (.int lo), .val (.int len), .val (.int hi), .val (.int ce), .val (.int ((i3 &&& (1023 : Int32)) - (16 : Int32))), .unset, .unset, .unset, .unset, .unset, .unset, .unset, .unset, .unset, .unset, .unset, .unset, .unset, .unset, .unset, .unset, .unset, .unset, .unset, .unset]) rfl k) ?_
  show ownGo p.tables e below (s₁.setTop (mkF m 49 #[.val (.int i0), .val (.int i1), .val (.int i2), .val (.int i3), .val (.int i4), .val (.int i5), .val (.int lo), .val (.int len), .val (.int hi), .val (.int ce), .val (.int ((i3 &&& (1023 : Int32)) - (16 : Int32))), .unset, .unset, .unset, .unset, .unset, .unset, .unset, .unset, .unset, .unset, .unset, .unset, .unset, .unset, .unset, .unset, .unset, .unset, .unset, .unset] [])) _
  obtain ⟨cl, e_cl, bq1, bq2⟩ := own_cl i3
  rw [e_cl]
  refine ownStep (fun _ k => XS.iload X0.here hx rfl (hb hby at_49) rfl  k) ?_
  refine ownStep (fun _ k => XS.iload X0.here hx rfl (hb hby at_51) rfl  k) ?_
  refine ownStep (fun _ k => XS.iload X0.here hx rfl (hb hby at_53) rfl  k) ?_
  refine ownStep (fun _ k => XS.isub X0.here hx rfl (hb hby at_55) rfl k) ?_
  show ownGo p.tables e below (s₁.setTop (mkF m 56 #[.val (.int i0), .val (.int i1), .val (.int i2), .val (.int i3), .val (.int i4), .val (.int i5), .val (.int lo), .val (.int len), .val (.int hi), .val (.int ce), .val (.int cl), .unset, .unset, .unset, .unset, .unset, .unset, .unset, .unset, .unset, .unset, .unset, .unset, .unset, .unset, .unset, .unset, .unset, .unset, .unset, .unset] [(.int (ce - cl)), (.int lo)])) _
  have Zs2 : n0 ≤ h0.size := Nat.le_trans Z0 KP0.1
  obtain ⟨_, _, ⟨T1, L1, k1, n1⟩, -, X1, ⟨Lc1, hQ1, l1, y1, z1⟩, st1⟩ := Jvm.LawKit.callS X0 hx (y := (⟨"java/lang/Math", "max", "(II)I"⟩ : MethodName)) hown (mvT hZ (hw _ ow1)) (mvT hZ (hw _ ow2)) (mvT hZ (hw _ ow3)) (mvT hZ (hw _ ow4)) (by decide) (backOf (W := 0) (own_imaxW l Z a0 hw [] lo (ce - cl) h0 n0 Zs2 ) hZ (hw _ ow4) (hw _ ow3) (by decide) (by decide)) (g := (mkF m 56 #[.val (.int i0), .val (.int i1), .val (.int i2), .val (.int i3), .val (.int i4), .val (.int i5), .val (.int lo), .val (.int len), .val (.int hi), .val (.int ce), .val (.int cl), .unset, .unset, .unset, .unset, .unset, .unset, .unset, .unset, .unset, .unset, .unset, .unset, .unset, .unset, .unset, .unset, .unset, .unset, .unset, .unset] [(.int (ce - cl)), (.int lo)])) rfl (by rw [hml]; rfl) (argsL := [(.int lo), (.int (ce - cl))]) (rest := []) (lenOf own_law_pd0 rfl) rfl (by show 2 * 0 + _ ≤ _; exact Nat.le_of_eq rfl) (hb hby at_56) (fun _ _ => ⟨rfl, e0, (by decide : 0 + 0 ≤ _), (by decide : 0 + 0 ≤ _)⟩)
  dsimp only [Pt.U, Pt.locs, Pt.cells, Pt.slots] at X1 l1 y1 z1 st1 hQ1
  obtain rfl : k1 = 0 := y1
  obtain rfl : n1 = 0 := z1
  obtain ⟨rfl, N1q, R1⟩ := hQ1
  have N1 : Fr n0 L1 := l1 ▸ Fr.app N0 N1q
  refine ownStep (fun _ k => st1 _ k) ?_
  refine ownStep (fun _ k => XS.istore X1.here hx rfl (hb hby at_59) rfl (l' := #[.val (.int i0), .val (.int i1), .val (.int i2), .val (.int i3), .val (.int i4), .val (.int i5), .val (.int lo), .val (.int len), .val (.int hi), .val (.int ce), .val (.int cl), .val (.int (own_imax lo (ce - cl))), .unset, .unset, .unset, .unset, .unset, .unset, .unset, .unset, .unset, .unset, .unset, .unset, .unset, .unset, .unset, .unset, .unset, .unset, .unset]) rfl k) ?_
  refine ownStep (fun _ k => XS.iload X1.here hx rfl (hb hby at_61) rfl  k) ?_
  refine ownStep (fun _ k => XS.iload X1.here hx rfl (hb hby at_63) rfl  k) ?_
  refine ownStep (fun _ k => XS.iload X1.here hx rfl (hb hby at_65) rfl  k) ?_
  refine ownStep (fun _ k => XS.iadd X1.here hx rfl (hb hby at_67) rfl k) ?_
  show ownGo p.tables e below (T1.setTop (mkF m 68 #[.val (.int i0), .val (.int i1), .val (.int i2), .val (.int i3), .val (.int i4), .val (.int i5), .val (.int lo), .val (.int len), .val (.int hi), .val (.int ce), .val (.int cl), .val (.int (own_imax lo (ce - cl))), .unset, .unset, .unset, .unset, .unset, .unset, .unset, .unset, .unset, .unset, .unset, .unset, .unset, .unset, .unset, .unset, .unset, .unset, .unset] [(.int (ce + cl)), (.int hi)])) _
  have Zs4 : n0 ≤ h0.size := Nat.le_trans Z0 KP0.1
  obtain ⟨_, _, ⟨T3, L3, k3, n3⟩, -, X3, ⟨Lc3, hQ3, l3, y3, z3⟩, st3⟩ := Jvm.LawKit.callS X1 hx (y := (⟨"java/lang/Math", "min", "(II)I"⟩ : MethodName)) hown (mvT hZ (hw _ ow5)) (mvT hZ (hw _ ow6)) (mvT hZ (hw _ ow3)) (mvT hZ (hw _ ow7)) (by decide) (backOf (W := 0) (own_iminW l Z a0 hw [] hi (ce + cl) h0 n0 Zs4 ) hZ (hw _ ow7) (hw _ ow3) (by decide) (by decide)) (g := (mkF m 68 #[.val (.int i0), .val (.int i1), .val (.int i2), .val (.int i3), .val (.int i4), .val (.int i5), .val (.int lo), .val (.int len), .val (.int hi), .val (.int ce), .val (.int cl), .val (.int (own_imax lo (ce - cl))), .unset, .unset, .unset, .unset, .unset, .unset, .unset, .unset, .unset, .unset, .unset, .unset, .unset, .unset, .unset, .unset, .unset, .unset, .unset] [(.int (ce + cl)), (.int hi)])) rfl (by rw [hml]; rfl) (argsL := [(.int hi), (.int (ce + cl))]) (rest := []) (lenOf own_law_pd0 rfl) rfl (by show 2 * 0 + _ ≤ _; exact Nat.le_of_eq rfl) (hb hby at_68) (fun _ _ => ⟨rfl, R1, (by decide : 0 + 0 ≤ _), (by decide : 0 + 0 ≤ _)⟩)
  dsimp only [Pt.U, Pt.locs, Pt.cells, Pt.slots] at X3 l3 y3 z3 st3 hQ3
  obtain rfl : k3 = 0 := y3
  obtain rfl : n3 = 0 := z3
  obtain ⟨rfl, N3q, R3⟩ := hQ3
  have N3 : Fr n0 L3 := l3 ▸ Fr.app N1 N3q
  refine ownStep (fun _ k => st3 _ k) ?_
  refine ownStep (fun _ k => XS.istore X3.here hx rfl (hb hby at_71) rfl (l' := #[.val (.int i0), .val (.int i1), .val (.int i2), .val (.int i3), .val (.int i4), .val (.int i5), .val (.int lo), .val (.int len), .val (.int hi), .val (.int ce), .val (.int cl), .val (.int (own_imax lo (ce - cl))), .val (.int (own_imin hi (ce + cl))), .unset, .unset, .unset, .unset, .unset, .unset, .unset, .unset, .unset, .unset, .unset, .unset, .unset, .unset, .unset, .unset, .unset, .unset]) rfl k) ?_
  show ownGo p.tables e below (T3.setTop (mkF m 73 #[.val (.int i0), .val (.int i1), .val (.int i2), .val (.int i3), .val (.int i4), .val (.int i5), .val (.int lo), .val (.int len), .val (.int hi), .val (.int ce), .val (.int cl), .val (.int (own_imax lo (ce - cl))), .val (.int (own_imin hi (ce + cl))), .unset, .unset, .unset, .unset, .unset, .unset, .unset, .unset, .unset, .unset, .unset, .unset, .unset, .unset, .unset, .unset, .unset, .unset] [])) _
  have hG : own_G lo len hi ce cl := ⟨⟨bl1, bl2⟩, ⟨bn1, bn2⟩, bh, ⟨bc1, bc2⟩, ⟨bq1, bq2⟩⟩
  have J123 : ∀ (Tj : State) (Lj : List Loc) (Xj : Stand p l e room_1 s m #[(.int i0), (.int i1), (.int i2), (.int i3), (.int i4), (.int i5)] below meth c Tj Lj 0 0) (ej : Tj.heap = h0) (Nj : Fr n0 Lj) (kp : Int32) (cf : Int32) (ct : Int32) (hK : own_KC lo hi ce cl cf ct), ownGo p.tables e below (Tj.setTop (mkF m 123 #[.val (.int i0), .val (.int i1), .val (.int i2), .val (.int i3), .val (.int i4), .val (.int i5), .val (.int lo), .val (.int len), .val (.int hi), .val (.int ce), .val (.int cl), .val (.int (own_imax lo (ce - cl))), .val (.int (own_imin hi (ce + cl))), .val (.int kp), .val (.int cf), .val (.int ct), .unset, .unset, .unset, .unset, .unset, .unset, .unset, .unset, .unset, .unset, .unset, .unset, .unset, .unset, .unset] [])) (ownEnd below s (own_law_Q Z i0 i1 i2 i3 i4 i5 h0 n0) room_1.cells room_1.slots) := by
    intro Tj Lj Xj ej Nj kp cf ct hK
    show ownGo p.tables e below (Tj.setTop (mkF m 123 #[.val (.int i0), .val (.int i1), .val (.int i2), .val (.int i3), .val (.int i4), .val (.int i5), .val (.int lo), .val (.int len), .val (.int hi), .val (.int ce), .val (.int cl), .val (.int (own_imax lo (ce - cl))), .val (.int (own_imin hi (ce + cl))), .val (.int kp), .val (.int cf), .val (.int ct), .unset, .unset, .unset, .unset, .unset, .unset, .unset, .unset, .unset, .unset, .unset, .unset, .unset, .unset, .unset] [])) _
    have hKB := own_KB hG hK
    have J157 : ∀ (Tj : State) (Lj : List Loc) (Xj : Stand p l e room_1 s m #[(.int i0), (.int i1), (.int i2), (.int i3), (.int i4), (.int i5)] below meth c Tj Lj 0 0) (ej : Tj.heap = h0) (Nj : Fr n0 Lj) (de : Int32) (hd : -2048 ≤ de.toInt ∧ de.toInt ≤ 2047), ownGo p.tables e below (Tj.setTop (mkF m 157 #[.val (.int i0), .val (.int i1), .val (.int i2), .val (.int i3), .val (.int i4), .val (.int i5), .val (.int lo), .val (.int len), .val (.int hi), .val (.int ce), .val (.int cl), .val (.int (own_imax lo (ce - cl))), .val (.int (own_imin hi (ce + cl))), .val (.int kp), .val (.int cf), .val (.int ct), .val (.int de), .unset, .unset, .unset, .unset, .unset, .unset, .unset, .unset, .unset, .unset, .unset, .unset, .unset, .unset] [])) (ownEnd below s (own_law_Q Z i0 i1 i2 i3 i4 i5 h0 n0) room_1.cells room_1.slots) := by
      intro Tj Lj Xj ej Nj de hd
      refine ownStep (fun _ k => XS.iload Xj.here hx rfl (hb hby at_157) rfl  k) ?_
      refine ownStep (fun _ k => XS.bipush Xj.here hx rfl (hb hby at_159) k) ?_
      refine ownStep (fun _ k => XS.iand Xj.here hx rfl (hb hby at_161) rfl k) ?_
      refine ownStep (fun _ k => XS.iconst Xj.here hx rfl (hb hby at_162) k) ?_
      refine ownStep (fun _ k => XS.isub Xj.here hx rfl (hb hby at_163) rfl k) ?_
      refine ownStep (fun _ k => XS.istore Xj.here hx rfl (hb hby at_164) rfl (l' := #[.val (.int i0), .val (.int i1), .val (.int i2), .val (.int i3), .val (.int i4), .val (.int i5), .val (.int lo), .val (.int len), .val (.int hi), .val (.int ce), .val (.int cl), .val (.int (own_imax lo (ce - cl))), .val (.int (own_imin hi (ce + cl))), .val (.int kp), .val (.int cf), .val (.int ct), .val (.int de), .val (.int ((i4 &&& (7 : Int32)) - (4 : Int32))), .unset, .unset, .unset, .unset, .unset, .unset, .unset, .unset, .unset, .unset, .unset, .unset, .unset]) rfl k) ?_
      show ownGo p.tables e below (Tj.setTop (mkF m 166 #[.val (.int i0), .val (.int i1), .val (.int i2), .val (.int i3), .val (.int i4), .val (.int i5), .val (.int lo), .val (.int len), .val (.int hi), .val (.int ce), .val (.int cl), .val (.int (own_imax lo (ce - cl))), .val (.int (own_imin hi (ce + cl))), .val (.int kp), .val (.int cf), .val (.int ct), .val (.int de), .val (.int ((i4 &&& (7 : Int32)) - (4 : Int32))), .unset, .unset, .unset, .unset, .unset, .unset, .unset, .unset, .unset, .unset, .unset, .unset, .unset] [])) _
      obtain ⟨kk, e_kk, bk1, bk2⟩ := own_k i4
      rw [e_kk]
      refine ownStep (fun _ k => XS.iload Xj.here hx rfl (hb hby at_166) rfl  k) ?_
      refine ownStep (fun _ k => XS.iload Xj.here hx rfl (hb hby at_168) rfl  k) ?_
      refine ownStep (fun _ k => XS.iadd Xj.here hx rfl (hb hby at_170) rfl k) ?_
      refine ownStep (fun _ k => XS.istore Xj.here hx rfl (hb hby at_171) rfl (l' := #[.val (.int i0), .val (.int i1), .val (.int i2), .val (.int i3), .val (.int i4), .val (.int i5), .val (.int lo), .val (.int len), .val (.int hi), .val (.int ce), .val (.int cl), .val (.int (own_imax lo (ce - cl))), .val (.int (own_imin hi (ce + cl))), .val (.int kp), .val (.int cf), .val (.int ct), .val (.int de), .val (.int kk), .val (.int (cf + de)), .unset, .unset, .unset, .unset, .unset, .unset, .unset, .unset, .unset, .unset, .unset, .unset]) rfl k) ?_
      show ownGo p.tables e below (Tj.setTop (mkF m 173 #[.val (.int i0), .val (.int i1), .val (.int i2), .val (.int i3), .val (.int i4), .val (.int i5), .val (.int lo), .val (.int len), .val (.int hi), .val (.int ce), .val (.int cl), .val (.int (own_imax lo (ce - cl))), .val (.int (own_imin hi (ce + cl))), .val (.int kp), .val (.int cf), .val (.int ct), .val (.int de), .val (.int kk), .val (.int (cf + de)), .unset, .unset, .unset, .unset, .unset, .unset, .unset, .unset, .unset, .unset, .unset, .unset] [])) _
      obtain ⟨pp, e_pp, ep⟩ := own_p hKB.1 hd
      rw [e_pp]
      refine ownStep (fun _ k => XS.iload Xj.here hx rfl (hb hby at_173) rfl  k) ?_
      refine ownStep (fun _ k => XS.iconst Xj.here hx rfl (hb hby at_175) k) ?_
      refine ownStep (fun _ k => XS.iand Xj.here hx rfl (hb hby at_176) rfl k) ?_
      show ownGo p.tables e below (Tj.setTop (mkF m 177 #[.val (.int i0), .val (.int i1), .val (.int i2), .val (.int i3), .val (.int i4), .val (.int i5), .val (.int lo), .val (.int len), .val (.int hi), .val (.int ce), .val (.int cl), .val (.int (own_imax lo (ce - cl))), .val (.int (own_imin hi (ce + cl))), .val (.int kp), .val (.int cf), .val (.int ct), .val (.int de), .val (.int kk), .val (.int pp), .unset, .unset, .unset, .unset, .unset, .unset, .unset, .unset, .unset, .unset, .unset, .unset] [(.int (i5 &&& (1 : Int32)))])) _
      by_cases hc177 : (i5 &&& (1 : Int32)) = (0 : Int32)
      · skip
        refine ownStep (fun _ k => XS.ifYes Xj.here hx rfl (pc0 := 177) (pc' := 184) rfl (hb hby at_177) rfl ((if0 _ _).trans (teq (hc177 : (i5 &&& (1 : Int32)) = (0 : Int32))).1) (by decide) (by decide) k) ?_
        refine ownStep (fun _ k => XS.iconst Xj.here hx rfl (hb hby at_184) k) ?_
        refine ownStep (fun _ k => XS.istore Xj.here hx rfl (hb hby at_185) rfl (l' := #[.val (.int i0), .val (.int i1), .val (.int i2), .val (.int i3), .val (.int i4), .val (.int i5), .val (.int lo), .val (.int len), .val (.int hi), .val (.int ce), .val (.int cl), .val (.int (own_imax lo (ce - cl))), .val (.int (own_imin hi (ce + cl))), .val (.int kp), .val (.int cf), .val (.int ct), .val (.int de), .val (.int kk), .val (.int pp), .val (.int (0 : Int32)), .unset, .unset, .unset, .unset, .unset, .unset, .unset, .unset, .unset, .unset, .unset]) rfl k) ?_
        show ownGo p.tables e below (Tj.setTop (mkF m 187 #[.val (.int i0), .val (.int i1), .val (.int i2), .val (.int i3), .val (.int i4), .val (.int i5), .val (.int lo), .val (.int len), .val (.int hi), .val (.int ce), .val (.int cl), .val (.int (own_imax lo (ce - cl))), .val (.int (own_imin hi (ce + cl))), .val (.int kp), .val (.int cf), .val (.int ct), .val (.int de), .val (.int kk), .val (.int pp), .val (.int (0 : Int32)), .unset, .unset, .unset, .unset, .unset, .unset, .unset, .unset, .unset, .unset, .unset] [])) _
        refine ownStep (Xj.ldc2DoubleC hx hown (mvT hZ (hw _ ow8)) (g := (mkF m 187 #[.val (.int i0), .val (.int i1), .val (.int i2), .val (.int i3), .val (.int i4), .val (.int i5), .val (.int lo), .val (.int len), .val (.int hi), .val (.int ce), .val (.int cl), .val (.int (own_imax lo (ce - cl))), .val (.int (own_imin hi (ce + cl))), .val (.int kp), .val (.int cf), .val (.int ct), .val (.int de), .val (.int kk), .val (.int pp), .val (.int (0 : Int32)), .unset, .unset, .unset, .unset, .unset, .unset, .unset, .unset, .unset, .unset, .unset] [])) rfl (hb hby at_187)) ?_
        refine ownStep (fun _ k => XS.dstore Xj.here hx rfl (hb hby at_190) rfl (l' := #[.val (.int i0), .val (.int i1), .val (.int i2), .val (.int i3), .val (.int i4), .val (.int i5), .val (.int lo), .val (.int len), .val (.int hi), .val (.int ce), .val (.int cl), .val (.int (own_imax lo (ce - cl))), .val (.int (own_imin hi (ce + cl))), .val (.int kp), .val (.int cf), .val (.int ct), .val (.int de), .val (.int kk), .val (.int pp), .val (.int (0 : Int32)), .val (.double (4517110426252607488 : UInt64)), .second, .unset, .unset, .unset, .unset, .unset, .unset, .unset, .unset, .unset]) rfl k) ?_
        refine ownStep (fun _ k => XS.iload Xj.here hx rfl (hb hby at_192) rfl  k) ?_
        refine ownStep (fun _ k => XS.i2dS Xj.here hx rfl (hb hby at_194) rfl (i2d_w _) k) ?_
        refine ownStep (fun _ k => XS.iload Xj.here hx rfl (hb hby at_195) rfl  k) ?_
        refine ownStep (fun _ k => XS.i2dS Xj.here hx rfl (hb hby at_197) rfl (i2d_w _) k) ?_
        refine ownStep (fun _ k => XS.dload Xj.here hx rfl (hb hby at_198) rfl k) ?_
        refine ownStep (fun _ k => XS.dmulS Xj.here hx rfl (hb hby at_200) rfl (own_kn _) rfl k) ?_
        refine ownStep (fun _ k => XS.daddS Xj.here hx rfl (hb hby at_201) rfl (dadd_out (l2d_fin _).noNaN (own_kf ⟨bk1, bk2⟩)) rfl k) ?_
        refine ownStep (fun _ k => XS.dstore Xj.here hx rfl (hb hby at_202) rfl (l' := #[.val (.int i0), .val (.int i1), .val (.int i2), .val (.int i3), .val (.int i4), .val (.int i5), .val (.int lo), .val (.int len), .val (.int hi), .val (.int ce), .val (.int cl), .val (.int (own_imax lo (ce - cl))), .val (.int (own_imin hi (ce + cl))), .val (.int kp), .val (.int cf), .val (.int ct), .val (.int de), .val (.int kk), .val (.int pp), .val (.int (0 : Int32)), .val (.double (4517110426252607488 : UInt64)), .second, .val (.double (FP.dadd (FP.l2d (pp.toInt64)) (FP.dmul (FP.l2d (kk.toInt64)) (4517110426252607488 : UInt64)))), .second, .unset, .unset, .unset, .unset, .unset, .unset, .unset]) rfl k) ?_
        refine ownStep (fun _ k => XS.iload Xj.here hx rfl (hb hby at_204) rfl  k) ?_
        refine ownStep (fun _ k => XS.i2l Xj.here hx rfl (hb hby at_206) rfl k) ?_
        show ownGo p.tables e below (Tj.setTop (mkF m 207 #[.val (.int i0), .val (.int i1), .val (.int i2), .val (.int i3), .val (.int i4), .val (.int i5), .val (.int lo), .val (.int len), .val (.int hi), .val (.int ce), .val (.int cl), .val (.int (own_imax lo (ce - cl))), .val (.int (own_imin hi (ce + cl))), .val (.int kp), .val (.int cf), .val (.int ct), .val (.int de), .val (.int kk), .val (.int pp), .val (.int (0 : Int32)), .val (.double (4517110426252607488 : UInt64)), .second, .val (.double (FP.dadd (FP.l2d (pp.toInt64)) (FP.dmul (FP.l2d (kk.toInt64)) (4517110426252607488 : UInt64)))), .second, .unset, .unset, .unset, .unset, .unset, .unset, .unset] [(.long (de.toInt64))])) _
        refine ownStep (Xj.ldc2Long hx hown (mvT hZ (hw _ ow9)) (g := (mkF m 207 #[.val (.int i0), .val (.int i1), .val (.int i2), .val (.int i3), .val (.int i4), .val (.int i5), .val (.int lo), .val (.int len), .val (.int hi), .val (.int ce), .val (.int cl), .val (.int (own_imax lo (ce - cl))), .val (.int (own_imin hi (ce + cl))), .val (.int kp), .val (.int cf), .val (.int ct), .val (.int de), .val (.int kk), .val (.int pp), .val (.int (0 : Int32)), .val (.double (4517110426252607488 : UInt64)), .second, .val (.double (FP.dadd (FP.l2d (pp.toInt64)) (FP.dmul (FP.l2d (kk.toInt64)) (4517110426252607488 : UInt64)))), .second, .unset, .unset, .unset, .unset, .unset, .unset, .unset] [(.long (de.toInt64))])) rfl (hb hby at_207)) ?_
        refine ownStep (fun _ k => XS.lmul Xj.here hx rfl (hb hby at_210) rfl k) ?_
        refine ownStep (fun _ k => XS.iload Xj.here hx rfl (hb hby at_211) rfl  k) ?_
        refine ownStep (fun _ k => XS.i2l Xj.here hx rfl (hb hby at_213) rfl k) ?_
        refine ownStep (fun _ k => XS.ladd Xj.here hx rfl (hb hby at_214) rfl k) ?_
        refine ownStep (fun _ k => XS.lstore Xj.here hx rfl (hb hby at_215) rfl (l' := #[.val (.int i0), .val (.int i1), .val (.int i2), .val (.int i3), .val (.int i4), .val (.int i5), .val (.int lo), .val (.int len), .val (.int hi), .val (.int ce), .val (.int cl), .val (.int (own_imax lo (ce - cl))), .val (.int (own_imin hi (ce + cl))), .val (.int kp), .val (.int cf), .val (.int ct), .val (.int de), .val (.int kk), .val (.int pp), .val (.int (0 : Int32)), .val (.double (4517110426252607488 : UInt64)), .second, .val (.double (FP.dadd (FP.l2d (pp.toInt64)) (FP.dmul (FP.l2d (kk.toInt64)) (4517110426252607488 : UInt64)))), .second, .val (.long (((de.toInt64) * (1048576 : Int64)) + (kk.toInt64))), .second, .unset, .unset, .unset, .unset, .unset]) rfl k) ?_
        refine ownStep (fun _ k => XS.iload Xj.here hx rfl (hb hby at_217) rfl  k) ?_
        refine ownStep (fun _ k => XS.ifYes Xj.here hx rfl (pc0 := 219) (pc' := 239) rfl (hb hby at_219) rfl ((if0 _ _).trans (teq (by decide : (0 : Int32) = (0 : Int32))).1) (by decide) (by decide) k) ?_
        refine ownStep (fun _ k => XS.lload Xj.here hx rfl (hb hby at_239) rfl  k) ?_
        show ownGo p.tables e below (Tj.setTop (mkF m 241 #[.val (.int i0), .val (.int i1), .val (.int i2), .val (.int i3), .val (.int i4), .val (.int i5), .val (.int lo), .val (.int len), .val (.int hi), .val (.int ce), .val (.int cl), .val (.int (own_imax lo (ce - cl))), .val (.int (own_imin hi (ce + cl))), .val (.int kp), .val (.int cf), .val (.int ct), .val (.int de), .val (.int kk), .val (.int pp), .val (.int (0 : Int32)), .val (.double (4517110426252607488 : UInt64)), .second, .val (.double (FP.dadd (FP.l2d (pp.toInt64)) (FP.dmul (FP.l2d (kk.toInt64)) (4517110426252607488 : UInt64)))), .second, .val (.long (((de.toInt64) * (1048576 : Int64)) + (kk.toInt64))), .second, .unset, .unset, .unset, .unset, .unset] [(.long (((de.toInt64) * (1048576 : Int64)) + (kk.toInt64)))])) _
        refine ownStep (Xj.ldc2Long hx hown (mvT hZ (hw _ ow42)) (g := (mkF m 241 #[.val (.int i0), .val (.int i1), .val (.int i2), .val (.int i3), .val (.int i4), .val (.int i5), .val (.int lo), .val (.int len), .val (.int hi), .val (.int ce), .val (.int cl), .val (.int (own_imax lo (ce - cl))), .val (.int (own_imin hi (ce + cl))), .val (.int kp), .val (.int cf), .val (.int ct), .val (.int de), .val (.int kk), .val (.int pp), .val (.int (0 : Int32)), .val (.double (4517110426252607488 : UInt64)), .second, .val (.double (FP.dadd (FP.l2d (pp.toInt64)) (FP.dmul (FP.l2d (kk.toInt64)) (4517110426252607488 : UInt64)))), .second, .val (.long (((de.toInt64) * (1048576 : Int64)) + (kk.toInt64))), .second, .unset, .unset, .unset, .unset, .unset] [(.long (((de.toInt64) * (1048576 : Int64)) + (kk.toInt64)))])) rfl (hb hby at_241)) ?_
        refine ownStep (fun _ k => XS.lcmp Xj.here hx rfl (hb hby at_244) rfl k) ?_
        show ownGo p.tables e below (Tj.setTop (mkF m 245 #[.val (.int i0), .val (.int i1), .val (.int i2), .val (.int i3), .val (.int i4), .val (.int i5), .val (.int lo), .val (.int len), .val (.int hi), .val (.int ce), .val (.int cl), .val (.int (own_imax lo (ce - cl))), .val (.int (own_imin hi (ce + cl))), .val (.int kp), .val (.int cf), .val (.int ct), .val (.int de), .val (.int kk), .val (.int pp), .val (.int (0 : Int32)), .val (.double (4517110426252607488 : UInt64)), .second, .val (.double (FP.dadd (FP.l2d (pp.toInt64)) (FP.dmul (FP.l2d (kk.toInt64)) (4517110426252607488 : UInt64)))), .second, .val (.long (((de.toInt64) * (1048576 : Int64)) + (kk.toInt64))), .second, .unset, .unset, .unset, .unset, .unset] [(.int (lcmpW (((de.toInt64) * (1048576 : Int64)) + (kk.toInt64)) (2 : Int64)))])) _
        by_cases hc245 : (lcmpW (((de.toInt64) * (1048576 : Int64)) + (kk.toInt64)) (2 : Int64)) < (0 : Int32)
        · skip
          refine ownStep (fun _ k => XS.ifYes Xj.here hx rfl (pc0 := 245) (pc' := 252) rfl (hb hby at_245) rfl ((if0 _ _).trans (tlt (hc245 : (lcmpW (((de.toInt64) * (1048576 : Int64)) + (kk.toInt64)) (2 : Int64)) < (0 : Int32))).1) (by decide) (by decide) k) ?_
          refine ownStep (fun _ k => XS.iconst Xj.here hx rfl (hb hby at_252) k) ?_
          refine ownStep (fun _ k => XS.istore Xj.here hx rfl (hb hby at_253) rfl (l' := #[.val (.int i0), .val (.int i1), .val (.int i2), .val (.int i3), .val (.int i4), .val (.int i5), .val (.int lo), .val (.int len), .val (.int hi), .val (.int ce), .val (.int cl), .val (.int (own_imax lo (ce - cl))), .val (.int (own_imin hi (ce + cl))), .val (.int kp), .val (.int cf), .val (.int ct), .val (.int de), .val (.int kk), .val (.int pp), .val (.int (0 : Int32)), .val (.double (4517110426252607488 : UInt64)), .second, .val (.double (FP.dadd (FP.l2d (pp.toInt64)) (FP.dmul (FP.l2d (kk.toInt64)) (4517110426252607488 : UInt64)))), .second, .val (.long (((de.toInt64) * (1048576 : Int64)) + (kk.toInt64))), .second, .val (.int (0 : Int32)), .unset, .unset, .unset, .unset]) rfl k) ?_
          refine ownStep (fun _ k => XS.iload Xj.here hx rfl (hb hby at_255) rfl  k) ?_
          refine ownStep (fun _ k => XS.ifYes Xj.here hx rfl (pc0 := 257) (pc' := 271) rfl (hb hby at_257) rfl ((if0 _ _).trans (teq (by decide : (0 : Int32) = (0 : Int32))).1) (by decide) (by decide) k) ?_
          refine ownStep (fun _ k => XS.iload Xj.here hx rfl (hb hby at_271) rfl  k) ?_
          refine ownStep (fun _ k => XS.istore Xj.here hx rfl (hb hby at_273) rfl (l' := #[.val (.int i0), .val (.int i1), .val (.int i2), .val (.int i3), .val (.int i4), .val (.int i5), .val (.int lo), .val (.int len), .val (.int hi), .val (.int ce), .val (.int cl), .val (.int (own_imax lo (ce - cl))), .val (.int (own_imin hi (ce + cl))), .val (.int kp), .val (.int cf), .val (.int ct), .val (.int de), .val (.int kk), .val (.int pp), .val (.int (0 : Int32)), .val (.double (4517110426252607488 : UInt64)), .second, .val (.double (FP.dadd (FP.l2d (pp.toInt64)) (FP.dmul (FP.l2d (kk.toInt64)) (4517110426252607488 : UInt64)))), .second, .val (.long (((de.toInt64) * (1048576 : Int64)) + (kk.toInt64))), .second, .val (.int (0 : Int32)), .val (.int pp), .unset, .unset, .unset]) rfl k) ?_
          refine ownStep (fun _ k => XS.iload Xj.here hx rfl (hb hby at_275) rfl  k) ?_
          refine ownStep (fun _ k => XS.i2dS Xj.here hx rfl (hb hby at_277) rfl (i2d_w _) k) ?_
          refine ownStep (fun _ k => XS.iload Xj.here hx rfl (hb hby at_278) rfl  k) ?_
          refine ownStep (fun _ k => XS.i2dS Xj.here hx rfl (hb hby at_280) rfl (i2d_w _) k) ?_
          refine ownStep (fun _ k => XS.dload Xj.here hx rfl (hb hby at_281) rfl k) ?_
          refine ownStep (fun _ k => XS.dmulS Xj.here hx rfl (hb hby at_283) rfl (own_kn _) rfl k) ?_
          show ownGo p.tables e below (Tj.setTop (mkF m 284 #[.val (.int i0), .val (.int i1), .val (.int i2), .val (.int i3), .val (.int i4), .val (.int i5), .val (.int lo), .val (.int len), .val (.int hi), .val (.int ce), .val (.int cl), .val (.int (own_imax lo (ce - cl))), .val (.int (own_imin hi (ce + cl))), .val (.int kp), .val (.int cf), .val (.int ct), .val (.int de), .val (.int kk), .val (.int pp), .val (.int (0 : Int32)), .val (.double (4517110426252607488 : UInt64)), .second, .val (.double (FP.dadd (FP.l2d (pp.toInt64)) (FP.dmul (FP.l2d (kk.toInt64)) (4517110426252607488 : UInt64)))), .second, .val (.long (((de.toInt64) * (1048576 : Int64)) + (kk.toInt64))), .second, .val (.int (0 : Int32)), .val (.int pp), .unset, .unset, .unset] [(.double (FP.dmul (FP.l2d (kk.toInt64)) (4517110426252607488 : UInt64))), (.double (FP.l2d (pp.toInt64)))])) _
          refine ownStep (fun _ k => XS.daddS Xj.here hx rfl (hb hby at_284) rfl (dadd_out (l2d_fin _).noNaN (own_kf ⟨bk1, bk2⟩)) rfl k) ?_
          refine ownStep (fun _ k => XS.dstore Xj.here hx rfl (hb hby at_285) rfl (l' := #[.val (.int i0), .val (.int i1), .val (.int i2), .val (.int i3), .val (.int i4), .val (.int i5), .val (.int lo), .val (.int len), .val (.int hi), .val (.int ce), .val (.int cl), .val (.int (own_imax lo (ce - cl))), .val (.int (own_imin hi (ce + cl))), .val (.int kp), .val (.int cf), .val (.int ct), .val (.int de), .val (.int kk), .val (.int pp), .val (.int (0 : Int32)), .val (.double (4517110426252607488 : UInt64)), .second, .val (.double (FP.dadd (FP.l2d (pp.toInt64)) (FP.dmul (FP.l2d (kk.toInt64)) (4517110426252607488 : UInt64)))), .second, .val (.long (((de.toInt64) * (1048576 : Int64)) + (kk.toInt64))), .second, .val (.int (0 : Int32)), .val (.int pp), .val (.double (FP.dadd (FP.l2d (pp.toInt64)) (FP.dmul (FP.l2d (kk.toInt64)) (4517110426252607488 : UInt64)))), .second, .unset]) rfl k) ?_
          show ownGo p.tables e below (Tj.setTop (mkF m 287 #[.val (.int i0), .val (.int i1), .val (.int i2), .val (.int i3), .val (.int i4), .val (.int i5), .val (.int lo), .val (.int len), .val (.int hi), .val (.int ce), .val (.int cl), .val (.int (own_imax lo (ce - cl))), .val (.int (own_imin hi (ce + cl))), .val (.int kp), .val (.int cf), .val (.int ct), .val (.int de), .val (.int kk), .val (.int pp), .val (.int (0 : Int32)), .val (.double (4517110426252607488 : UInt64)), .second, .val (.double (FP.dadd (FP.l2d (pp.toInt64)) (FP.dmul (FP.l2d (kk.toInt64)) (4517110426252607488 : UInt64)))), .second, .val (.long (((de.toInt64) * (1048576 : Int64)) + (kk.toInt64))), .second, .val (.int (0 : Int32)), .val (.int pp), .val (.double (FP.dadd (FP.l2d (pp.toInt64)) (FP.dmul (FP.l2d (kk.toInt64)) (4517110426252607488 : UInt64)))), .second, .unset] [])) _
          obtain ⟨T5, h5, X5, e5, E5, A5, D5, U5, st5⟩ := newO Xj hx hZ hown (hw _ ow11) (hw _ ow12) (hw _ ow13) ej (g := (mkF m 287 #[.val (.int i0), .val (.int i1), .val (.int i2), .val (.int i3), .val (.int i4), .val (.int i5), .val (.int lo), .val (.int len), .val (.int hi), .val (.int ce), .val (.int cl), .val (.int (own_imax lo (ce - cl))), .val (.int (own_imin hi (ce + cl))), .val (.int kp), .val (.int cf), .val (.int ct), .val (.int de), .val (.int kk), .val (.int pp), .val (.int (0 : Int32)), .val (.double (4517110426252607488 : UInt64)), .second, .val (.double (FP.dadd (FP.l2d (pp.toInt64)) (FP.dmul (FP.l2d (kk.toInt64)) (4517110426252607488 : UInt64)))), .second, .val (.long (((de.toInt64) * (1048576 : Int64)) + (kk.toInt64))), .second, .val (.int (0 : Int32)), .val (.int pp), .val (.double (FP.dadd (FP.l2d (pp.toInt64)) (FP.dmul (FP.l2d (kk.toInt64)) (4517110426252607488 : UInt64)))), .second, .unset] [])) rfl (hb hby at_287) (by decide) (by decide)
          obtain ⟨b5, g5⟩ : ∃ z, z = h0.size := ⟨_, rfl⟩
          rw [← g5] at A5 D5 U5 st5
          have gh_b5 : h0.size ≤ b5 := Nat.le_trans KP0.1 (Nat.le_of_eq g5.symm)
          have gn_b5 : n0 ≤ b5 := Nat.le_trans Z0 gh_b5
          have KP6 : Keep h0 h5 [] := KP0.ext E5
          have F7 : Fld Z h5 b5 "com/example/adept_layout/adeptlayout/layout/SidePlaces" "low" "D" (.double 0) := D5 (Or.inr (hw _ ow21)) (ty := .double) (by decide)
          have F8 : Fld Z h5 b5 "com/example/adept_layout/adeptlayout/layout/SidePlaces" "high" "D" (.double 0) := D5 (Or.inr (hw _ ow23)) (ty := .double) (by decide)
          have F9 : Fld Z h5 b5 "com/example/adept_layout/adeptlayout/layout/SidePlaces" "clearFrom" "D" (.double 0) := D5 (Or.inr (hw _ ow31)) (ty := .double) (by decide)
          have F10 : Fld Z h5 b5 "com/example/adept_layout/adeptlayout/layout/SidePlaces" "clearTo" "D" (.double 0) := D5 (Or.inr (hw _ ow33)) (ty := .double) (by decide)
          have F11 : Fld Z h5 b5 "com/example/adept_layout/adeptlayout/layout/SidePlaces" "length" "D" (.double 0) := D5 (Or.inr (hw _ ow35)) (ty := .double) (by decide)
          refine ownStep st5 ?_
          refine ownStep (fun _ k => XS.dup X5.here hx rfl (hb hby at_290) rfl rfl k) ?_
          refine ownStep (fun _ k => XS.iload X5.here hx rfl (hb hby at_291) rfl  k) ?_
          refine ownStep (fun _ k => XS.i2dS X5.here hx rfl (hb hby at_293) rfl (i2d_w _) k) ?_
          refine ownStep (fun _ k => XS.iload X5.here hx rfl (hb hby at_294) rfl  k) ?_
          refine ownStep (fun _ k => XS.i2dS X5.here hx rfl (hb hby at_296) rfl (i2d_w _) k) ?_
          refine ownStep (fun _ k => XS.iload X5.here hx rfl (hb hby at_297) rfl  k) ?_
          refine ownStep (fun _ k => XS.i2dS X5.here hx rfl (hb hby at_299) rfl (i2d_w _) k) ?_
          refine ownStep (fun _ k => XS.iload X5.here hx rfl (hb hby at_300) rfl  k) ?_
          refine ownStep (fun _ k => XS.i2dS X5.here hx rfl (hb hby at_302) rfl (i2d_w _) k) ?_
          show ownGo p.tables e below (T5.setTop (mkF m 303 #[.val (.int i0), .val (.int i1), .val (.int i2), .val (.int i3), .val (.int i4), .val (.int i5), .val (.int lo), .val (.int len), .val (.int hi), .val (.int ce), .val (.int cl), .val (.int (own_imax lo (ce - cl))), .val (.int (own_imin hi (ce + cl))), .val (.int kp), .val (.int cf), .val (.int ct), .val (.int de), .val (.int kk), .val (.int pp), .val (.int (0 : Int32)), .val (.double (4517110426252607488 : UInt64)), .second, .val (.double (FP.dadd (FP.l2d (pp.toInt64)) (FP.dmul (FP.l2d (kk.toInt64)) (4517110426252607488 : UInt64)))), .second, .val (.long (((de.toInt64) * (1048576 : Int64)) + (kk.toInt64))), .second, .val (.int (0 : Int32)), .val (.int pp), .val (.double (FP.dadd (FP.l2d (pp.toInt64)) (FP.dmul (FP.l2d (kk.toInt64)) (4517110426252607488 : UInt64)))), .second, .unset] [(.double (FP.l2d (cl.toInt64))), (.double (FP.l2d (ce.toInt64))), (.double (FP.l2d (hi.toInt64))), (.double (FP.l2d (lo.toInt64))), (.ref b5), (.ref b5)])) _
          have hS := own_G1 hG
          have Zs13 : n0 ≤ h5.size := Nat.le_trans Z0 KP6.1
          obtain ⟨_, _, ⟨T12, L12, k12, n12⟩, -, X12, ⟨Lc12, hQ12, l12, y12, z12⟩, st12⟩ := X5.specialBack hx (y := (⟨"com/example/adept_layout/adeptlayout/layout/SidePlaces", "<init>", "(DDDD)V"⟩ : MethodName)) rfl hown (mvT hZ (hw _ ow14)) (mvT hZ (hw _ ow15)) (mvT hZ (hw _ ow16)) (by decide) (backOf (W := 1) (own_ct l Z a0 hw [] b5 (lo.toInt64) (hi.toInt64) (ce.toInt64) (cl.toInt64) h5 n0 Zs13 A5 gn_b5 hS.1 hS.2.1 hS.2.2.1 hS.2.2.2 F7 F8 F9 F10 F11) hZ (hw _ ow16) (hw _ ow13) (by decide) (by decide)) (g := (mkF m 303 #[.val (.int i0), .val (.int i1), .val (.int i2), .val (.int i3), .val (.int i4), .val (.int i5), .val (.int lo), .val (.int len), .val (.int hi), .val (.int ce), .val (.int cl), .val (.int (own_imax lo (ce - cl))), .val (.int (own_imin hi (ce + cl))), .val (.int kp), .val (.int cf), .val (.int ct), .val (.int de), .val (.int kk), .val (.int pp), .val (.int (0 : Int32)), .val (.double (4517110426252607488 : UInt64)), .second, .val (.double (FP.dadd (FP.l2d (pp.toInt64)) (FP.dmul (FP.l2d (kk.toInt64)) (4517110426252607488 : UInt64)))), .second, .val (.long (((de.toInt64) * (1048576 : Int64)) + (kk.toInt64))), .second, .val (.int (0 : Int32)), .val (.int pp), .val (.double (FP.dadd (FP.l2d (pp.toInt64)) (FP.dmul (FP.l2d (kk.toInt64)) (4517110426252607488 : UInt64)))), .second, .unset] [(.double (FP.l2d (cl.toInt64))), (.double (FP.l2d (ce.toInt64))), (.double (FP.l2d (hi.toInt64))), (.double (FP.l2d (lo.toInt64))), (.ref b5), (.ref b5)])) rfl (by rw [hml]; rfl) (Steps.refl _) (a := b5) (argsL := [(.double (FP.l2d (lo.toInt64))), (.double (FP.l2d (hi.toInt64))), (.double (FP.l2d (ce.toInt64))), (.double (FP.l2d (cl.toInt64)))]) (rest := [(.ref b5)]) (lenOf own_law_pd1 rfl) rfl (by show 2 * 0 + _ ≤ _; exact Nat.le_of_eq rfl) (hb hby at_303) (fun _ _ => ⟨rfl, e5, (by decide : 1 + 0 ≤ _), (by decide : 5 + 0 ≤ _)⟩)
          dsimp only [Pt.U, Pt.locs, Pt.cells, Pt.slots] at X12 l12 y12 z12 st12 hQ12
          obtain rfl : k12 = 1 := y12
          obtain rfl : n12 = 5 := z12
          obtain ⟨ff, tt, rfl, N12q, R12, P14, P15, P16⟩ := hQ12
          have N12 : Fr n0 L12 := l12 ▸ Fr.app Nj N12q
          refine ownStep (fun _ k => st12.trans k) ?_
          have KP17 : Keep h0 T12.heap [] := KP6.trans R12 (allS (Or.inr gh_b5) all0)
          show ownGo p.tables e below (T12.setTop (mkF m 306 #[.val (.int i0), .val (.int i1), .val (.int i2), .val (.int i3), .val (.int i4), .val (.int i5), .val (.int lo), .val (.int len), .val (.int hi), .val (.int ce), .val (.int cl), .val (.int (own_imax lo (ce - cl))), .val (.int (own_imin hi (ce + cl))), .val (.int kp), .val (.int cf), .val (.int ct), .val (.int de), .val (.int kk), .val (.int pp), .val (.int (0 : Int32)), .val (.double (4517110426252607488 : UInt64)), .second, .val (.double (FP.dadd (FP.l2d (pp.toInt64)) (FP.dmul (FP.l2d (kk.toInt64)) (4517110426252607488 : UInt64)))), .second, .val (.long (((de.toInt64) * (1048576 : Int64)) + (kk.toInt64))), .second, .val (.int (0 : Int32)), .val (.int pp), .val (.double (FP.dadd (FP.l2d (pp.toInt64)) (FP.dmul (FP.l2d (kk.toInt64)) (4517110426252607488 : UInt64)))), .second, .unset] [(.ref b5)])) _
          obtain ⟨rfl, rfl⟩ := own_KK hK P16
          refine ownStep (fun _ k => XS.astore X12.here hx rfl (hb hby at_306) rfl rfl (l' := #[.val (.int i0), .val (.int i1), .val (.int i2), .val (.int i3), .val (.int i4), .val (.int i5), .val (.int lo), .val (.int len), .val (.int hi), .val (.int ce), .val (.int cl), .val (.int (own_imax lo (ce - cl))), .val (.int (own_imin hi (ce + cl))), .val (.int kp), .val (.int cf), .val (.int ct), .val (.int de), .val (.int kk), .val (.int pp), .val (.int (0 : Int32)), .val (.double (4517110426252607488 : UInt64)), .second, .val (.double (FP.dadd (FP.l2d (pp.toInt64)) (FP.dmul (FP.l2d (kk.toInt64)) (4517110426252607488 : UInt64)))), .second, .val (.long (((de.toInt64) * (1048576 : Int64)) + (kk.toInt64))), .second, .val (.int (0 : Int32)), .val (.int pp), .val (.double (FP.dadd (FP.l2d (pp.toInt64)) (FP.dmul (FP.l2d (kk.toInt64)) (4517110426252607488 : UInt64)))), .second, .val (.ref b5)]) rfl k) ?_
          refine ownStep (fun _ k => XS.aload X12.here hx rfl (hb hby at_308) rfl rfl k) ?_
          refine ownStep (fun _ k => XS.dload X12.here hx rfl (hb hby at_310) rfl k) ?_
          refine ownStep (fun _ k => XS.iload X12.here hx rfl (hb hby at_312) rfl  k) ?_
          show ownGo p.tables e below (T12.setTop (mkF m 314 #[.val (.int i0), .val (.int i1), .val (.int i2), .val (.int i3), .val (.int i4), .val (.int i5), .val (.int lo), .val (.int len), .val (.int hi), .val (.int ce), .val (.int cl), .val (.int (own_imax lo (ce - cl))), .val (.int (own_imin hi (ce + cl))), .val (.int kp), .val (.int cf), .val (.int ct), .val (.int de), .val (.int kk), .val (.int pp), .val (.int (0 : Int32)), .val (.double (4517110426252607488 : UInt64)), .second, .val (.double (FP.dadd (FP.l2d (pp.toInt64)) (FP.dmul (FP.l2d (kk.toInt64)) (4517110426252607488 : UInt64)))), .second, .val (.long (((de.toInt64) * (1048576 : Int64)) + (kk.toInt64))), .second, .val (.int (0 : Int32)), .val (.int pp), .val (.double (FP.dadd (FP.l2d (pp.toInt64)) (FP.dmul (FP.l2d (kk.toInt64)) (4517110426252607488 : UInt64)))), .second, .val (.ref b5)] [(.int (0 : Int32)), (.double (FP.dadd (FP.l2d (pp.toInt64)) (FP.dmul (FP.l2d (kk.toInt64)) (4517110426252607488 : UInt64)))), (.ref b5)])) _
          have hfx : Fin64 (FP.dadd (FP.l2d (pp.toInt64)) (FP.dmul (FP.l2d (kk.toInt64)) (4517110426252607488 : UInt64))) := fin64_core.mpr (own_zp (p := pp) (k := kk) (by omega) ⟨bk1, bk2⟩).1
          have Zs19 : n0 ≤ T12.heap.size := Nat.le_trans Z0 KP17.1
          have Q20 : Exa Z T12.heap b5 "com/example/adept_layout/adeptlayout/layout/SidePlaces" := (A5.keep R12)
          obtain ⟨cq18, kq18, q18a, q18b, q18c⟩ := isOf hZ rfl Q20
          obtain ⟨_, _, ⟨T18, L18, k18, n18⟩, -, X18, ⟨Lc18, hQ18, l18, y18, z18⟩, st18⟩ := X12.virtualBack hx (y := (⟨"com/example/adept_layout/adeptlayout/layout/SidePlaces", "position", "(DZ)D"⟩ : MethodName)) (z := (⟨"com/example/adept_layout/adeptlayout/layout/SidePlaces", "position", "(DZ)D"⟩ : MethodName)) hown (mvT hZ (hw _ ow36)) (mvT hZ (hw _ ow37)) (notFace_of_selects (args := #[]) (mvT hZ (hw _ ow39))) (mvT hZ (hw _ ow39)) (mvT hZ (hw _ ow38)) (by decide) (backOf (W := 0) (own_posW l Z a0 hw [] b5 (FP.dadd (FP.l2d (pp.toInt64)) (FP.dmul (FP.l2d (kk.toInt64)) (4517110426252607488 : UInt64))) (cf.toInt64) (ct.toInt64) (0 : Int32) T12.heap n0 Zs19 hfx P14 P15) hZ (hw _ ow40) (hw _ ow13) (by decide) (by decide)) q18a q18c (g := (mkF m 314 #[.val (.int i0), .val (.int i1), .val (.int i2), .val (.int i3), .val (.int i4), .val (.int i5), .val (.int lo), .val (.int len), .val (.int hi), .val (.int ce), .val (.int cl), .val (.int (own_imax lo (ce - cl))), .val (.int (own_imin hi (ce + cl))), .val (.int kp), .val (.int cf), .val (.int ct), .val (.int de), .val (.int kk), .val (.int pp), .val (.int (0 : Int32)), .val (.double (4517110426252607488 : UInt64)), .second, .val (.double (FP.dadd (FP.l2d (pp.toInt64)) (FP.dmul (FP.l2d (kk.toInt64)) (4517110426252607488 : UInt64)))), .second, .val (.long (((de.toInt64) * (1048576 : Int64)) + (kk.toInt64))), .second, .val (.int (0 : Int32)), .val (.int pp), .val (.double (FP.dadd (FP.l2d (pp.toInt64)) (FP.dmul (FP.l2d (kk.toInt64)) (4517110426252607488 : UInt64)))), .second, .val (.ref b5)] [(.int (0 : Int32)), (.double (FP.dadd (FP.l2d (pp.toInt64)) (FP.dmul (FP.l2d (kk.toInt64)) (4517110426252607488 : UInt64)))), (.ref b5)])) rfl (by rw [hml]; rfl) (Steps.refl _) (argsL := [(.double (FP.dadd (FP.l2d (pp.toInt64)) (FP.dmul (FP.l2d (kk.toInt64)) (4517110426252607488 : UInt64)))), (.int (0 : Int32))]) (rest := []) (lenOf own_law_pd2 rfl) rfl (by show 2 * 0 + _ ≤ _; exact Nat.le_of_eq rfl) (hb hby at_314) (fun _ _ => ⟨rfl, rfl, (by decide : 1 + 0 ≤ _), (by decide : 5 + 0 ≤ _)⟩)
          dsimp only [Pt.U, Pt.locs, Pt.cells, Pt.slots] at X18 l18 y18 z18 st18 hQ18
          obtain rfl : k18 = 1 := y18
          obtain rfl : n18 = 5 := z18
          obtain ⟨rfl, N18q, R18⟩ := hQ18
          have N18 : Fr n0 L18 := l18 ▸ Fr.app N12 N18q
          refine ownStep (fun _ k => st18.trans k) ?_
          refine ownStep (fun _ k => XS.dload X18.here hx rfl (hb hby at_317) rfl k) ?_
          refine ownStep (fun _ k => XS.dcmpS X18.here hx rfl (hb hby at_319) rfl rfl k) ?_
          refine ownStep (fun _ k => XS.ifNo X18.here hx rfl (hb hby at_320) rfl ((if0 _ _).trans (teq (own_fin hKB.1 hKB.2 hd ⟨bk1, bk2⟩ ep (by first | exact Or.inl ⟨rfl, hc245, rfl⟩ | exact Or.inr (Or.inl ⟨rfl, hc245, rfl⟩) | exact Or.inr (Or.inr (Or.inl ⟨by decide, hc228, rfl⟩)) | exact Or.inr (Or.inr (Or.inr ⟨by decide, hc228, rfl⟩))) : (cmpValue (FP.dcmp (own_pos (FP.dadd (FP.l2d (pp.toInt64)) (FP.dmul (FP.l2d (kk.toInt64)) (4517110426252607488 : UInt64))) (cf.toInt64) (ct.toInt64) (0 : Int32)) (FP.dadd (FP.l2d (pp.toInt64)) (FP.dmul (FP.l2d (kk.toInt64)) (4517110426252607488 : UInt64)))) .l) = (0 : Int32))).2) k) ?_
          refine ownStep (fun _ k => XS.iconst X18.here hx rfl (hb hby at_323) k) ?_
          refine ownStep (fun _ k => XS.goto X18.here hx rfl (pc0 := 324) (pc' := 328) rfl (hb hby at_324) (by decide) (by decide) k) ?_
          show ownGo p.tables e below (T18.setTop (mkF m 328 #[.val (.int i0), .val (.int i1), .val (.int i2), .val (.int i3), .val (.int i4), .val (.int i5), .val (.int lo), .val (.int len), .val (.int hi), .val (.int ce), .val (.int cl), .val (.int (own_imax lo (ce - cl))), .val (.int (own_imin hi (ce + cl))), .val (.int kp), .val (.int cf), .val (.int ct), .val (.int de), .val (.int kk), .val (.int pp), .val (.int (0 : Int32)), .val (.double (4517110426252607488 : UInt64)), .second, .val (.double (FP.dadd (FP.l2d (pp.toInt64)) (FP.dmul (FP.l2d (kk.toInt64)) (4517110426252607488 : UInt64)))), .second, .val (.long (((de.toInt64) * (1048576 : Int64)) + (kk.toInt64))), .second, .val (.int (0 : Int32)), .val (.int pp), .val (.double (FP.dadd (FP.l2d (pp.toInt64)) (FP.dmul (FP.l2d (kk.toInt64)) (4517110426252607488 : UInt64)))), .second, .val (.ref b5)] [(.int (1 : Int32))])) _
          exact ownRet X18 (v := some (.int (1 : Int32))) Bd.notSynchronized (fun h => by rw [Bd.returns] at h; cases h) (fun _ hr => retN X18 hx (t := .boolean) Bd.returns (by simp) (hb hby at_328) hr) (by rw [R18]; exact ⟨rfl, N18, (own_extOf KP17)⟩) (by decide) (by decide)
        · skip
          refine ownStep (fun _ k => XS.ifNo Xj.here hx rfl (hb hby at_245) rfl ((if0 _ _).trans (flt (hc245 : ¬ (lcmpW (((de.toInt64) * (1048576 : Int64)) + (kk.toInt64)) (2 : Int64)) < (0 : Int32))).1) k) ?_
          refine ownStep (fun _ k => XS.iconst Xj.here hx rfl (hb hby at_248) k) ?_
          refine ownStep (fun _ k => XS.goto Xj.here hx rfl (pc0 := 249) (pc' := 253) rfl (hb hby at_249) (by decide) (by decide) k) ?_
          refine ownStep (fun _ k => XS.istore Xj.here hx rfl (hb hby at_253) rfl (l' := #[.val (.int i0), .val (.int i1), .val (.int i2), .val (.int i3), .val (.int i4), .val (.int i5), .val (.int lo), .val (.int len), .val (.int hi), .val (.int ce), .val (.int cl), .val (.int (own_imax lo (ce - cl))), .val (.int (own_imin hi (ce + cl))), .val (.int kp), .val (.int cf), .val (.int ct), .val (.int de), .val (.int kk), .val (.int pp), .val (.int (0 : Int32)), .val (.double (4517110426252607488 : UInt64)), .second, .val (.double (FP.dadd (FP.l2d (pp.toInt64)) (FP.dmul (FP.l2d (kk.toInt64)) (4517110426252607488 : UInt64)))), .second, .val (.long (((de.toInt64) * (1048576 : Int64)) + (kk.toInt64))), .second, .val (.int (1 : Int32)), .unset, .unset, .unset, .unset]) rfl k) ?_
          refine ownStep (fun _ k => XS.iload Xj.here hx rfl (hb hby at_255) rfl  k) ?_
          refine ownStep (fun _ k => XS.ifNo Xj.here hx rfl (hb hby at_257) rfl ((if0 _ _).trans (feq (by decide : ¬ (1 : Int32) = (0 : Int32))).1) k) ?_
          refine ownStep (fun _ k => XS.iload Xj.here hx rfl (hb hby at_260) rfl  k) ?_
          refine ownStep (fun _ k => XS.iload Xj.here hx rfl (hb hby at_262) rfl  k) ?_
          refine ownStep (fun _ k => XS.iload Xj.here hx rfl (hb hby at_264) rfl  k) ?_
          refine ownStep (fun _ k => XS.isub Xj.here hx rfl (hb hby at_266) rfl k) ?_
          refine ownStep (fun _ k => XS.iadd Xj.here hx rfl (hb hby at_267) rfl k) ?_
          refine ownStep (fun _ k => XS.goto Xj.here hx rfl (pc0 := 268) (pc' := 273) rfl (hb hby at_268) (by decide) (by decide) k) ?_
          refine ownStep (fun _ k => XS.istore Xj.here hx rfl (hb hby at_273) rfl (l' := #[.val (.int i0), .val (.int i1), .val (.int i2), .val (.int i3), .val (.int i4), .val (.int i5), .val (.int lo), .val (.int len), .val (.int hi), .val (.int ce), .val (.int cl), .val (.int (own_imax lo (ce - cl))), .val (.int (own_imin hi (ce + cl))), .val (.int kp), .val (.int cf), .val (.int ct), .val (.int de), .val (.int kk), .val (.int pp), .val (.int (0 : Int32)), .val (.double (4517110426252607488 : UInt64)), .second, .val (.double (FP.dadd (FP.l2d (pp.toInt64)) (FP.dmul (FP.l2d (kk.toInt64)) (4517110426252607488 : UInt64)))), .second, .val (.long (((de.toInt64) * (1048576 : Int64)) + (kk.toInt64))), .second, .val (.int (1 : Int32)), .val (.int (pp + (ct - cf))), .unset, .unset, .unset]) rfl k) ?_
          show ownGo p.tables e below (Tj.setTop (mkF m 275 #[.val (.int i0), .val (.int i1), .val (.int i2), .val (.int i3), .val (.int i4), .val (.int i5), .val (.int lo), .val (.int len), .val (.int hi), .val (.int ce), .val (.int cl), .val (.int (own_imax lo (ce - cl))), .val (.int (own_imin hi (ce + cl))), .val (.int kp), .val (.int cf), .val (.int ct), .val (.int de), .val (.int kk), .val (.int pp), .val (.int (0 : Int32)), .val (.double (4517110426252607488 : UInt64)), .second, .val (.double (FP.dadd (FP.l2d (pp.toInt64)) (FP.dmul (FP.l2d (kk.toInt64)) (4517110426252607488 : UInt64)))), .second, .val (.long (((de.toInt64) * (1048576 : Int64)) + (kk.toInt64))), .second, .val (.int (1 : Int32)), .val (.int (pp + (ct - cf))), .unset, .unset, .unset] [])) _
          refine ownStep (fun _ k => XS.iload Xj.here hx rfl (hb hby at_275) rfl  k) ?_
          refine ownStep (fun _ k => XS.i2dS Xj.here hx rfl (hb hby at_277) rfl (i2d_w _) k) ?_
          refine ownStep (fun _ k => XS.iload Xj.here hx rfl (hb hby at_278) rfl  k) ?_
          refine ownStep (fun _ k => XS.i2dS Xj.here hx rfl (hb hby at_280) rfl (i2d_w _) k) ?_
          refine ownStep (fun _ k => XS.dload Xj.here hx rfl (hb hby at_281) rfl k) ?_
          refine ownStep (fun _ k => XS.dmulS Xj.here hx rfl (hb hby at_283) rfl (own_kn _) rfl k) ?_
          refine ownStep (fun _ k => XS.daddS Xj.here hx rfl (hb hby at_284) rfl (dadd_out (l2d_fin _).noNaN (own_kf ⟨bk1, bk2⟩)) rfl k) ?_
          refine ownStep (fun _ k => XS.dstore Xj.here hx rfl (hb hby at_285) rfl (l' := #[.val (.int i0), .val (.int i1), .val (.int i2), .val (.int i3), .val (.int i4), .val (.int i5), .val (.int lo), .val (.int len), .val (.int hi), .val (.int ce), .val (.int cl), .val (.int (own_imax lo (ce - cl))), .val (.int (own_imin hi (ce + cl))), .val (.int kp), .val (.int cf), .val (.int ct), .val (.int de), .val (.int kk), .val (.int pp), .val (.int (0 : Int32)), .val (.double (4517110426252607488 : UInt64)), .second, .val (.double (FP.dadd (FP.l2d (pp.toInt64)) (FP.dmul (FP.l2d (kk.toInt64)) (4517110426252607488 : UInt64)))), .second, .val (.long (((de.toInt64) * (1048576 : Int64)) + (kk.toInt64))), .second, .val (.int (1 : Int32)), .val (.int (pp + (ct - cf))), .val (.double (FP.dadd (FP.l2d ((pp + (ct - cf)).toInt64)) (FP.dmul (FP.l2d (kk.toInt64)) (4517110426252607488 : UInt64)))), .second, .unset]) rfl k) ?_
          show ownGo p.tables e below (Tj.setTop (mkF m 287 #[.val (.int i0), .val (.int i1), .val (.int i2), .val (.int i3), .val (.int i4), .val (.int i5), .val (.int lo), .val (.int len), .val (.int hi), .val (.int ce), .val (.int cl), .val (.int (own_imax lo (ce - cl))), .val (.int (own_imin hi (ce + cl))), .val (.int kp), .val (.int cf), .val (.int ct), .val (.int de), .val (.int kk), .val (.int pp), .val (.int (0 : Int32)), .val (.double (4517110426252607488 : UInt64)), .second, .val (.double (FP.dadd (FP.l2d (pp.toInt64)) (FP.dmul (FP.l2d (kk.toInt64)) (4517110426252607488 : UInt64)))), .second, .val (.long (((de.toInt64) * (1048576 : Int64)) + (kk.toInt64))), .second, .val (.int (1 : Int32)), .val (.int (pp + (ct - cf))), .val (.double (FP.dadd (FP.l2d ((pp + (ct - cf)).toInt64)) (FP.dmul (FP.l2d (kk.toInt64)) (4517110426252607488 : UInt64)))), .second, .unset] [])) _
          obtain ⟨T21, h21, X21, e21, E21, A21, D21, U21, st21⟩ := newO Xj hx hZ hown (hw _ ow11) (hw _ ow12) (hw _ ow13) ej (g := (mkF m 287 #[.val (.int i0), .val (.int i1), .val (.int i2), .val (.int i3), .val (.int i4), .val (.int i5), .val (.int lo), .val (.int len), .val (.int hi), .val (.int ce), .val (.int cl), .val (.int (own_imax lo (ce - cl))), .val (.int (own_imin hi (ce + cl))), .val (.int kp), .val (.int cf), .val (.int ct), .val (.int de), .val (.int kk), .val (.int pp), .val (.int (0 : Int32)), .val (.double (4517110426252607488 : UInt64)), .second, .val (.double (FP.dadd (FP.l2d (pp.toInt64)) (FP.dmul (FP.l2d (kk.toInt64)) (4517110426252607488 : UInt64)))), .second, .val (.long (((de.toInt64) * (1048576 : Int64)) + (kk.toInt64))), .second, .val (.int (1 : Int32)), .val (.int (pp + (ct - cf))), .val (.double (FP.dadd (FP.l2d ((pp + (ct - cf)).toInt64)) (FP.dmul (FP.l2d (kk.toInt64)) (4517110426252607488 : UInt64)))), .second, .unset] [])) rfl (hb hby at_287) (by decide) (by decide)
          obtain ⟨b21, g21⟩ : ∃ z, z = h0.size := ⟨_, rfl⟩
          rw [← g21] at A21 D21 U21 st21
          have gh_b21 : h0.size ≤ b21 := Nat.le_trans KP0.1 (Nat.le_of_eq g21.symm)
          have gn_b21 : n0 ≤ b21 := Nat.le_trans Z0 gh_b21
          have KP22 : Keep h0 h21 [] := KP0.ext E21
          have F23 : Fld Z h21 b21 "com/example/adept_layout/adeptlayout/layout/SidePlaces" "low" "D" (.double 0) := D21 (Or.inr (hw _ ow21)) (ty := .double) (by decide)
          have F24 : Fld Z h21 b21 "com/example/adept_layout/adeptlayout/layout/SidePlaces" "high" "D" (.double 0) := D21 (Or.inr (hw _ ow23)) (ty := .double) (by decide)
          have F25 : Fld Z h21 b21 "com/example/adept_layout/adeptlayout/layout/SidePlaces" "clearFrom" "D" (.double 0) := D21 (Or.inr (hw _ ow31)) (ty := .double) (by decide)
          have F26 : Fld Z h21 b21 "com/example/adept_layout/adeptlayout/layout/SidePlaces" "clearTo" "D" (.double 0) := D21 (Or.inr (hw _ ow33)) (ty := .double) (by decide)
          have F27 : Fld Z h21 b21 "com/example/adept_layout/adeptlayout/layout/SidePlaces" "length" "D" (.double 0) := D21 (Or.inr (hw _ ow35)) (ty := .double) (by decide)
          refine ownStep st21 ?_
          refine ownStep (fun _ k => XS.dup X21.here hx rfl (hb hby at_290) rfl rfl k) ?_
          refine ownStep (fun _ k => XS.iload X21.here hx rfl (hb hby at_291) rfl  k) ?_
          refine ownStep (fun _ k => XS.i2dS X21.here hx rfl (hb hby at_293) rfl (i2d_w _) k) ?_
          refine ownStep (fun _ k => XS.iload X21.here hx rfl (hb hby at_294) rfl  k) ?_
          refine ownStep (fun _ k => XS.i2dS X21.here hx rfl (hb hby at_296) rfl (i2d_w _) k) ?_
          refine ownStep (fun _ k => XS.iload X21.here hx rfl (hb hby at_297) rfl  k) ?_
          refine ownStep (fun _ k => XS.i2dS X21.here hx rfl (hb hby at_299) rfl (i2d_w _) k) ?_
          refine ownStep (fun _ k => XS.iload X21.here hx rfl (hb hby at_300) rfl  k) ?_
          refine ownStep (fun _ k => XS.i2dS X21.here hx rfl (hb hby at_302) rfl (i2d_w _) k) ?_
          show ownGo p.tables e below (T21.setTop (mkF m 303 #[.val (.int i0), .val (.int i1), .val (.int i2), .val (.int i3), .val (.int i4), .val (.int i5), .val (.int lo), .val (.int len), .val (.int hi), .val (.int ce), .val (.int cl), .val (.int (own_imax lo (ce - cl))), .val (.int (own_imin hi (ce + cl))), .val (.int kp), .val (.int cf), .val (.int ct), .val (.int de), .val (.int kk), .val (.int pp), .val (.int (0 : Int32)), .val (.double (4517110426252607488 : UInt64)), .second, .val (.double (FP.dadd (FP.l2d (pp.toInt64)) (FP.dmul (FP.l2d (kk.toInt64)) (4517110426252607488 : UInt64)))), .second, .val (.long (((de.toInt64) * (1048576 : Int64)) + (kk.toInt64))), .second, .val (.int (1 : Int32)), .val (.int (pp + (ct - cf))), .val (.double (FP.dadd (FP.l2d ((pp + (ct - cf)).toInt64)) (FP.dmul (FP.l2d (kk.toInt64)) (4517110426252607488 : UInt64)))), .second, .unset] [(.double (FP.l2d (cl.toInt64))), (.double (FP.l2d (ce.toInt64))), (.double (FP.l2d (hi.toInt64))), (.double (FP.l2d (lo.toInt64))), (.ref b21), (.ref b21)])) _
          have hS := own_G1 hG
          have Zs29 : n0 ≤ h21.size := Nat.le_trans Z0 KP22.1
          obtain ⟨_, _, ⟨T28, L28, k28, n28⟩, -, X28, ⟨Lc28, hQ28, l28, y28, z28⟩, st28⟩ := X21.specialBack hx (y := (⟨"com/example/adept_layout/adeptlayout/layout/SidePlaces", "<init>", "(DDDD)V"⟩ : MethodName)) rfl hown (mvT hZ (hw _ ow14)) (mvT hZ (hw _ ow15)) (mvT hZ (hw _ ow16)) (by decide) (backOf (W := 1) (own_ct l Z a0 hw [] b21 (lo.toInt64) (hi.toInt64) (ce.toInt64) (cl.toInt64) h21 n0 Zs29 A21 gn_b21 hS.1 hS.2.1 hS.2.2.1 hS.2.2.2 F23 F24 F25 F26 F27) hZ (hw _ ow16) (hw _ ow13) (by decide) (by decide)) (g := (mkF m 303 #[.val (.int i0), .val (.int i1), .val (.int i2), .val (.int i3), .val (.int i4), .val (.int i5), .val (.int lo), .val (.int len), .val (.int hi), .val (.int ce), .val (.int cl), .val (.int (own_imax lo (ce - cl))), .val (.int (own_imin hi (ce + cl))), .val (.int kp), .val (.int cf), .val (.int ct), .val (.int de), .val (.int kk), .val (.int pp), .val (.int (0 : Int32)), .val (.double (4517110426252607488 : UInt64)), .second, .val (.double (FP.dadd (FP.l2d (pp.toInt64)) (FP.dmul (FP.l2d (kk.toInt64)) (4517110426252607488 : UInt64)))), .second, .val (.long (((de.toInt64) * (1048576 : Int64)) + (kk.toInt64))), .second, .val (.int (1 : Int32)), .val (.int (pp + (ct - cf))), .val (.double (FP.dadd (FP.l2d ((pp + (ct - cf)).toInt64)) (FP.dmul (FP.l2d (kk.toInt64)) (4517110426252607488 : UInt64)))), .second, .unset] [(.double (FP.l2d (cl.toInt64))), (.double (FP.l2d (ce.toInt64))), (.double (FP.l2d (hi.toInt64))), (.double (FP.l2d (lo.toInt64))), (.ref b21), (.ref b21)])) rfl (by rw [hml]; rfl) (Steps.refl _) (a := b21) (argsL := [(.double (FP.l2d (lo.toInt64))), (.double (FP.l2d (hi.toInt64))), (.double (FP.l2d (ce.toInt64))), (.double (FP.l2d (cl.toInt64)))]) (rest := [(.ref b21)]) (lenOf own_law_pd1 rfl) rfl (by show 2 * 0 + _ ≤ _; exact Nat.le_of_eq rfl) (hb hby at_303) (fun _ _ => ⟨rfl, e21, (by decide : 1 + 0 ≤ _), (by decide : 5 + 0 ≤ _)⟩)
          dsimp only [Pt.U, Pt.locs, Pt.cells, Pt.slots] at X28 l28 y28 z28 st28 hQ28
          obtain rfl : k28 = 1 := y28
          obtain rfl : n28 = 5 := z28
          obtain ⟨ff, tt, rfl, N28q, R28, P30, P31, P32⟩ := hQ28
          have N28 : Fr n0 L28 := l28 ▸ Fr.app Nj N28q
          refine ownStep (fun _ k => st28.trans k) ?_
          have KP33 : Keep h0 T28.heap [] := KP22.trans R28 (allS (Or.inr gh_b21) all0)
          show ownGo p.tables e below (T28.setTop (mkF m 306 #[.val (.int i0), .val (.int i1), .val (.int i2), .val (.int i3), .val (.int i4), .val (.int i5), .val (.int lo), .val (.int len), .val (.int hi), .val (.int ce), .val (.int cl), .val (.int (own_imax lo (ce - cl))), .val (.int (own_imin hi (ce + cl))), .val (.int kp), .val (.int cf), .val (.int ct), .val (.int de), .val (.int kk), .val (.int pp), .val (.int (0 : Int32)), .val (.double (4517110426252607488 : UInt64)), .second, .val (.double (FP.dadd (FP.l2d (pp.toInt64)) (FP.dmul (FP.l2d (kk.toInt64)) (4517110426252607488 : UInt64)))), .second, .val (.long (((de.toInt64) * (1048576 : Int64)) + (kk.toInt64))), .second, .val (.int (1 : Int32)), .val (.int (pp + (ct - cf))), .val (.double (FP.dadd (FP.l2d ((pp + (ct - cf)).toInt64)) (FP.dmul (FP.l2d (kk.toInt64)) (4517110426252607488 : UInt64)))), .second, .unset] [(.ref b21)])) _
          obtain ⟨rfl, rfl⟩ := own_KK hK P32
          refine ownStep (fun _ k => XS.astore X28.here hx rfl (hb hby at_306) rfl rfl (l' := #[.val (.int i0), .val (.int i1), .val (.int i2), .val (.int i3), .val (.int i4), .val (.int i5), .val (.int lo), .val (.int len), .val (.int hi), .val (.int ce), .val (.int cl), .val (.int (own_imax lo (ce - cl))), .val (.int (own_imin hi (ce + cl))), .val (.int kp), .val (.int cf), .val (.int ct), .val (.int de), .val (.int kk), .val (.int pp), .val (.int (0 : Int32)), .val (.double (4517110426252607488 : UInt64)), .second, .val (.double (FP.dadd (FP.l2d (pp.toInt64)) (FP.dmul (FP.l2d (kk.toInt64)) (4517110426252607488 : UInt64)))), .second, .val (.long (((de.toInt64) * (1048576 : Int64)) + (kk.toInt64))), .second, .val (.int (1 : Int32)), .val (.int (pp + (ct - cf))), .val (.double (FP.dadd (FP.l2d ((pp + (ct - cf)).toInt64)) (FP.dmul (FP.l2d (kk.toInt64)) (4517110426252607488 : UInt64)))), .second, .val (.ref b21)]) rfl k) ?_
          refine ownStep (fun _ k => XS.aload X28.here hx rfl (hb hby at_308) rfl rfl k) ?_
          refine ownStep (fun _ k => XS.dload X28.here hx rfl (hb hby at_310) rfl k) ?_
          refine ownStep (fun _ k => XS.iload X28.here hx rfl (hb hby at_312) rfl  k) ?_
          show ownGo p.tables e below (T28.setTop (mkF m 314 #[.val (.int i0), .val (.int i1), .val (.int i2), .val (.int i3), .val (.int i4), .val (.int i5), .val (.int lo), .val (.int len), .val (.int hi), .val (.int ce), .val (.int cl), .val (.int (own_imax lo (ce - cl))), .val (.int (own_imin hi (ce + cl))), .val (.int kp), .val (.int cf), .val (.int ct), .val (.int de), .val (.int kk), .val (.int pp), .val (.int (0 : Int32)), .val (.double (4517110426252607488 : UInt64)), .second, .val (.double (FP.dadd (FP.l2d (pp.toInt64)) (FP.dmul (FP.l2d (kk.toInt64)) (4517110426252607488 : UInt64)))), .second, .val (.long (((de.toInt64) * (1048576 : Int64)) + (kk.toInt64))), .second, .val (.int (1 : Int32)), .val (.int (pp + (ct - cf))), .val (.double (FP.dadd (FP.l2d ((pp + (ct - cf)).toInt64)) (FP.dmul (FP.l2d (kk.toInt64)) (4517110426252607488 : UInt64)))), .second, .val (.ref b21)] [(.int (0 : Int32)), (.double (FP.dadd (FP.l2d (pp.toInt64)) (FP.dmul (FP.l2d (kk.toInt64)) (4517110426252607488 : UInt64)))), (.ref b21)])) _
          have hfx : Fin64 (FP.dadd (FP.l2d (pp.toInt64)) (FP.dmul (FP.l2d (kk.toInt64)) (4517110426252607488 : UInt64))) := fin64_core.mpr (own_zp (p := pp) (k := kk) (by omega) ⟨bk1, bk2⟩).1
          have Zs35 : n0 ≤ T28.heap.size := Nat.le_trans Z0 KP33.1
          have Q36 : Exa Z T28.heap b21 "com/example/adept_layout/adeptlayout/layout/SidePlaces" := (A21.keep R28)
          obtain ⟨cq34, kq34, q34a, q34b, q34c⟩ := isOf hZ rfl Q36
          obtain ⟨_, _, ⟨T34, L34, k34, n34⟩, -, X34, ⟨Lc34, hQ34, l34, y34, z34⟩, st34⟩ := X28.virtualBack hx (y := (⟨"com/example/adept_layout/adeptlayout/layout/SidePlaces", "position", "(DZ)D"⟩ : MethodName)) (z := (⟨"com/example/adept_layout/adeptlayout/layout/SidePlaces", "position", "(DZ)D"⟩ : MethodName)) hown (mvT hZ (hw _ ow36)) (mvT hZ (hw _ ow37)) (notFace_of_selects (args := #[]) (mvT hZ (hw _ ow39))) (mvT hZ (hw _ ow39)) (mvT hZ (hw _ ow38)) (by decide) (backOf (W := 0) (own_posW l Z a0 hw [] b21 (FP.dadd (FP.l2d (pp.toInt64)) (FP.dmul (FP.l2d (kk.toInt64)) (4517110426252607488 : UInt64))) (cf.toInt64) (ct.toInt64) (0 : Int32) T28.heap n0 Zs35 hfx P30 P31) hZ (hw _ ow40) (hw _ ow13) (by decide) (by decide)) q34a q34c (g := (mkF m 314 #[.val (.int i0), .val (.int i1), .val (.int i2), .val (.int i3), .val (.int i4), .val (.int i5), .val (.int lo), .val (.int len), .val (.int hi), .val (.int ce), .val (.int cl), .val (.int (own_imax lo (ce - cl))), .val (.int (own_imin hi (ce + cl))), .val (.int kp), .val (.int cf), .val (.int ct), .val (.int de), .val (.int kk), .val (.int pp), .val (.int (0 : Int32)), .val (.double (4517110426252607488 : UInt64)), .second, .val (.double (FP.dadd (FP.l2d (pp.toInt64)) (FP.dmul (FP.l2d (kk.toInt64)) (4517110426252607488 : UInt64)))), .second, .val (.long (((de.toInt64) * (1048576 : Int64)) + (kk.toInt64))), .second, .val (.int (1 : Int32)), .val (.int (pp + (ct - cf))), .val (.double (FP.dadd (FP.l2d ((pp + (ct - cf)).toInt64)) (FP.dmul (FP.l2d (kk.toInt64)) (4517110426252607488 : UInt64)))), .second, .val (.ref b21)] [(.int (0 : Int32)), (.double (FP.dadd (FP.l2d (pp.toInt64)) (FP.dmul (FP.l2d (kk.toInt64)) (4517110426252607488 : UInt64)))), (.ref b21)])) rfl (by rw [hml]; rfl) (Steps.refl _) (argsL := [(.double (FP.dadd (FP.l2d (pp.toInt64)) (FP.dmul (FP.l2d (kk.toInt64)) (4517110426252607488 : UInt64)))), (.int (0 : Int32))]) (rest := []) (lenOf own_law_pd2 rfl) rfl (by show 2 * 0 + _ ≤ _; exact Nat.le_of_eq rfl) (hb hby at_314) (fun _ _ => ⟨rfl, rfl, (by decide : 1 + 0 ≤ _), (by decide : 5 + 0 ≤ _)⟩)
          dsimp only [Pt.U, Pt.locs, Pt.cells, Pt.slots] at X34 l34 y34 z34 st34 hQ34
          obtain rfl : k34 = 1 := y34
          obtain rfl : n34 = 5 := z34
          obtain ⟨rfl, N34q, R34⟩ := hQ34
          have N34 : Fr n0 L34 := l34 ▸ Fr.app N28 N34q
          refine ownStep (fun _ k => st34.trans k) ?_
          refine ownStep (fun _ k => XS.dload X34.here hx rfl (hb hby at_317) rfl k) ?_
          refine ownStep (fun _ k => XS.dcmpS X34.here hx rfl (hb hby at_319) rfl rfl k) ?_
          refine ownStep (fun _ k => XS.ifNo X34.here hx rfl (hb hby at_320) rfl ((if0 _ _).trans (teq (own_fin hKB.1 hKB.2 hd ⟨bk1, bk2⟩ ep (by first | exact Or.inl ⟨rfl, hc245, rfl⟩ | exact Or.inr (Or.inl ⟨rfl, hc245, rfl⟩) | exact Or.inr (Or.inr (Or.inl ⟨by decide, hc228, rfl⟩)) | exact Or.inr (Or.inr (Or.inr ⟨by decide, hc228, rfl⟩))) : (cmpValue (FP.dcmp (own_pos (FP.dadd (FP.l2d (pp.toInt64)) (FP.dmul (FP.l2d (kk.toInt64)) (4517110426252607488 : UInt64))) (cf.toInt64) (ct.toInt64) (0 : Int32)) (FP.dadd (FP.l2d ((pp + (ct - cf)).toInt64)) (FP.dmul (FP.l2d (kk.toInt64)) (4517110426252607488 : UInt64)))) .l) = (0 : Int32))).2) k) ?_
          refine ownStep (fun _ k => XS.iconst X34.here hx rfl (hb hby at_323) k) ?_
          refine ownStep (fun _ k => XS.goto X34.here hx rfl (pc0 := 324) (pc' := 328) rfl (hb hby at_324) (by decide) (by decide) k) ?_
          show ownGo p.tables e below (T34.setTop (mkF m 328 #[.val (.int i0), .val (.int i1), .val (.int i2), .val (.int i3), .val (.int i4), .val (.int i5), .val (.int lo), .val (.int len), .val (.int hi), .val (.int ce), .val (.int cl), .val (.int (own_imax lo (ce - cl))), .val (.int (own_imin hi (ce + cl))), .val (.int kp), .val (.int cf), .val (.int ct), .val (.int de), .val (.int kk), .val (.int pp), .val (.int (0 : Int32)), .val (.double (4517110426252607488 : UInt64)), .second, .val (.double (FP.dadd (FP.l2d (pp.toInt64)) (FP.dmul (FP.l2d (kk.toInt64)) (4517110426252607488 : UInt64)))), .second, .val (.long (((de.toInt64) * (1048576 : Int64)) + (kk.toInt64))), .second, .val (.int (1 : Int32)), .val (.int (pp + (ct - cf))), .val (.double (FP.dadd (FP.l2d ((pp + (ct - cf)).toInt64)) (FP.dmul (FP.l2d (kk.toInt64)) (4517110426252607488 : UInt64)))), .second, .val (.ref b21)] [(.int (1 : Int32))])) _
          exact ownRet X34 (v := some (.int (1 : Int32))) Bd.notSynchronized (fun h => by rw [Bd.returns] at h; cases h) (fun _ hr => retN X34 hx (t := .boolean) Bd.returns (by simp) (hb hby at_328) hr) (by rw [R34]; exact ⟨rfl, N34, (own_extOf KP33)⟩) (by decide) (by decide)
      · skip
        refine ownStep (fun _ k => XS.ifNo Xj.here hx rfl (hb hby at_177) rfl ((if0 _ _).trans (feq (hc177 : ¬ (i5 &&& (1 : Int32)) = (0 : Int32))).1) k) ?_
        refine ownStep (fun _ k => XS.iconst Xj.here hx rfl (hb hby at_180) k) ?_
        refine ownStep (fun _ k => XS.goto Xj.here hx rfl (pc0 := 181) (pc' := 185) rfl (hb hby at_181) (by decide) (by decide) k) ?_
        refine ownStep (fun _ k => XS.istore Xj.here hx rfl (hb hby at_185) rfl (l' := #[.val (.int i0), .val (.int i1), .val (.int i2), .val (.int i3), .val (.int i4), .val (.int i5), .val (.int lo), .val (.int len), .val (.int hi), .val (.int ce), .val (.int cl), .val (.int (own_imax lo (ce - cl))), .val (.int (own_imin hi (ce + cl))), .val (.int kp), .val (.int cf), .val (.int ct), .val (.int de), .val (.int kk), .val (.int pp), .val (.int (1 : Int32)), .unset, .unset, .unset, .unset, .unset, .unset, .unset, .unset, .unset, .unset, .unset]) rfl k) ?_
        show ownGo p.tables e below (Tj.setTop (mkF m 187 #[.val (.int i0), .val (.int i1), .val (.int i2), .val (.int i3), .val (.int i4), .val (.int i5), .val (.int lo), .val (.int len), .val (.int hi), .val (.int ce), .val (.int cl), .val (.int (own_imax lo (ce - cl))), .val (.int (own_imin hi (ce + cl))), .val (.int kp), .val (.int cf), .val (.int ct), .val (.int de), .val (.int kk), .val (.int pp), .val (.int (1 : Int32)), .unset, .unset, .unset, .unset, .unset, .unset, .unset, .unset, .unset, .unset, .unset] [])) _
        refine ownStep (Xj.ldc2DoubleC hx hown (mvT hZ (hw _ ow8)) (g := (mkF m 187 #[.val (.int i0), .val (.int i1), .val (.int i2), .val (.int i3), .val (.int i4), .val (.int i5), .val (.int lo), .val (.int len), .val (.int hi), .val (.int ce), .val (.int cl), .val (.int (own_imax lo (ce - cl))), .val (.int (own_imin hi (ce + cl))), .val (.int kp), .val (.int cf), .val (.int ct), .val (.int de), .val (.int kk), .val (.int pp), .val (.int (1 : Int32)), .unset, .unset, .unset, .unset, .unset, .unset, .unset, .unset, .unset, .unset, .unset] [])) rfl (hb hby at_187)) ?_
        refine ownStep (fun _ k => XS.dstore Xj.here hx rfl (hb hby at_190) rfl (l' := #[.val (.int i0), .val (.int i1), .val (.int i2), .val (.int i3), .val (.int i4), .val (.int i5), .val (.int lo), .val (.int len), .val (.int hi), .val (.int ce), .val (.int cl), .val (.int (own_imax lo (ce - cl))), .val (.int (own_imin hi (ce + cl))), .val (.int kp), .val (.int cf), .val (.int ct), .val (.int de), .val (.int kk), .val (.int pp), .val (.int (1 : Int32)), .val (.double (4517110426252607488 : UInt64)), .second, .unset, .unset, .unset, .unset, .unset, .unset, .unset, .unset, .unset]) rfl k) ?_
        refine ownStep (fun _ k => XS.iload Xj.here hx rfl (hb hby at_192) rfl  k) ?_
        refine ownStep (fun _ k => XS.i2dS Xj.here hx rfl (hb hby at_194) rfl (i2d_w _) k) ?_
        refine ownStep (fun _ k => XS.iload Xj.here hx rfl (hb hby at_195) rfl  k) ?_
        refine ownStep (fun _ k => XS.i2dS Xj.here hx rfl (hb hby at_197) rfl (i2d_w _) k) ?_
        refine ownStep (fun _ k => XS.dload Xj.here hx rfl (hb hby at_198) rfl k) ?_
        refine ownStep (fun _ k => XS.dmulS Xj.here hx rfl (hb hby at_200) rfl (own_kn _) rfl k) ?_
        refine ownStep (fun _ k => XS.daddS Xj.here hx rfl (hb hby at_201) rfl (dadd_out (l2d_fin _).noNaN (own_kf ⟨bk1, bk2⟩)) rfl k) ?_
        refine ownStep (fun _ k => XS.dstore Xj.here hx rfl (hb hby at_202) rfl (l' := #[.val (.int i0), .val (.int i1), .val (.int i2), .val (.int i3), .val (.int i4), .val (.int i5), .val (.int lo), .val (.int len), .val (.int hi), .val (.int ce), .val (.int cl), .val (.int (own_imax lo (ce - cl))), .val (.int (own_imin hi (ce + cl))), .val (.int kp), .val (.int cf), .val (.int ct), .val (.int de), .val (.int kk), .val (.int pp), .val (.int (1 : Int32)), .val (.double (4517110426252607488 : UInt64)), .second, .val (.double (FP.dadd (FP.l2d (pp.toInt64)) (FP.dmul (FP.l2d (kk.toInt64)) (4517110426252607488 : UInt64)))), .second, .unset, .unset, .unset, .unset, .unset, .unset, .unset]) rfl k) ?_
        refine ownStep (fun _ k => XS.iload Xj.here hx rfl (hb hby at_204) rfl  k) ?_
        refine ownStep (fun _ k => XS.i2l Xj.here hx rfl (hb hby at_206) rfl k) ?_
        show ownGo p.tables e below (Tj.setTop (mkF m 207 #[.val (.int i0), .val (.int i1), .val (.int i2), .val (.int i3), .val (.int i4), .val (.int i5), .val (.int lo), .val (.int len), .val (.int hi), .val (.int ce), .val (.int cl), .val (.int (own_imax lo (ce - cl))), .val (.int (own_imin hi (ce + cl))), .val (.int kp), .val (.int cf), .val (.int ct), .val (.int de), .val (.int kk), .val (.int pp), .val (.int (1 : Int32)), .val (.double (4517110426252607488 : UInt64)), .second, .val (.double (FP.dadd (FP.l2d (pp.toInt64)) (FP.dmul (FP.l2d (kk.toInt64)) (4517110426252607488 : UInt64)))), .second, .unset, .unset, .unset, .unset, .unset, .unset, .unset] [(.long (de.toInt64))])) _
        refine ownStep (Xj.ldc2Long hx hown (mvT hZ (hw _ ow9)) (g := (mkF m 207 #[.val (.int i0), .val (.int i1), .val (.int i2), .val (.int i3), .val (.int i4), .val (.int i5), .val (.int lo), .val (.int len), .val (.int hi), .val (.int ce), .val (.int cl), .val (.int (own_imax lo (ce - cl))), .val (.int (own_imin hi (ce + cl))), .val (.int kp), .val (.int cf), .val (.int ct), .val (.int de), .val (.int kk), .val (.int pp), .val (.int (1 : Int32)), .val (.double (4517110426252607488 : UInt64)), .second, .val (.double (FP.dadd (FP.l2d (pp.toInt64)) (FP.dmul (FP.l2d (kk.toInt64)) (4517110426252607488 : UInt64)))), .second, .unset, .unset, .unset, .unset, .unset, .unset, .unset] [(.long (de.toInt64))])) rfl (hb hby at_207)) ?_
        refine ownStep (fun _ k => XS.lmul Xj.here hx rfl (hb hby at_210) rfl k) ?_
        refine ownStep (fun _ k => XS.iload Xj.here hx rfl (hb hby at_211) rfl  k) ?_
        refine ownStep (fun _ k => XS.i2l Xj.here hx rfl (hb hby at_213) rfl k) ?_
        refine ownStep (fun _ k => XS.ladd Xj.here hx rfl (hb hby at_214) rfl k) ?_
        refine ownStep (fun _ k => XS.lstore Xj.here hx rfl (hb hby at_215) rfl (l' := #[.val (.int i0), .val (.int i1), .val (.int i2), .val (.int i3), .val (.int i4), .val (.int i5), .val (.int lo), .val (.int len), .val (.int hi), .val (.int ce), .val (.int cl), .val (.int (own_imax lo (ce - cl))), .val (.int (own_imin hi (ce + cl))), .val (.int kp), .val (.int cf), .val (.int ct), .val (.int de), .val (.int kk), .val (.int pp), .val (.int (1 : Int32)), .val (.double (4517110426252607488 : UInt64)), .second, .val (.double (FP.dadd (FP.l2d (pp.toInt64)) (FP.dmul (FP.l2d (kk.toInt64)) (4517110426252607488 : UInt64)))), .second, .val (.long (((de.toInt64) * (1048576 : Int64)) + (kk.toInt64))), .second, .unset, .unset, .unset, .unset, .unset]) rfl k) ?_
        refine ownStep (fun _ k => XS.iload Xj.here hx rfl (hb hby at_217) rfl  k) ?_
        refine ownStep (fun _ k => XS.ifNo Xj.here hx rfl (hb hby at_219) rfl ((if0 _ _).trans (feq (by decide : ¬ (1 : Int32) = (0 : Int32))).1) k) ?_
        refine ownStep (fun _ k => XS.lload Xj.here hx rfl (hb hby at_222) rfl  k) ?_
        show ownGo p.tables e below (Tj.setTop (mkF m 224 #[.val (.int i0), .val (.int i1), .val (.int i2), .val (.int i3), .val (.int i4), .val (.int i5), .val (.int lo), .val (.int len), .val (.int hi), .val (.int ce), .val (.int cl), .val (.int (own_imax lo (ce - cl))), .val (.int (own_imin hi (ce + cl))), .val (.int kp), .val (.int cf), .val (.int ct), .val (.int de), .val (.int kk), .val (.int pp), .val (.int (1 : Int32)), .val (.double (4517110426252607488 : UInt64)), .second, .val (.double (FP.dadd (FP.l2d (pp.toInt64)) (FP.dmul (FP.l2d (kk.toInt64)) (4517110426252607488 : UInt64)))), .second, .val (.long (((de.toInt64) * (1048576 : Int64)) + (kk.toInt64))), .second, .unset, .unset, .unset, .unset, .unset] [(.long (((de.toInt64) * (1048576 : Int64)) + (kk.toInt64)))])) _
        refine ownStep (Xj.ldc2Long hx hown (mvT hZ (hw _ ow10)) (g := (mkF m 224 #[.val (.int i0), .val (.int i1), .val (.int i2), .val (.int i3), .val (.int i4), .val (.int i5), .val (.int lo), .val (.int len), .val (.int hi), .val (.int ce), .val (.int cl), .val (.int (own_imax lo (ce - cl))), .val (.int (own_imin hi (ce + cl))), .val (.int kp), .val (.int cf), .val (.int ct), .val (.int de), .val (.int kk), .val (.int pp), .val (.int (1 : Int32)), .val (.double (4517110426252607488 : UInt64)), .second, .val (.double (FP.dadd (FP.l2d (pp.toInt64)) (FP.dmul (FP.l2d (kk.toInt64)) (4517110426252607488 : UInt64)))), .second, .val (.long (((de.toInt64) * (1048576 : Int64)) + (kk.toInt64))), .second, .unset, .unset, .unset, .unset, .unset] [(.long (((de.toInt64) * (1048576 : Int64)) + (kk.toInt64)))])) rfl (hb hby at_224)) ?_
        refine ownStep (fun _ k => XS.lcmp Xj.here hx rfl (hb hby at_227) rfl k) ?_
        show ownGo p.tables e below (Tj.setTop (mkF m 228 #[.val (.int i0), .val (.int i1), .val (.int i2), .val (.int i3), .val (.int i4), .val (.int i5), .val (.int lo), .val (.int len), .val (.int hi), .val (.int ce), .val (.int cl), .val (.int (own_imax lo (ce - cl))), .val (.int (own_imin hi (ce + cl))), .val (.int kp), .val (.int cf), .val (.int ct), .val (.int de), .val (.int kk), .val (.int pp), .val (.int (1 : Int32)), .val (.double (4517110426252607488 : UInt64)), .second, .val (.double (FP.dadd (FP.l2d (pp.toInt64)) (FP.dmul (FP.l2d (kk.toInt64)) (4517110426252607488 : UInt64)))), .second, .val (.long (((de.toInt64) * (1048576 : Int64)) + (kk.toInt64))), .second, .unset, .unset, .unset, .unset, .unset] [(.int (lcmpW (((de.toInt64) * (1048576 : Int64)) + (kk.toInt64)) (-1 : Int64)))])) _
        by_cases hc228 : (lcmpW (((de.toInt64) * (1048576 : Int64)) + (kk.toInt64)) (-1 : Int64)) < (0 : Int32)
        · skip
          refine ownStep (fun _ k => XS.ifYes Xj.here hx rfl (pc0 := 228) (pc' := 235) rfl (hb hby at_228) rfl ((if0 _ _).trans (tlt (hc228 : (lcmpW (((de.toInt64) * (1048576 : Int64)) + (kk.toInt64)) (-1 : Int64)) < (0 : Int32))).1) (by decide) (by decide) k) ?_
          refine ownStep (fun _ k => XS.iconst Xj.here hx rfl (hb hby at_235) k) ?_
          refine ownStep (fun _ k => XS.goto Xj.here hx rfl (pc0 := 236) (pc' := 253) rfl (hb hby at_236) (by decide) (by decide) k) ?_
          refine ownStep (fun _ k => XS.istore Xj.here hx rfl (hb hby at_253) rfl (l' := #[.val (.int i0), .val (.int i1), .val (.int i2), .val (.int i3), .val (.int i4), .val (.int i5), .val (.int lo), .val (.int len), .val (.int hi), .val (.int ce), .val (.int cl), .val (.int (own_imax lo (ce - cl))), .val (.int (own_imin hi (ce + cl))), .val (.int kp), .val (.int cf), .val (.int ct), .val (.int de), .val (.int kk), .val (.int pp), .val (.int (1 : Int32)), .val (.double (4517110426252607488 : UInt64)), .second, .val (.double (FP.dadd (FP.l2d (pp.toInt64)) (FP.dmul (FP.l2d (kk.toInt64)) (4517110426252607488 : UInt64)))), .second, .val (.long (((de.toInt64) * (1048576 : Int64)) + (kk.toInt64))), .second, .val (.int (0 : Int32)), .unset, .unset, .unset, .unset]) rfl k) ?_
          refine ownStep (fun _ k => XS.iload Xj.here hx rfl (hb hby at_255) rfl  k) ?_
          refine ownStep (fun _ k => XS.ifYes Xj.here hx rfl (pc0 := 257) (pc' := 271) rfl (hb hby at_257) rfl ((if0 _ _).trans (teq (by decide : (0 : Int32) = (0 : Int32))).1) (by decide) (by decide) k) ?_
          refine ownStep (fun _ k => XS.iload Xj.here hx rfl (hb hby at_271) rfl  k) ?_
          refine ownStep (fun _ k => XS.istore Xj.here hx rfl (hb hby at_273) rfl (l' := #[.val (.int i0), .val (.int i1), .val (.int i2), .val (.int i3), .val (.int i4), .val (.int i5), .val (.int lo), .val (.int len), .val (.int hi), .val (.int ce), .val (.int cl), .val (.int (own_imax lo (ce - cl))), .val (.int (own_imin hi (ce + cl))), .val (.int kp), .val (.int cf), .val (.int ct), .val (.int de), .val (.int kk), .val (.int pp), .val (.int (1 : Int32)), .val (.double (4517110426252607488 : UInt64)), .second, .val (.double (FP.dadd (FP.l2d (pp.toInt64)) (FP.dmul (FP.l2d (kk.toInt64)) (4517110426252607488 : UInt64)))), .second, .val (.long (((de.toInt64) * (1048576 : Int64)) + (kk.toInt64))), .second, .val (.int (0 : Int32)), .val (.int pp), .unset, .unset, .unset]) rfl k) ?_
          refine ownStep (fun _ k => XS.iload Xj.here hx rfl (hb hby at_275) rfl  k) ?_
          refine ownStep (fun _ k => XS.i2dS Xj.here hx rfl (hb hby at_277) rfl (i2d_w _) k) ?_
          refine ownStep (fun _ k => XS.iload Xj.here hx rfl (hb hby at_278) rfl  k) ?_
          refine ownStep (fun _ k => XS.i2dS Xj.here hx rfl (hb hby at_280) rfl (i2d_w _) k) ?_
          refine ownStep (fun _ k => XS.dload Xj.here hx rfl (hb hby at_281) rfl k) ?_
          show ownGo p.tables e below (Tj.setTop (mkF m 283 #[.val (.int i0), .val (.int i1), .val (.int i2), .val (.int i3), .val (.int i4), .val (.int i5), .val (.int lo), .val (.int len), .val (.int hi), .val (.int ce), .val (.int cl), .val (.int (own_imax lo (ce - cl))), .val (.int (own_imin hi (ce + cl))), .val (.int kp), .val (.int cf), .val (.int ct), .val (.int de), .val (.int kk), .val (.int pp), .val (.int (1 : Int32)), .val (.double (4517110426252607488 : UInt64)), .second, .val (.double (FP.dadd (FP.l2d (pp.toInt64)) (FP.dmul (FP.l2d (kk.toInt64)) (4517110426252607488 : UInt64)))), .second, .val (.long (((de.toInt64) * (1048576 : Int64)) + (kk.toInt64))), .second, .val (.int (0 : Int32)), .val (.int pp), .unset, .unset, .unset] [(.double (4517110426252607488 : UInt64)), (.double (FP.l2d (kk.toInt64))), (.double (FP.l2d (pp.toInt64)))])) _
          refine ownStep (fun _ k => XS.dmulS Xj.here hx rfl (hb hby at_283) rfl (own_kn _) rfl k) ?_
          refine ownStep (fun _ k => XS.daddS Xj.here hx rfl (hb hby at_284) rfl (dadd_out (l2d_fin _).noNaN (own_kf ⟨bk1, bk2⟩)) rfl k) ?_
          refine ownStep (fun _ k => XS.dstore Xj.here hx rfl (hb hby at_285) rfl (l' := #[.val (.int i0), .val (.int i1), .val (.int i2), .val (.int i3), .val (.int i4), .val (.int i5), .val (.int lo), .val (.int len), .val (.int hi), .val (.int ce), .val (.int cl), .val (.int (own_imax lo (ce - cl))), .val (.int (own_imin hi (ce + cl))), .val (.int kp), .val (.int cf), .val (.int ct), .val (.int de), .val (.int kk), .val (.int pp), .val (.int (1 : Int32)), .val (.double (4517110426252607488 : UInt64)), .second, .val (.double (FP.dadd (FP.l2d (pp.toInt64)) (FP.dmul (FP.l2d (kk.toInt64)) (4517110426252607488 : UInt64)))), .second, .val (.long (((de.toInt64) * (1048576 : Int64)) + (kk.toInt64))), .second, .val (.int (0 : Int32)), .val (.int pp), .val (.double (FP.dadd (FP.l2d (pp.toInt64)) (FP.dmul (FP.l2d (kk.toInt64)) (4517110426252607488 : UInt64)))), .second, .unset]) rfl k) ?_
          show ownGo p.tables e below (Tj.setTop (mkF m 287 #[.val (.int i0), .val (.int i1), .val (.int i2), .val (.int i3), .val (.int i4), .val (.int i5), .val (.int lo), .val (.int len), .val (.int hi), .val (.int ce), .val (.int cl), .val (.int (own_imax lo (ce - cl))), .val (.int (own_imin hi (ce + cl))), .val (.int kp), .val (.int cf), .val (.int ct), .val (.int de), .val (.int kk), .val (.int pp), .val (.int (1 : Int32)), .val (.double (4517110426252607488 : UInt64)), .second, .val (.double (FP.dadd (FP.l2d (pp.toInt64)) (FP.dmul (FP.l2d (kk.toInt64)) (4517110426252607488 : UInt64)))), .second, .val (.long (((de.toInt64) * (1048576 : Int64)) + (kk.toInt64))), .second, .val (.int (0 : Int32)), .val (.int pp), .val (.double (FP.dadd (FP.l2d (pp.toInt64)) (FP.dmul (FP.l2d (kk.toInt64)) (4517110426252607488 : UInt64)))), .second, .unset] [])) _
          obtain ⟨T37, h37, X37, e37, E37, A37, D37, U37, st37⟩ := newO Xj hx hZ hown (hw _ ow11) (hw _ ow12) (hw _ ow13) ej (g := (mkF m 287 #[.val (.int i0), .val (.int i1), .val (.int i2), .val (.int i3), .val (.int i4), .val (.int i5), .val (.int lo), .val (.int len), .val (.int hi), .val (.int ce), .val (.int cl), .val (.int (own_imax lo (ce - cl))), .val (.int (own_imin hi (ce + cl))), .val (.int kp), .val (.int cf), .val (.int ct), .val (.int de), .val (.int kk), .val (.int pp), .val (.int (1 : Int32)), .val (.double (4517110426252607488 : UInt64)), .second, .val (.double (FP.dadd (FP.l2d (pp.toInt64)) (FP.dmul (FP.l2d (kk.toInt64)) (4517110426252607488 : UInt64)))), .second, .val (.long (((de.toInt64) * (1048576 : Int64)) + (kk.toInt64))), .second, .val (.int (0 : Int32)), .val (.int pp), .val (.double (FP.dadd (FP.l2d (pp.toInt64)) (FP.dmul (FP.l2d (kk.toInt64)) (4517110426252607488 : UInt64)))), .second, .unset] [])) rfl (hb hby at_287) (by decide) (by decide)
          obtain ⟨b37, g37⟩ : ∃ z, z = h0.size := ⟨_, rfl⟩
          rw [← g37] at A37 D37 U37 st37
          have gh_b37 : h0.size ≤ b37 := Nat.le_trans KP0.1 (Nat.le_of_eq g37.symm)
          have gn_b37 : n0 ≤ b37 := Nat.le_trans Z0 gh_b37
          have KP38 : Keep h0 h37 [] := KP0.ext E37
          have F39 : Fld Z h37 b37 "com/example/adept_layout/adeptlayout/layout/SidePlaces" "low" "D" (.double 0) := D37 (Or.inr (hw _ ow21)) (ty := .double) (by decide)
          have F40 : Fld Z h37 b37 "com/example/adept_layout/adeptlayout/layout/SidePlaces" "high" "D" (.double 0) := D37 (Or.inr (hw _ ow23)) (ty := .double) (by decide)
          have F41 : Fld Z h37 b37 "com/example/adept_layout/adeptlayout/layout/SidePlaces" "clearFrom" "D" (.double 0) := D37 (Or.inr (hw _ ow31)) (ty := .double) (by decide)
          have F42 : Fld Z h37 b37 "com/example/adept_layout/adeptlayout/layout/SidePlaces" "clearTo" "D" (.double 0) := D37 (Or.inr (hw _ ow33)) (ty := .double) (by decide)
          have F43 : Fld Z h37 b37 "com/example/adept_layout/adeptlayout/layout/SidePlaces" "length" "D" (.double 0) := D37 (Or.inr (hw _ ow35)) (ty := .double) (by decide)
          refine ownStep st37 ?_
          refine ownStep (fun _ k => XS.dup X37.here hx rfl (hb hby at_290) rfl rfl k) ?_
          refine ownStep (fun _ k => XS.iload X37.here hx rfl (hb hby at_291) rfl  k) ?_
          refine ownStep (fun _ k => XS.i2dS X37.here hx rfl (hb hby at_293) rfl (i2d_w _) k) ?_
          refine ownStep (fun _ k => XS.iload X37.here hx rfl (hb hby at_294) rfl  k) ?_
          refine ownStep (fun _ k => XS.i2dS X37.here hx rfl (hb hby at_296) rfl (i2d_w _) k) ?_
          refine ownStep (fun _ k => XS.iload X37.here hx rfl (hb hby at_297) rfl  k) ?_
          refine ownStep (fun _ k => XS.i2dS X37.here hx rfl (hb hby at_299) rfl (i2d_w _) k) ?_
          refine ownStep (fun _ k => XS.iload X37.here hx rfl (hb hby at_300) rfl  k) ?_
          refine ownStep (fun _ k => XS.i2dS X37.here hx rfl (hb hby at_302) rfl (i2d_w _) k) ?_
          show ownGo p.tables e below (T37.setTop (mkF m 303 #[.val (.int i0), .val (.int i1), .val (.int i2), .val (.int i3), .val (.int i4), .val (.int i5), .val (.int lo), .val (.int len), .val (.int hi), .val (.int ce), .val (.int cl), .val (.int (own_imax lo (ce - cl))), .val (.int (own_imin hi (ce + cl))), .val (.int kp), .val (.int cf), .val (.int ct), .val (.int de), .val (.int kk), .val (.int pp), .val (.int (1 : Int32)), .val (.double (4517110426252607488 : UInt64)), .second, .val (.double (FP.dadd (FP.l2d (pp.toInt64)) (FP.dmul (FP.l2d (kk.toInt64)) (4517110426252607488 : UInt64)))), .second, .val (.long (((de.toInt64) * (1048576 : Int64)) + (kk.toInt64))), .second, .val (.int (0 : Int32)), .val (.int pp), .val (.double (FP.dadd (FP.l2d (pp.toInt64)) (FP.dmul (FP.l2d (kk.toInt64)) (4517110426252607488 : UInt64)))), .second, .unset] [(.double (FP.l2d (cl.toInt64))), (.double (FP.l2d (ce.toInt64))), (.double (FP.l2d (hi.toInt64))), (.double (FP.l2d (lo.toInt64))), (.ref b37), (.ref b37)])) _
          have hS := own_G1 hG
          have Zs45 : n0 ≤ h37.size := Nat.le_trans Z0 KP38.1
          obtain ⟨_, _, ⟨T44, L44, k44, n44⟩, -, X44, ⟨Lc44, hQ44, l44, y44, z44⟩, st44⟩ := X37.specialBack hx (y := (⟨"com/example/adept_layout/adeptlayout/layout/SidePlaces", "<init>", "(DDDD)V"⟩ : MethodName)) rfl hown (mvT hZ (hw _ ow14)) (mvT hZ (hw _ ow15)) (mvT hZ (hw _ ow16)) (by decide) (backOf (W := 1) (own_ct l Z a0 hw [] b37 (lo.toInt64) (hi.toInt64) (ce.toInt64) (cl.toInt64) h37 n0 Zs45 A37 gn_b37 hS.1 hS.2.1 hS.2.2.1 hS.2.2.2 F39 F40 F41 F42 F43) hZ (hw _ ow16) (hw _ ow13) (by decide) (by decide)) (g := (mkF m 303 #[.val (.int i0), .val (.int i1), .val (.int i2), .val (.int i3), .val (.int i4), .val (.int i5), .val (.int lo), .val (.int len), .val (.int hi), .val (.int ce), .val (.int cl), .val (.int (own_imax lo (ce - cl))), .val (.int (own_imin hi (ce + cl))), .val (.int kp), .val (.int cf), .val (.int ct), .val (.int de), .val (.int kk), .val (.int pp), .val (.int (1 : Int32)), .val (.double (4517110426252607488 : UInt64)), .second, .val (.double (FP.dadd (FP.l2d (pp.toInt64)) (FP.dmul (FP.l2d (kk.toInt64)) (4517110426252607488 : UInt64)))), .second, .val (.long (((de.toInt64) * (1048576 : Int64)) + (kk.toInt64))), .second, .val (.int (0 : Int32)), .val (.int pp), .val (.double (FP.dadd (FP.l2d (pp.toInt64)) (FP.dmul (FP.l2d (kk.toInt64)) (4517110426252607488 : UInt64)))), .second, .unset] [(.double (FP.l2d (cl.toInt64))), (.double (FP.l2d (ce.toInt64))), (.double (FP.l2d (hi.toInt64))), (.double (FP.l2d (lo.toInt64))), (.ref b37), (.ref b37)])) rfl (by rw [hml]; rfl) (Steps.refl _) (a := b37) (argsL := [(.double (FP.l2d (lo.toInt64))), (.double (FP.l2d (hi.toInt64))), (.double (FP.l2d (ce.toInt64))), (.double (FP.l2d (cl.toInt64)))]) (rest := [(.ref b37)]) (lenOf own_law_pd1 rfl) rfl (by show 2 * 0 + _ ≤ _; exact Nat.le_of_eq rfl) (hb hby at_303) (fun _ _ => ⟨rfl, e37, (by decide : 1 + 0 ≤ _), (by decide : 5 + 0 ≤ _)⟩)
          dsimp only [Pt.U, Pt.locs, Pt.cells, Pt.slots] at X44 l44 y44 z44 st44 hQ44
          obtain rfl : k44 = 1 := y44
          obtain rfl : n44 = 5 := z44
          obtain ⟨ff, tt, rfl, N44q, R44, P46, P47, P48⟩ := hQ44
          have N44 : Fr n0 L44 := l44 ▸ Fr.app Nj N44q
          refine ownStep (fun _ k => st44.trans k) ?_
          have KP49 : Keep h0 T44.heap [] := KP38.trans R44 (allS (Or.inr gh_b37) all0)
          show ownGo p.tables e below (T44.setTop (mkF m 306 #[.val (.int i0), .val (.int i1), .val (.int i2), .val (.int i3), .val (.int i4), .val (.int i5), .val (.int lo), .val (.int len), .val (.int hi), .val (.int ce), .val (.int cl), .val (.int (own_imax lo (ce - cl))), .val (.int (own_imin hi (ce + cl))), .val (.int kp), .val (.int cf), .val (.int ct), .val (.int de), .val (.int kk), .val (.int pp), .val (.int (1 : Int32)), .val (.double (4517110426252607488 : UInt64)), .second, .val (.double (FP.dadd (FP.l2d (pp.toInt64)) (FP.dmul (FP.l2d (kk.toInt64)) (4517110426252607488 : UInt64)))), .second, .val (.long (((de.toInt64) * (1048576 : Int64)) + (kk.toInt64))), .second, .val (.int (0 : Int32)), .val (.int pp), .val (.double (FP.dadd (FP.l2d (pp.toInt64)) (FP.dmul (FP.l2d (kk.toInt64)) (4517110426252607488 : UInt64)))), .second, .unset] [(.ref b37)])) _
          obtain ⟨rfl, rfl⟩ := own_KK hK P48
          refine ownStep (fun _ k => XS.astore X44.here hx rfl (hb hby at_306) rfl rfl (l' := #[.val (.int i0), .val (.int i1), .val (.int i2), .val (.int i3), .val (.int i4), .val (.int i5), .val (.int lo), .val (.int len), .val (.int hi), .val (.int ce), .val (.int cl), .val (.int (own_imax lo (ce - cl))), .val (.int (own_imin hi (ce + cl))), .val (.int kp), .val (.int cf), .val (.int ct), .val (.int de), .val (.int kk), .val (.int pp), .val (.int (1 : Int32)), .val (.double (4517110426252607488 : UInt64)), .second, .val (.double (FP.dadd (FP.l2d (pp.toInt64)) (FP.dmul (FP.l2d (kk.toInt64)) (4517110426252607488 : UInt64)))), .second, .val (.long (((de.toInt64) * (1048576 : Int64)) + (kk.toInt64))), .second, .val (.int (0 : Int32)), .val (.int pp), .val (.double (FP.dadd (FP.l2d (pp.toInt64)) (FP.dmul (FP.l2d (kk.toInt64)) (4517110426252607488 : UInt64)))), .second, .val (.ref b37)]) rfl k) ?_
          refine ownStep (fun _ k => XS.aload X44.here hx rfl (hb hby at_308) rfl rfl k) ?_
          refine ownStep (fun _ k => XS.dload X44.here hx rfl (hb hby at_310) rfl k) ?_
          refine ownStep (fun _ k => XS.iload X44.here hx rfl (hb hby at_312) rfl  k) ?_
          show ownGo p.tables e below (T44.setTop (mkF m 314 #[.val (.int i0), .val (.int i1), .val (.int i2), .val (.int i3), .val (.int i4), .val (.int i5), .val (.int lo), .val (.int len), .val (.int hi), .val (.int ce), .val (.int cl), .val (.int (own_imax lo (ce - cl))), .val (.int (own_imin hi (ce + cl))), .val (.int kp), .val (.int cf), .val (.int ct), .val (.int de), .val (.int kk), .val (.int pp), .val (.int (1 : Int32)), .val (.double (4517110426252607488 : UInt64)), .second, .val (.double (FP.dadd (FP.l2d (pp.toInt64)) (FP.dmul (FP.l2d (kk.toInt64)) (4517110426252607488 : UInt64)))), .second, .val (.long (((de.toInt64) * (1048576 : Int64)) + (kk.toInt64))), .second, .val (.int (0 : Int32)), .val (.int pp), .val (.double (FP.dadd (FP.l2d (pp.toInt64)) (FP.dmul (FP.l2d (kk.toInt64)) (4517110426252607488 : UInt64)))), .second, .val (.ref b37)] [(.int (1 : Int32)), (.double (FP.dadd (FP.l2d (pp.toInt64)) (FP.dmul (FP.l2d (kk.toInt64)) (4517110426252607488 : UInt64)))), (.ref b37)])) _
          have hfx : Fin64 (FP.dadd (FP.l2d (pp.toInt64)) (FP.dmul (FP.l2d (kk.toInt64)) (4517110426252607488 : UInt64))) := fin64_core.mpr (own_zp (p := pp) (k := kk) (by omega) ⟨bk1, bk2⟩).1
          have Zs51 : n0 ≤ T44.heap.size := Nat.le_trans Z0 KP49.1
          have Q52 : Exa Z T44.heap b37 "com/example/adept_layout/adeptlayout/layout/SidePlaces" := (A37.keep R44)
          obtain ⟨cq50, kq50, q50a, q50b, q50c⟩ := isOf hZ rfl Q52
          obtain ⟨_, _, ⟨T50, L50, k50, n50⟩, -, X50, ⟨Lc50, hQ50, l50, y50, z50⟩, st50⟩ := X44.virtualBack hx (y := (⟨"com/example/adept_layout/adeptlayout/layout/SidePlaces", "position", "(DZ)D"⟩ : MethodName)) (z := (⟨"com/example/adept_layout/adeptlayout/layout/SidePlaces", "position", "(DZ)D"⟩ : MethodName)) hown (mvT hZ (hw _ ow36)) (mvT hZ (hw _ ow37)) (notFace_of_selects (args := #[]) (mvT hZ (hw _ ow39))) (mvT hZ (hw _ ow39)) (mvT hZ (hw _ ow38)) (by decide) (backOf (W := 0) (own_posW l Z a0 hw [] b37 (FP.dadd (FP.l2d (pp.toInt64)) (FP.dmul (FP.l2d (kk.toInt64)) (4517110426252607488 : UInt64))) (cf.toInt64) (ct.toInt64) (1 : Int32) T44.heap n0 Zs51 hfx P46 P47) hZ (hw _ ow40) (hw _ ow13) (by decide) (by decide)) q50a q50c (g := (mkF m 314 #[.val (.int i0), .val (.int i1), .val (.int i2), .val (.int i3), .val (.int i4), .val (.int i5), .val (.int lo), .val (.int len), .val (.int hi), .val (.int ce), .val (.int cl), .val (.int (own_imax lo (ce - cl))), .val (.int (own_imin hi (ce + cl))), .val (.int kp), .val (.int cf), .val (.int ct), .val (.int de), .val (.int kk), .val (.int pp), .val (.int (1 : Int32)), .val (.double (4517110426252607488 : UInt64)), .second, .val (.double (FP.dadd (FP.l2d (pp.toInt64)) (FP.dmul (FP.l2d (kk.toInt64)) (4517110426252607488 : UInt64)))), .second, .val (.long (((de.toInt64) * (1048576 : Int64)) + (kk.toInt64))), .second, .val (.int (0 : Int32)), .val (.int pp), .val (.double (FP.dadd (FP.l2d (pp.toInt64)) (FP.dmul (FP.l2d (kk.toInt64)) (4517110426252607488 : UInt64)))), .second, .val (.ref b37)] [(.int (1 : Int32)), (.double (FP.dadd (FP.l2d (pp.toInt64)) (FP.dmul (FP.l2d (kk.toInt64)) (4517110426252607488 : UInt64)))), (.ref b37)])) rfl (by rw [hml]; rfl) (Steps.refl _) (argsL := [(.double (FP.dadd (FP.l2d (pp.toInt64)) (FP.dmul (FP.l2d (kk.toInt64)) (4517110426252607488 : UInt64)))), (.int (1 : Int32))]) (rest := []) (lenOf own_law_pd2 rfl) rfl (by show 2 * 0 + _ ≤ _; exact Nat.le_of_eq rfl) (hb hby at_314) (fun _ _ => ⟨rfl, rfl, (by decide : 1 + 0 ≤ _), (by decide : 5 + 0 ≤ _)⟩)
          dsimp only [Pt.U, Pt.locs, Pt.cells, Pt.slots] at X50 l50 y50 z50 st50 hQ50
          obtain rfl : k50 = 1 := y50
          obtain rfl : n50 = 5 := z50
          obtain ⟨rfl, N50q, R50⟩ := hQ50
          have N50 : Fr n0 L50 := l50 ▸ Fr.app N44 N50q
          refine ownStep (fun _ k => st50.trans k) ?_
          refine ownStep (fun _ k => XS.dload X50.here hx rfl (hb hby at_317) rfl k) ?_
          refine ownStep (fun _ k => XS.dcmpS X50.here hx rfl (hb hby at_319) rfl rfl k) ?_
          refine ownStep (fun _ k => XS.ifNo X50.here hx rfl (hb hby at_320) rfl ((if0 _ _).trans (teq (own_fin hKB.1 hKB.2 hd ⟨bk1, bk2⟩ ep (by first | exact Or.inl ⟨rfl, hc245, rfl⟩ | exact Or.inr (Or.inl ⟨rfl, hc245, rfl⟩) | exact Or.inr (Or.inr (Or.inl ⟨by decide, hc228, rfl⟩)) | exact Or.inr (Or.inr (Or.inr ⟨by decide, hc228, rfl⟩))) : (cmpValue (FP.dcmp (own_pos (FP.dadd (FP.l2d (pp.toInt64)) (FP.dmul (FP.l2d (kk.toInt64)) (4517110426252607488 : UInt64))) (cf.toInt64) (ct.toInt64) (1 : Int32)) (FP.dadd (FP.l2d (pp.toInt64)) (FP.dmul (FP.l2d (kk.toInt64)) (4517110426252607488 : UInt64)))) .l) = (0 : Int32))).2) k) ?_
          refine ownStep (fun _ k => XS.iconst X50.here hx rfl (hb hby at_323) k) ?_
          refine ownStep (fun _ k => XS.goto X50.here hx rfl (pc0 := 324) (pc' := 328) rfl (hb hby at_324) (by decide) (by decide) k) ?_
          show ownGo p.tables e below (T50.setTop (mkF m 328 #[.val (.int i0), .val (.int i1), .val (.int i2), .val (.int i3), .val (.int i4), .val (.int i5), .val (.int lo), .val (.int len), .val (.int hi), .val (.int ce), .val (.int cl), .val (.int (own_imax lo (ce - cl))), .val (.int (own_imin hi (ce + cl))), .val (.int kp), .val (.int cf), .val (.int ct), .val (.int de), .val (.int kk), .val (.int pp), .val (.int (1 : Int32)), .val (.double (4517110426252607488 : UInt64)), .second, .val (.double (FP.dadd (FP.l2d (pp.toInt64)) (FP.dmul (FP.l2d (kk.toInt64)) (4517110426252607488 : UInt64)))), .second, .val (.long (((de.toInt64) * (1048576 : Int64)) + (kk.toInt64))), .second, .val (.int (0 : Int32)), .val (.int pp), .val (.double (FP.dadd (FP.l2d (pp.toInt64)) (FP.dmul (FP.l2d (kk.toInt64)) (4517110426252607488 : UInt64)))), .second, .val (.ref b37)] [(.int (1 : Int32))])) _
          exact ownRet X50 (v := some (.int (1 : Int32))) Bd.notSynchronized (fun h => by rw [Bd.returns] at h; cases h) (fun _ hr => retN X50 hx (t := .boolean) Bd.returns (by simp) (hb hby at_328) hr) (by rw [R50]; exact ⟨rfl, N50, (own_extOf KP49)⟩) (by decide) (by decide)
        · skip
          refine ownStep (fun _ k => XS.ifNo Xj.here hx rfl (hb hby at_228) rfl ((if0 _ _).trans (flt (hc228 : ¬ (lcmpW (((de.toInt64) * (1048576 : Int64)) + (kk.toInt64)) (-1 : Int64)) < (0 : Int32))).1) k) ?_
          refine ownStep (fun _ k => XS.iconst Xj.here hx rfl (hb hby at_231) k) ?_
          refine ownStep (fun _ k => XS.goto Xj.here hx rfl (pc0 := 232) (pc' := 253) rfl (hb hby at_232) (by decide) (by decide) k) ?_
          refine ownStep (fun _ k => XS.istore Xj.here hx rfl (hb hby at_253) rfl (l' := #[.val (.int i0), .val (.int i1), .val (.int i2), .val (.int i3), .val (.int i4), .val (.int i5), .val (.int lo), .val (.int len), .val (.int hi), .val (.int ce), .val (.int cl), .val (.int (own_imax lo (ce - cl))), .val (.int (own_imin hi (ce + cl))), .val (.int kp), .val (.int cf), .val (.int ct), .val (.int de), .val (.int kk), .val (.int pp), .val (.int (1 : Int32)), .val (.double (4517110426252607488 : UInt64)), .second, .val (.double (FP.dadd (FP.l2d (pp.toInt64)) (FP.dmul (FP.l2d (kk.toInt64)) (4517110426252607488 : UInt64)))), .second, .val (.long (((de.toInt64) * (1048576 : Int64)) + (kk.toInt64))), .second, .val (.int (1 : Int32)), .unset, .unset, .unset, .unset]) rfl k) ?_
          refine ownStep (fun _ k => XS.iload Xj.here hx rfl (hb hby at_255) rfl  k) ?_
          refine ownStep (fun _ k => XS.ifNo Xj.here hx rfl (hb hby at_257) rfl ((if0 _ _).trans (feq (by decide : ¬ (1 : Int32) = (0 : Int32))).1) k) ?_
          refine ownStep (fun _ k => XS.iload Xj.here hx rfl (hb hby at_260) rfl  k) ?_
          refine ownStep (fun _ k => XS.iload Xj.here hx rfl (hb hby at_262) rfl  k) ?_
          refine ownStep (fun _ k => XS.iload Xj.here hx rfl (hb hby at_264) rfl  k) ?_
          refine ownStep (fun _ k => XS.isub Xj.here hx rfl (hb hby at_266) rfl k) ?_
          refine ownStep (fun _ k => XS.iadd Xj.here hx rfl (hb hby at_267) rfl k) ?_
          refine ownStep (fun _ k => XS.goto Xj.here hx rfl (pc0 := 268) (pc' := 273) rfl (hb hby at_268) (by decide) (by decide) k) ?_
          refine ownStep (fun _ k => XS.istore Xj.here hx rfl (hb hby at_273) rfl (l' := #[.val (.int i0), .val (.int i1), .val (.int i2), .val (.int i3), .val (.int i4), .val (.int i5), .val (.int lo), .val (.int len), .val (.int hi), .val (.int ce), .val (.int cl), .val (.int (own_imax lo (ce - cl))), .val (.int (own_imin hi (ce + cl))), .val (.int kp), .val (.int cf), .val (.int ct), .val (.int de), .val (.int kk), .val (.int pp), .val (.int (1 : Int32)), .val (.double (4517110426252607488 : UInt64)), .second, .val (.double (FP.dadd (FP.l2d (pp.toInt64)) (FP.dmul (FP.l2d (kk.toInt64)) (4517110426252607488 : UInt64)))), .second, .val (.long (((de.toInt64) * (1048576 : Int64)) + (kk.toInt64))), .second, .val (.int (1 : Int32)), .val (.int (pp + (ct - cf))), .unset, .unset, .unset]) rfl k) ?_
          show ownGo p.tables e below (Tj.setTop (mkF m 275 #[.val (.int i0), .val (.int i1), .val (.int i2), .val (.int i3), .val (.int i4), .val (.int i5), .val (.int lo), .val (.int len), .val (.int hi), .val (.int ce), .val (.int cl), .val (.int (own_imax lo (ce - cl))), .val (.int (own_imin hi (ce + cl))), .val (.int kp), .val (.int cf), .val (.int ct), .val (.int de), .val (.int kk), .val (.int pp), .val (.int (1 : Int32)), .val (.double (4517110426252607488 : UInt64)), .second, .val (.double (FP.dadd (FP.l2d (pp.toInt64)) (FP.dmul (FP.l2d (kk.toInt64)) (4517110426252607488 : UInt64)))), .second, .val (.long (((de.toInt64) * (1048576 : Int64)) + (kk.toInt64))), .second, .val (.int (1 : Int32)), .val (.int (pp + (ct - cf))), .unset, .unset, .unset] [])) _
          refine ownStep (fun _ k => XS.iload Xj.here hx rfl (hb hby at_275) rfl  k) ?_
          refine ownStep (fun _ k => XS.i2dS Xj.here hx rfl (hb hby at_277) rfl (i2d_w _) k) ?_
          refine ownStep (fun _ k => XS.iload Xj.here hx rfl (hb hby at_278) rfl  k) ?_
          refine ownStep (fun _ k => XS.i2dS Xj.here hx rfl (hb hby at_280) rfl (i2d_w _) k) ?_
          refine ownStep (fun _ k => XS.dload Xj.here hx rfl (hb hby at_281) rfl k) ?_
          refine ownStep (fun _ k => XS.dmulS Xj.here hx rfl (hb hby at_283) rfl (own_kn _) rfl k) ?_
          refine ownStep (fun _ k => XS.daddS Xj.here hx rfl (hb hby at_284) rfl (dadd_out (l2d_fin _).noNaN (own_kf ⟨bk1, bk2⟩)) rfl k) ?_
          refine ownStep (fun _ k => XS.dstore Xj.here hx rfl (hb hby at_285) rfl (l' := #[.val (.int i0), .val (.int i1), .val (.int i2), .val (.int i3), .val (.int i4), .val (.int i5), .val (.int lo), .val (.int len), .val (.int hi), .val (.int ce), .val (.int cl), .val (.int (own_imax lo (ce - cl))), .val (.int (own_imin hi (ce + cl))), .val (.int kp), .val (.int cf), .val (.int ct), .val (.int de), .val (.int kk), .val (.int pp), .val (.int (1 : Int32)), .val (.double (4517110426252607488 : UInt64)), .second, .val (.double (FP.dadd (FP.l2d (pp.toInt64)) (FP.dmul (FP.l2d (kk.toInt64)) (4517110426252607488 : UInt64)))), .second, .val (.long (((de.toInt64) * (1048576 : Int64)) + (kk.toInt64))), .second, .val (.int (1 : Int32)), .val (.int (pp + (ct - cf))), .val (.double (FP.dadd (FP.l2d ((pp + (ct - cf)).toInt64)) (FP.dmul (FP.l2d (kk.toInt64)) (4517110426252607488 : UInt64)))), .second, .unset]) rfl k) ?_
          show ownGo p.tables e below (Tj.setTop (mkF m 287 #[.val (.int i0), .val (.int i1), .val (.int i2), .val (.int i3), .val (.int i4), .val (.int i5), .val (.int lo), .val (.int len), .val (.int hi), .val (.int ce), .val (.int cl), .val (.int (own_imax lo (ce - cl))), .val (.int (own_imin hi (ce + cl))), .val (.int kp), .val (.int cf), .val (.int ct), .val (.int de), .val (.int kk), .val (.int pp), .val (.int (1 : Int32)), .val (.double (4517110426252607488 : UInt64)), .second, .val (.double (FP.dadd (FP.l2d (pp.toInt64)) (FP.dmul (FP.l2d (kk.toInt64)) (4517110426252607488 : UInt64)))), .second, .val (.long (((de.toInt64) * (1048576 : Int64)) + (kk.toInt64))), .second, .val (.int (1 : Int32)), .val (.int (pp + (ct - cf))), .val (.double (FP.dadd (FP.l2d ((pp + (ct - cf)).toInt64)) (FP.dmul (FP.l2d (kk.toInt64)) (4517110426252607488 : UInt64)))), .second, .unset] [])) _
          obtain ⟨T53, h53, X53, e53, E53, A53, D53, U53, st53⟩ := newO Xj hx hZ hown (hw _ ow11) (hw _ ow12) (hw _ ow13) ej (g := (mkF m 287 #[.val (.int i0), .val (.int i1), .val (.int i2), .val (.int i3), .val (.int i4), .val (.int i5), .val (.int lo), .val (.int len), .val (.int hi), .val (.int ce), .val (.int cl), .val (.int (own_imax lo (ce - cl))), .val (.int (own_imin hi (ce + cl))), .val (.int kp), .val (.int cf), .val (.int ct), .val (.int de), .val (.int kk), .val (.int pp), .val (.int (1 : Int32)), .val (.double (4517110426252607488 : UInt64)), .second, .val (.double (FP.dadd (FP.l2d (pp.toInt64)) (FP.dmul (FP.l2d (kk.toInt64)) (4517110426252607488 : UInt64)))), .second, .val (.long (((de.toInt64) * (1048576 : Int64)) + (kk.toInt64))), .second, .val (.int (1 : Int32)), .val (.int (pp + (ct - cf))), .val (.double (FP.dadd (FP.l2d ((pp + (ct - cf)).toInt64)) (FP.dmul (FP.l2d (kk.toInt64)) (4517110426252607488 : UInt64)))), .second, .unset] [])) rfl (hb hby at_287) (by decide) (by decide)
          obtain ⟨b53, g53⟩ : ∃ z, z = h0.size := ⟨_, rfl⟩
          rw [← g53] at A53 D53 U53 st53
          have gh_b53 : h0.size ≤ b53 := Nat.le_trans KP0.1 (Nat.le_of_eq g53.symm)
          have gn_b53 : n0 ≤ b53 := Nat.le_trans Z0 gh_b53
          have KP54 : Keep h0 h53 [] := KP0.ext E53
          have F55 : Fld Z h53 b53 "com/example/adept_layout/adeptlayout/layout/SidePlaces" "low" "D" (.double 0) := D53 (Or.inr (hw _ ow21)) (ty := .double) (by decide)
          have F56 : Fld Z h53 b53 "com/example/adept_layout/adeptlayout/layout/SidePlaces" "high" "D" (.double 0) := D53 (Or.inr (hw _ ow23)) (ty := .double) (by decide)
          have F57 : Fld Z h53 b53 "com/example/adept_layout/adeptlayout/layout/SidePlaces" "clearFrom" "D" (.double 0) := D53 (Or.inr (hw _ ow31)) (ty := .double) (by decide)
          have F58 : Fld Z h53 b53 "com/example/adept_layout/adeptlayout/layout/SidePlaces" "clearTo" "D" (.double 0) := D53 (Or.inr (hw _ ow33)) (ty := .double) (by decide)
          have F59 : Fld Z h53 b53 "com/example/adept_layout/adeptlayout/layout/SidePlaces" "length" "D" (.double 0) := D53 (Or.inr (hw _ ow35)) (ty := .double) (by decide)
          refine ownStep st53 ?_
          refine ownStep (fun _ k => XS.dup X53.here hx rfl (hb hby at_290) rfl rfl k) ?_
          refine ownStep (fun _ k => XS.iload X53.here hx rfl (hb hby at_291) rfl  k) ?_
          refine ownStep (fun _ k => XS.i2dS X53.here hx rfl (hb hby at_293) rfl (i2d_w _) k) ?_
          refine ownStep (fun _ k => XS.iload X53.here hx rfl (hb hby at_294) rfl  k) ?_
          refine ownStep (fun _ k => XS.i2dS X53.here hx rfl (hb hby at_296) rfl (i2d_w _) k) ?_
          refine ownStep (fun _ k => XS.iload X53.here hx rfl (hb hby at_297) rfl  k) ?_
          refine ownStep (fun _ k => XS.i2dS X53.here hx rfl (hb hby at_299) rfl (i2d_w _) k) ?_
          refine ownStep (fun _ k => XS.iload X53.here hx rfl (hb hby at_300) rfl  k) ?_
          refine ownStep (fun _ k => XS.i2dS X53.here hx rfl (hb hby at_302) rfl (i2d_w _) k) ?_
          show ownGo p.tables e below (T53.setTop (mkF m 303 #[.val (.int i0), .val (.int i1), .val (.int i2), .val (.int i3), .val (.int i4), .val (.int i5), .val (.int lo), .val (.int len), .val (.int hi), .val (.int ce), .val (.int cl), .val (.int (own_imax lo (ce - cl))), .val (.int (own_imin hi (ce + cl))), .val (.int kp), .val (.int cf), .val (.int ct), .val (.int de), .val (.int kk), .val (.int pp), .val (.int (1 : Int32)), .val (.double (4517110426252607488 : UInt64)), .second, .val (.double (FP.dadd (FP.l2d (pp.toInt64)) (FP.dmul (FP.l2d (kk.toInt64)) (4517110426252607488 : UInt64)))), .second, .val (.long (((de.toInt64) * (1048576 : Int64)) + (kk.toInt64))), .second, .val (.int (1 : Int32)), .val (.int (pp + (ct - cf))), .val (.double (FP.dadd (FP.l2d ((pp + (ct - cf)).toInt64)) (FP.dmul (FP.l2d (kk.toInt64)) (4517110426252607488 : UInt64)))), .second, .unset] [(.double (FP.l2d (cl.toInt64))), (.double (FP.l2d (ce.toInt64))), (.double (FP.l2d (hi.toInt64))), (.double (FP.l2d (lo.toInt64))), (.ref b53), (.ref b53)])) _
          have hS := own_G1 hG
          have Zs61 : n0 ≤ h53.size := Nat.le_trans Z0 KP54.1
          obtain ⟨_, _, ⟨T60, L60, k60, n60⟩, -, X60, ⟨Lc60, hQ60, l60, y60, z60⟩, st60⟩ := X53.specialBack hx (y := (⟨"com/example/adept_layout/adeptlayout/layout/SidePlaces", "<init>", "(DDDD)V"⟩ : MethodName)) rfl hown (mvT hZ (hw _ ow14)) (mvT hZ (hw _ ow15)) (mvT hZ (hw _ ow16)) (by decide) (backOf (W := 1) (own_ct l Z a0 hw [] b53 (lo.toInt64) (hi.toInt64) (ce.toInt64) (cl.toInt64) h53 n0 Zs61 A53 gn_b53 hS.1 hS.2.1 hS.2.2.1 hS.2.2.2 F55 F56 F57 F58 F59) hZ (hw _ ow16) (hw _ ow13) (by decide) (by decide)) (g := (mkF m 303 #[.val (.int i0), .val (.int i1), .val (.int i2), .val (.int i3), .val (.int i4), .val (.int i5), .val (.int lo), .val (.int len), .val (.int hi), .val (.int ce), .val (.int cl), .val (.int (own_imax lo (ce - cl))), .val (.int (own_imin hi (ce + cl))), .val (.int kp), .val (.int cf), .val (.int ct), .val (.int de), .val (.int kk), .val (.int pp), .val (.int (1 : Int32)), .val (.double (4517110426252607488 : UInt64)), .second, .val (.double (FP.dadd (FP.l2d (pp.toInt64)) (FP.dmul (FP.l2d (kk.toInt64)) (4517110426252607488 : UInt64)))), .second, .val (.long (((de.toInt64) * (1048576 : Int64)) + (kk.toInt64))), .second, .val (.int (1 : Int32)), .val (.int (pp + (ct - cf))), .val (.double (FP.dadd (FP.l2d ((pp + (ct - cf)).toInt64)) (FP.dmul (FP.l2d (kk.toInt64)) (4517110426252607488 : UInt64)))), .second, .unset] [(.double (FP.l2d (cl.toInt64))), (.double (FP.l2d (ce.toInt64))), (.double (FP.l2d (hi.toInt64))), (.double (FP.l2d (lo.toInt64))), (.ref b53), (.ref b53)])) rfl (by rw [hml]; rfl) (Steps.refl _) (a := b53) (argsL := [(.double (FP.l2d (lo.toInt64))), (.double (FP.l2d (hi.toInt64))), (.double (FP.l2d (ce.toInt64))), (.double (FP.l2d (cl.toInt64)))]) (rest := [(.ref b53)]) (lenOf own_law_pd1 rfl) rfl (by show 2 * 0 + _ ≤ _; exact Nat.le_of_eq rfl) (hb hby at_303) (fun _ _ => ⟨rfl, e53, (by decide : 1 + 0 ≤ _), (by decide : 5 + 0 ≤ _)⟩)
          dsimp only [Pt.U, Pt.locs, Pt.cells, Pt.slots] at X60 l60 y60 z60 st60 hQ60
          obtain rfl : k60 = 1 := y60
          obtain rfl : n60 = 5 := z60
          obtain ⟨ff, tt, rfl, N60q, R60, P62, P63, P64⟩ := hQ60
          have N60 : Fr n0 L60 := l60 ▸ Fr.app Nj N60q
          refine ownStep (fun _ k => st60.trans k) ?_
          have KP65 : Keep h0 T60.heap [] := KP54.trans R60 (allS (Or.inr gh_b53) all0)
          show ownGo p.tables e below (T60.setTop (mkF m 306 #[.val (.int i0), .val (.int i1), .val (.int i2), .val (.int i3), .val (.int i4), .val (.int i5), .val (.int lo), .val (.int len), .val (.int hi), .val (.int ce), .val (.int cl), .val (.int (own_imax lo (ce - cl))), .val (.int (own_imin hi (ce + cl))), .val (.int kp), .val (.int cf), .val (.int ct), .val (.int de), .val (.int kk), .val (.int pp), .val (.int (1 : Int32)), .val (.double (4517110426252607488 : UInt64)), .second, .val (.double (FP.dadd (FP.l2d (pp.toInt64)) (FP.dmul (FP.l2d (kk.toInt64)) (4517110426252607488 : UInt64)))), .second, .val (.long (((de.toInt64) * (1048576 : Int64)) + (kk.toInt64))), .second, .val (.int (1 : Int32)), .val (.int (pp + (ct - cf))), .val (.double (FP.dadd (FP.l2d ((pp + (ct - cf)).toInt64)) (FP.dmul (FP.l2d (kk.toInt64)) (4517110426252607488 : UInt64)))), .second, .unset] [(.ref b53)])) _
          obtain ⟨rfl, rfl⟩ := own_KK hK P64
          refine ownStep (fun _ k => XS.astore X60.here hx rfl (hb hby at_306) rfl rfl (l' := #[.val (.int i0), .val (.int i1), .val (.int i2), .val (.int i3), .val (.int i4), .val (.int i5), .val (.int lo), .val (.int len), .val (.int hi), .val (.int ce), .val (.int cl), .val (.int (own_imax lo (ce - cl))), .val (.int (own_imin hi (ce + cl))), .val (.int kp), .val (.int cf), .val (.int ct), .val (.int de), .val (.int kk), .val (.int pp), .val (.int (1 : Int32)), .val (.double (4517110426252607488 : UInt64)), .second, .val (.double (FP.dadd (FP.l2d (pp.toInt64)) (FP.dmul (FP.l2d (kk.toInt64)) (4517110426252607488 : UInt64)))), .second, .val (.long (((de.toInt64) * (1048576 : Int64)) + (kk.toInt64))), .second, .val (.int (1 : Int32)), .val (.int (pp + (ct - cf))), .val (.double (FP.dadd (FP.l2d ((pp + (ct - cf)).toInt64)) (FP.dmul (FP.l2d (kk.toInt64)) (4517110426252607488 : UInt64)))), .second, .val (.ref b53)]) rfl k) ?_
          refine ownStep (fun _ k => XS.aload X60.here hx rfl (hb hby at_308) rfl rfl k) ?_
          refine ownStep (fun _ k => XS.dload X60.here hx rfl (hb hby at_310) rfl k) ?_
          refine ownStep (fun _ k => XS.iload X60.here hx rfl (hb hby at_312) rfl  k) ?_
          show ownGo p.tables e below (T60.setTop (mkF m 314 #[.val (.int i0), .val (.int i1), .val (.int i2), .val (.int i3), .val (.int i4), .val (.int i5), .val (.int lo), .val (.int len), .val (.int hi), .val (.int ce), .val (.int cl), .val (.int (own_imax lo (ce - cl))), .val (.int (own_imin hi (ce + cl))), .val (.int kp), .val (.int cf), .val (.int ct), .val (.int de), .val (.int kk), .val (.int pp), .val (.int (1 : Int32)), .val (.double (4517110426252607488 : UInt64)), .second, .val (.double (FP.dadd (FP.l2d (pp.toInt64)) (FP.dmul (FP.l2d (kk.toInt64)) (4517110426252607488 : UInt64)))), .second, .val (.long (((de.toInt64) * (1048576 : Int64)) + (kk.toInt64))), .second, .val (.int (1 : Int32)), .val (.int (pp + (ct - cf))), .val (.double (FP.dadd (FP.l2d ((pp + (ct - cf)).toInt64)) (FP.dmul (FP.l2d (kk.toInt64)) (4517110426252607488 : UInt64)))), .second, .val (.ref b53)] [(.int (1 : Int32)), (.double (FP.dadd (FP.l2d (pp.toInt64)) (FP.dmul (FP.l2d (kk.toInt64)) (4517110426252607488 : UInt64)))), (.ref b53)])) _
          have hfx : Fin64 (FP.dadd (FP.l2d (pp.toInt64)) (FP.dmul (FP.l2d (kk.toInt64)) (4517110426252607488 : UInt64))) := fin64_core.mpr (own_zp (p := pp) (k := kk) (by omega) ⟨bk1, bk2⟩).1
          have Zs67 : n0 ≤ T60.heap.size := Nat.le_trans Z0 KP65.1
          have Q68 : Exa Z T60.heap b53 "com/example/adept_layout/adeptlayout/layout/SidePlaces" := (A53.keep R60)
          obtain ⟨cq66, kq66, q66a, q66b, q66c⟩ := isOf hZ rfl Q68
          obtain ⟨_, _, ⟨T66, L66, k66, n66⟩, -, X66, ⟨Lc66, hQ66, l66, y66, z66⟩, st66⟩ := X60.virtualBack hx (y := (⟨"com/example/adept_layout/adeptlayout/layout/SidePlaces", "position", "(DZ)D"⟩ : MethodName)) (z := (⟨"com/example/adept_layout/adeptlayout/layout/SidePlaces", "position", "(DZ)D"⟩ : MethodName)) hown (mvT hZ (hw _ ow36)) (mvT hZ (hw _ ow37)) (notFace_of_selects (args := #[]) (mvT hZ (hw _ ow39))) (mvT hZ (hw _ ow39)) (mvT hZ (hw _ ow38)) (by decide) (backOf (W := 0) (own_posW l Z a0 hw [] b53 (FP.dadd (FP.l2d (pp.toInt64)) (FP.dmul (FP.l2d (kk.toInt64)) (4517110426252607488 : UInt64))) (cf.toInt64) (ct.toInt64) (1 : Int32) T60.heap n0 Zs67 hfx P62 P63) hZ (hw _ ow40) (hw _ ow13) (by decide) (by decide)) q66a q66c (g := (mkF m 314 #[.val (.int i0), .val (.int i1), .val (.int i2), .val (.int i3), .val (.int i4), .val (.int i5), .val (.int lo), .val (.int len), .val (.int hi), .val (.int ce), .val (.int cl), .val (.int (own_imax lo (ce - cl))), .val (.int (own_imin hi (ce + cl))), .val (.int kp), .val (.int cf), .val (.int ct), .val (.int de), .val (.int kk), .val (.int pp), .val (.int (1 : Int32)), .val (.double (4517110426252607488 : UInt64)), .second, .val (.double (FP.dadd (FP.l2d (pp.toInt64)) (FP.dmul (FP.l2d (kk.toInt64)) (4517110426252607488 : UInt64)))), .second, .val (.long (((de.toInt64) * (1048576 : Int64)) + (kk.toInt64))), .second, .val (.int (1 : Int32)), .val (.int (pp + (ct - cf))), .val (.double (FP.dadd (FP.l2d ((pp + (ct - cf)).toInt64)) (FP.dmul (FP.l2d (kk.toInt64)) (4517110426252607488 : UInt64)))), .second, .val (.ref b53)] [(.int (1 : Int32)), (.double (FP.dadd (FP.l2d (pp.toInt64)) (FP.dmul (FP.l2d (kk.toInt64)) (4517110426252607488 : UInt64)))), (.ref b53)])) rfl (by rw [hml]; rfl) (Steps.refl _) (argsL := [(.double (FP.dadd (FP.l2d (pp.toInt64)) (FP.dmul (FP.l2d (kk.toInt64)) (4517110426252607488 : UInt64)))), (.int (1 : Int32))]) (rest := []) (lenOf own_law_pd2 rfl) rfl (by show 2 * 0 + _ ≤ _; exact Nat.le_of_eq rfl) (hb hby at_314) (fun _ _ => ⟨rfl, rfl, (by decide : 1 + 0 ≤ _), (by decide : 5 + 0 ≤ _)⟩)
          dsimp only [Pt.U, Pt.locs, Pt.cells, Pt.slots] at X66 l66 y66 z66 st66 hQ66
          obtain rfl : k66 = 1 := y66
          obtain rfl : n66 = 5 := z66
          obtain ⟨rfl, N66q, R66⟩ := hQ66
          have N66 : Fr n0 L66 := l66 ▸ Fr.app N60 N66q
          refine ownStep (fun _ k => st66.trans k) ?_
          refine ownStep (fun _ k => XS.dload X66.here hx rfl (hb hby at_317) rfl k) ?_
          refine ownStep (fun _ k => XS.dcmpS X66.here hx rfl (hb hby at_319) rfl rfl k) ?_
          refine ownStep (fun _ k => XS.ifNo X66.here hx rfl (hb hby at_320) rfl ((if0 _ _).trans (teq (own_fin hKB.1 hKB.2 hd ⟨bk1, bk2⟩ ep (by first | exact Or.inl ⟨rfl, hc245, rfl⟩ | exact Or.inr (Or.inl ⟨rfl, hc245, rfl⟩) | exact Or.inr (Or.inr (Or.inl ⟨by decide, hc228, rfl⟩)) | exact Or.inr (Or.inr (Or.inr ⟨by decide, hc228, rfl⟩))) : (cmpValue (FP.dcmp (own_pos (FP.dadd (FP.l2d (pp.toInt64)) (FP.dmul (FP.l2d (kk.toInt64)) (4517110426252607488 : UInt64))) (cf.toInt64) (ct.toInt64) (1 : Int32)) (FP.dadd (FP.l2d ((pp + (ct - cf)).toInt64)) (FP.dmul (FP.l2d (kk.toInt64)) (4517110426252607488 : UInt64)))) .l) = (0 : Int32))).2) k) ?_
          refine ownStep (fun _ k => XS.iconst X66.here hx rfl (hb hby at_323) k) ?_
          refine ownStep (fun _ k => XS.goto X66.here hx rfl (pc0 := 324) (pc' := 328) rfl (hb hby at_324) (by decide) (by decide) k) ?_
          show ownGo p.tables e below (T66.setTop (mkF m 328 #[.val (.int i0), .val (.int i1), .val (.int i2), .val (.int i3), .val (.int i4), .val (.int i5), .val (.int lo), .val (.int len), .val (.int hi), .val (.int ce), .val (.int cl), .val (.int (own_imax lo (ce - cl))), .val (.int (own_imin hi (ce + cl))), .val (.int kp), .val (.int cf), .val (.int ct), .val (.int de), .val (.int kk), .val (.int pp), .val (.int (1 : Int32)), .val (.double (4517110426252607488 : UInt64)), .second, .val (.double (FP.dadd (FP.l2d (pp.toInt64)) (FP.dmul (FP.l2d (kk.toInt64)) (4517110426252607488 : UInt64)))), .second, .val (.long (((de.toInt64) * (1048576 : Int64)) + (kk.toInt64))), .second, .val (.int (1 : Int32)), .val (.int (pp + (ct - cf))), .val (.double (FP.dadd (FP.l2d ((pp + (ct - cf)).toInt64)) (FP.dmul (FP.l2d (kk.toInt64)) (4517110426252607488 : UInt64)))), .second, .val (.ref b53)] [(.int (1 : Int32))])) _
          exact ownRet X66 (v := some (.int (1 : Int32))) Bd.notSynchronized (fun h => by rw [Bd.returns] at h; cases h) (fun _ hr => retN X66 hx (t := .boolean) Bd.returns (by simp) (hb hby at_328) hr) (by rw [R66]; exact ⟨rfl, N66, (own_extOf KP65)⟩) (by decide) (by decide)
    refine ownStep (fun _ k => XS.iload Xj.here hx rfl (hb hby at_123) rfl  k) ?_
    refine ownStep (fun _ k => XS.iconst Xj.here hx rfl (hb hby at_125) k) ?_
    refine ownStep (fun _ k => XS.ishr Xj.here hx rfl (hb hby at_126) rfl k) ?_
    refine ownStep (fun _ k => XS.iconst Xj.here hx rfl (hb hby at_127) k) ?_
    refine ownStep (fun _ k => XS.iand Xj.here hx rfl (hb hby at_128) rfl k) ?_
    show ownGo p.tables e below (Tj.setTop (mkF m 129 #[.val (.int i0), .val (.int i1), .val (.int i2), .val (.int i3), .val (.int i4), .val (.int i5), .val (.int lo), .val (.int len), .val (.int hi), .val (.int ce), .val (.int cl), .val (.int (own_imax lo (ce - cl))), .val (.int (own_imin hi (ce + cl))), .val (.int kp), .val (.int cf), .val (.int ct), .unset, .unset, .unset, .unset, .unset, .unset, .unset, .unset, .unset, .unset, .unset, .unset, .unset, .unset, .unset] [(.int ((i4 >>> ((3 : Int32) &&& 31)) &&& (1 : Int32)))])) _
    by_cases hc129 : ((i4 >>> ((3 : Int32) &&& 31)) &&& (1 : Int32)) = (0 : Int32)
    · skip
      refine ownStep (fun _ k => XS.ifNo Xj.here hx rfl (hb hby at_129) rfl ((if0 _ _).trans (teq (hc129 : ((i4 >>> ((3 : Int32) &&& 31)) &&& (1 : Int32)) = (0 : Int32))).2) k) ?_
      refine ownStep (fun _ k => XS.iload Xj.here hx rfl (hb hby at_132) rfl  k) ?_
      refine ownStep (fun _ k => XS.iconst Xj.here hx rfl (hb hby at_134) k) ?_
      refine ownStep (fun _ k => XS.ishr Xj.here hx rfl (hb hby at_135) rfl k) ?_
      refine ownStep (fun _ k => XS.iconst Xj.here hx rfl (hb hby at_136) k) ?_
      refine ownStep (fun _ k => XS.iand Xj.here hx rfl (hb hby at_137) rfl k) ?_
      refine ownStep (fun _ k => XS.iconst Xj.here hx rfl (hb hby at_138) k) ?_
      refine ownStep (fun _ k => XS.isub Xj.here hx rfl (hb hby at_139) rfl k) ?_
      refine ownStep (fun _ k => XS.goto Xj.here hx rfl (pc0 := 140) (pc' := 155) rfl (hb hby at_140) (by decide) (by decide) k) ?_
      refine ownStep (fun _ k => XS.istore Xj.here hx rfl (hb hby at_155) rfl (l' := #[.val (.int i0), .val (.int i1), .val (.int i2), .val (.int i3), .val (.int i4), .val (.int i5), .val (.int lo), .val (.int len), .val (.int hi), .val (.int ce), .val (.int cl), .val (.int (own_imax lo (ce - cl))), .val (.int (own_imin hi (ce + cl))), .val (.int kp), .val (.int cf), .val (.int ct), .val (.int (((i4 >>> ((4 : Int32) &&& 31)) &&& (3 : Int32)) - (2 : Int32))), .unset, .unset, .unset, .unset, .unset, .unset, .unset, .unset, .unset, .unset, .unset, .unset, .unset, .unset]) rfl k) ?_
      show ownGo p.tables e below (Tj.setTop (mkF m 157 #[.val (.int i0), .val (.int i1), .val (.int i2), .val (.int i3), .val (.int i4), .val (.int i5), .val (.int lo), .val (.int len), .val (.int hi), .val (.int ce), .val (.int cl), .val (.int (own_imax lo (ce - cl))), .val (.int (own_imin hi (ce + cl))), .val (.int kp), .val (.int cf), .val (.int ct), .val (.int (((i4 >>> ((4 : Int32) &&& 31)) &&& (3 : Int32)) - (2 : Int32))), .unset, .unset, .unset, .unset, .unset, .unset, .unset, .unset, .unset, .unset, .unset, .unset, .unset, .unset] [])) _
      exact J157 _ _ Xj ej Nj (((i4 >>> ((4 : Int32) &&& 31)) &&& (3 : Int32)) - (2 : Int32)) (by first | exact own_dA _ | exact own_dB _)
    · skip
      refine ownStep (fun _ k => XS.ifYes Xj.here hx rfl (pc0 := 129) (pc' := 143) rfl (hb hby at_129) rfl ((if0 _ _).trans (feq (hc129 : ¬ ((i4 >>> ((3 : Int32) &&& 31)) &&& (1 : Int32)) = (0 : Int32))).2) (by decide) (by decide) k) ?_
      refine ownStep (fun _ k => XS.iload Xj.here hx rfl (hb hby at_143) rfl  k) ?_
      refine ownStep (fun _ k => XS.iconst Xj.here hx rfl (hb hby at_145) k) ?_
      refine ownStep (fun _ k => XS.ishr Xj.here hx rfl (hb hby at_146) rfl k) ?_
      refine ownStep (fun _ k => XS.sipush Xj.here hx rfl (hb hby at_147) k) ?_
      refine ownStep (fun _ k => XS.iand Xj.here hx rfl (hb hby at_150) rfl k) ?_
      refine ownStep (fun _ k => XS.sipush Xj.here hx rfl (hb hby at_151) k) ?_
      refine ownStep (fun _ k => XS.isub Xj.here hx rfl (hb hby at_154) rfl k) ?_
      refine ownStep (fun _ k => XS.istore Xj.here hx rfl (hb hby at_155) rfl (l' := #[.val (.int i0), .val (.int i1), .val (.int i2), .val (.int i3), .val (.int i4), .val (.int i5), .val (.int lo), .val (.int len), .val (.int hi), .val (.int ce), .val (.int cl), .val (.int (own_imax lo (ce - cl))), .val (.int (own_imin hi (ce + cl))), .val (.int kp), .val (.int cf), .val (.int ct), .val (.int (((i4 >>> ((4 : Int32) &&& 31)) &&& (4095 : Int32)) - (2048 : Int32))), .unset, .unset, .unset, .unset, .unset, .unset, .unset, .unset, .unset, .unset, .unset, .unset, .unset, .unset]) rfl k) ?_
      show ownGo p.tables e below (Tj.setTop (mkF m 157 #[.val (.int i0), .val (.int i1), .val (.int i2), .val (.int i3), .val (.int i4), .val (.int i5), .val (.int lo), .val (.int len), .val (.int hi), .val (.int ce), .val (.int cl), .val (.int (own_imax lo (ce - cl))), .val (.int (own_imin hi (ce + cl))), .val (.int kp), .val (.int cf), .val (.int ct), .val (.int (((i4 >>> ((4 : Int32) &&& 31)) &&& (4095 : Int32)) - (2048 : Int32))), .unset, .unset, .unset, .unset, .unset, .unset, .unset, .unset, .unset, .unset, .unset, .unset, .unset, .unset] [])) _
      exact J157 _ _ Xj ej Nj (((i4 >>> ((4 : Int32) &&& 31)) &&& (4095 : Int32)) - (2048 : Int32)) (by first | exact own_dA _ | exact own_dB _)
  refine ownStep (fun _ k => XS.iload X3.here hx rfl (hb hby at_73) rfl  k) ?_
  show ownGo p.tables e below (T3.setTop (mkF m 75 #[.val (.int i0), .val (.int i1), .val (.int i2), .val (.int i3), .val (.int i4), .val (.int i5), .val (.int lo), .val (.int len), .val (.int hi), .val (.int ce), .val (.int cl), .val (.int (own_imax lo (ce - cl))), .val (.int (own_imin hi (ce + cl))), .unset, .unset, .unset, .unset, .unset, .unset, .unset, .unset, .unset, .unset, .unset, .unset, .unset, .unset, .unset, .unset, .unset, .unset] [(.int cl)])) _
  by_cases hc75 : (0 : Int32) < cl
  · skip
    refine ownStep (fun _ k => XS.ifNo X3.here hx rfl (hb hby at_75) rfl ((if0 _ _).trans (tlt (hc75 : (0 : Int32) < cl)).2.2.2) k) ?_
    refine ownStep (fun _ k => XS.iload X3.here hx rfl (hb hby at_78) rfl  k) ?_
    refine ownStep (fun _ k => XS.iload X3.here hx rfl (hb hby at_80) rfl  k) ?_
    refine ownStep (fun _ k => XS.isub X3.here hx rfl (hb hby at_82) rfl k) ?_
    refine ownStep (fun _ k => XS.iload X3.here hx rfl (hb hby at_83) rfl  k) ?_
    show ownGo p.tables e below (T3.setTop (mkF m 85 #[.val (.int i0), .val (.int i1), .val (.int i2), .val (.int i3), .val (.int i4), .val (.int i5), .val (.int lo), .val (.int len), .val (.int hi), .val (.int ce), .val (.int cl), .val (.int (own_imax lo (ce - cl))), .val (.int (own_imin hi (ce + cl))), .unset, .unset, .unset, .unset, .unset, .unset, .unset, .unset, .unset, .unset, .unset, .unset, .unset, .unset, .unset, .unset, .unset, .unset] [(.int len), (.int ((own_imin hi (ce + cl)) - (own_imax lo (ce - cl))))])) _
    by_cases hc85 : ((own_imin hi (ce + cl)) - (own_imax lo (ce - cl))) < len
    · skip
      refine ownStep (fun _ k => XS.icmpNo X3.here hx rfl (hb hby at_85) rfl (tlt (hc85 : ((own_imin hi (ce + cl)) - (own_imax lo (ce - cl))) < len)).2.1 k) ?_
      refine ownStep (fun _ k => XS.iconst X3.here hx rfl (hb hby at_88) k) ?_
      refine ownStep (fun _ k => XS.goto X3.here hx rfl (pc0 := 89) (pc' := 93) rfl (hb hby at_89) (by decide) (by decide) k) ?_
      refine ownStep (fun _ k => XS.istore X3.here hx rfl (hb hby at_93) rfl (l' := #[.val (.int i0), .val (.int i1), .val (.int i2), .val (.int i3), .val (.int i4), .val (.int i5), .val (.int lo), .val (.int len), .val (.int hi), .val (.int ce), .val (.int cl), .val (.int (own_imax lo (ce - cl))), .val (.int (own_imin hi (ce + cl))), .val (.int (1 : Int32)), .unset, .unset, .unset, .unset, .unset, .unset, .unset, .unset, .unset, .unset, .unset, .unset, .unset, .unset, .unset, .unset, .unset]) rfl k) ?_
      refine ownStep (fun _ k => XS.iload X3.here hx rfl (hb hby at_95) rfl  k) ?_
      refine ownStep (fun _ k => XS.ifNo X3.here hx rfl (hb hby at_97) rfl ((if0 _ _).trans (feq (by decide : ¬ (1 : Int32) = (0 : Int32))).1) k) ?_
      refine ownStep (fun _ k => XS.iload X3.here hx rfl (hb hby at_100) rfl  k) ?_
      refine ownStep (fun _ k => XS.goto X3.here hx rfl (pc0 := 102) (pc' := 107) rfl (hb hby at_102) (by decide) (by decide) k) ?_
      refine ownStep (fun _ k => XS.istore X3.here hx rfl (hb hby at_107) rfl (l' := #[.val (.int i0), .val (.int i1), .val (.int i2), .val (.int i3), .val (.int i4), .val (.int i5), .val (.int lo), .val (.int len), .val (.int hi), .val (.int ce), .val (.int cl), .val (.int (own_imax lo (ce - cl))), .val (.int (own_imin hi (ce + cl))), .val (.int (1 : Int32)), .val (.int (own_imax lo (ce - cl))), .unset, .unset, .unset, .unset, .unset, .unset, .unset, .unset, .unset, .unset, .unset, .unset, .unset, .unset, .unset, .unset]) rfl k) ?_
      refine ownStep (fun _ k => XS.iload X3.here hx rfl (hb hby at_109) rfl  k) ?_
      refine ownStep (fun _ k => XS.ifNo X3.here hx rfl (hb hby at_111) rfl ((if0 _ _).trans (feq (by decide : ¬ (1 : Int32) = (0 : Int32))).1) k) ?_
      refine ownStep (fun _ k => XS.iload X3.here hx rfl (hb hby at_114) rfl  k) ?_
      refine ownStep (fun _ k => XS.goto X3.here hx rfl (pc0 := 116) (pc' := 121) rfl (hb hby at_116) (by decide) (by decide) k) ?_
      show ownGo p.tables e below (T3.setTop (mkF m 121 #[.val (.int i0), .val (.int i1), .val (.int i2), .val (.int i3), .val (.int i4), .val (.int i5), .val (.int lo), .val (.int len), .val (.int hi), .val (.int ce), .val (.int cl), .val (.int (own_imax lo (ce - cl))), .val (.int (own_imin hi (ce + cl))), .val (.int (1 : Int32)), .val (.int (own_imax lo (ce - cl))), .unset, .unset, .unset, .unset, .unset, .unset, .unset, .unset, .unset, .unset, .unset, .unset, .unset, .unset, .unset, .unset] [(.int (own_imin hi (ce + cl)))])) _
      refine ownStep (fun _ k => XS.istore X3.here hx rfl (hb hby at_121) rfl (l' := #[.val (.int i0), .val (.int i1), .val (.int i2), .val (.int i3), .val (.int i4), .val (.int i5), .val (.int lo), .val (.int len), .val (.int hi), .val (.int ce), .val (.int cl), .val (.int (own_imax lo (ce - cl))), .val (.int (own_imin hi (ce + cl))), .val (.int (1 : Int32)), .val (.int (own_imax lo (ce - cl))), .val (.int (own_imin hi (ce + cl))), .unset, .unset, .unset, .unset, .unset, .unset, .unset, .unset, .unset, .unset, .unset, .unset, .unset, .unset, .unset]) rfl k) ?_
      show ownGo p.tables e below (T3.setTop (mkF m 123 #[.val (.int i0), .val (.int i1), .val (.int i2), .val (.int i3), .val (.int i4), .val (.int i5), .val (.int lo), .val (.int len), .val (.int hi), .val (.int ce), .val (.int cl), .val (.int (own_imax lo (ce - cl))), .val (.int (own_imin hi (ce + cl))), .val (.int (1 : Int32)), .val (.int (own_imax lo (ce - cl))), .val (.int (own_imin hi (ce + cl))), .unset, .unset, .unset, .unset, .unset, .unset, .unset, .unset, .unset, .unset, .unset, .unset, .unset, .unset, .unset] [])) _
      exact J123 _ _ X3 R3 N3 (1 : Int32) (own_imax lo (ce - cl)) (own_imin hi (ce + cl)) (own_C1 hG hc75 hc85)
    · skip
      refine ownStep (fun _ k => XS.icmpYes X3.here hx rfl (pc0 := 85) (pc' := 92) rfl (hb hby at_85) rfl (flt (hc85 : ¬ ((own_imin hi (ce + cl)) - (own_imax lo (ce - cl))) < len)).2.1 (by decide) (by decide) k) ?_
      refine ownStep (fun _ k => XS.iconst X3.here hx rfl (hb hby at_92) k) ?_
      refine ownStep (fun _ k => XS.istore X3.here hx rfl (hb hby at_93) rfl (l' := #[.val (.int i0), .val (.int i1), .val (.int i2), .val (.int i3), .val (.int i4), .val (.int i5), .val (.int lo), .val (.int len), .val (.int hi), .val (.int ce), .val (.int cl), .val (.int (own_imax lo (ce - cl))), .val (.int (own_imin hi (ce + cl))), .val (.int (0 : Int32)), .unset, .unset, .unset, .unset, .unset, .unset, .unset, .unset, .unset, .unset, .unset, .unset, .unset, .unset, .unset, .unset, .unset]) rfl k) ?_
      refine ownStep (fun _ k => XS.iload X3.here hx rfl (hb hby at_95) rfl  k) ?_
      refine ownStep (fun _ k => XS.ifYes X3.here hx rfl (pc0 := 97) (pc' := 105) rfl (hb hby at_97) rfl ((if0 _ _).trans (teq (by decide : (0 : Int32) = (0 : Int32))).1) (by decide) (by decide) k) ?_
      refine ownStep (fun _ k => XS.iload X3.here hx rfl (hb hby at_105) rfl  k) ?_
      refine ownStep (fun _ k => XS.istore X3.here hx rfl (hb hby at_107) rfl (l' := #[.val (.int i0), .val (.int i1), .val (.int i2), .val (.int i3), .val (.int i4), .val (.int i5), .val (.int lo), .val (.int len), .val (.int hi), .val (.int ce), .val (.int cl), .val (.int (own_imax lo (ce - cl))), .val (.int (own_imin hi (ce + cl))), .val (.int (0 : Int32)), .val (.int ce), .unset, .unset, .unset, .unset, .unset, .unset, .unset, .unset, .unset, .unset, .unset, .unset, .unset, .unset, .unset, .unset]) rfl k) ?_
      refine ownStep (fun _ k => XS.iload X3.here hx rfl (hb hby at_109) rfl  k) ?_
      refine ownStep (fun _ k => XS.ifYes X3.here hx rfl (pc0 := 111) (pc' := 119) rfl (hb hby at_111) rfl ((if0 _ _).trans (teq (by decide : (0 : Int32) = (0 : Int32))).1) (by decide) (by decide) k) ?_
      refine ownStep (fun _ k => XS.iload X3.here hx rfl (hb hby at_119) rfl  k) ?_
      refine ownStep (fun _ k => XS.istore X3.here hx rfl (hb hby at_121) rfl (l' := #[.val (.int i0), .val (.int i1), .val (.int i2), .val (.int i3), .val (.int i4), .val (.int i5), .val (.int lo), .val (.int len), .val (.int hi), .val (.int ce), .val (.int cl), .val (.int (own_imax lo (ce - cl))), .val (.int (own_imin hi (ce + cl))), .val (.int (0 : Int32)), .val (.int ce), .val (.int ce), .unset, .unset, .unset, .unset, .unset, .unset, .unset, .unset, .unset, .unset, .unset, .unset, .unset, .unset, .unset]) rfl k) ?_
      show ownGo p.tables e below (T3.setTop (mkF m 123 #[.val (.int i0), .val (.int i1), .val (.int i2), .val (.int i3), .val (.int i4), .val (.int i5), .val (.int lo), .val (.int len), .val (.int hi), .val (.int ce), .val (.int cl), .val (.int (own_imax lo (ce - cl))), .val (.int (own_imin hi (ce + cl))), .val (.int (0 : Int32)), .val (.int ce), .val (.int ce), .unset, .unset, .unset, .unset, .unset, .unset, .unset, .unset, .unset, .unset, .unset, .unset, .unset, .unset, .unset] [])) _
      exact J123 _ _ X3 R3 N3 (0 : Int32) ce ce (by first | exact own_C3 hc75 | exact own_C2 hG hc85)
  · skip
    refine ownStep (fun _ k => XS.ifYes X3.here hx rfl (pc0 := 75) (pc' := 92) rfl (hb hby at_75) rfl ((if0 _ _).trans (flt (hc75 : ¬ (0 : Int32) < cl)).2.2.2) (by decide) (by decide) k) ?_
    refine ownStep (fun _ k => XS.iconst X3.here hx rfl (hb hby at_92) k) ?_
    refine ownStep (fun _ k => XS.istore X3.here hx rfl (hb hby at_93) rfl (l' := #[.val (.int i0), .val (.int i1), .val (.int i2), .val (.int i3), .val (.int i4), .val (.int i5), .val (.int lo), .val (.int len), .val (.int hi), .val (.int ce), .val (.int cl), .val (.int (own_imax lo (ce - cl))), .val (.int (own_imin hi (ce + cl))), .val (.int (0 : Int32)), .unset, .unset, .unset, .unset, .unset, .unset, .unset, .unset, .unset, .unset, .unset, .unset, .unset, .unset, .unset, .unset, .unset]) rfl k) ?_
    refine ownStep (fun _ k => XS.iload X3.here hx rfl (hb hby at_95) rfl  k) ?_
    refine ownStep (fun _ k => XS.ifYes X3.here hx rfl (pc0 := 97) (pc' := 105) rfl (hb hby at_97) rfl ((if0 _ _).trans (teq (by decide : (0 : Int32) = (0 : Int32))).1) (by decide) (by decide) k) ?_
    refine ownStep (fun _ k => XS.iload X3.here hx rfl (hb hby at_105) rfl  k) ?_
    refine ownStep (fun _ k => XS.istore X3.here hx rfl (hb hby at_107) rfl (l' := #[.val (.int i0), .val (.int i1), .val (.int i2), .val (.int i3), .val (.int i4), .val (.int i5), .val (.int lo), .val (.int len), .val (.int hi), .val (.int ce), .val (.int cl), .val (.int (own_imax lo (ce - cl))), .val (.int (own_imin hi (ce + cl))), .val (.int (0 : Int32)), .val (.int ce), .unset, .unset, .unset, .unset, .unset, .unset, .unset, .unset, .unset, .unset, .unset, .unset, .unset, .unset, .unset, .unset]) rfl k) ?_
    refine ownStep (fun _ k => XS.iload X3.here hx rfl (hb hby at_109) rfl  k) ?_
    refine ownStep (fun _ k => XS.ifYes X3.here hx rfl (pc0 := 111) (pc' := 119) rfl (hb hby at_111) rfl ((if0 _ _).trans (teq (by decide : (0 : Int32) = (0 : Int32))).1) (by decide) (by decide) k) ?_
    refine ownStep (fun _ k => XS.iload X3.here hx rfl (hb hby at_119) rfl  k) ?_
    refine ownStep (fun _ k => XS.istore X3.here hx rfl (hb hby at_121) rfl (l' := #[.val (.int i0), .val (.int i1), .val (.int i2), .val (.int i3), .val (.int i4), .val (.int i5), .val (.int lo), .val (.int len), .val (.int hi), .val (.int ce), .val (.int cl), .val (.int (own_imax lo (ce - cl))), .val (.int (own_imin hi (ce + cl))), .val (.int (0 : Int32)), .val (.int ce), .val (.int ce), .unset, .unset, .unset, .unset, .unset, .unset, .unset, .unset, .unset, .unset, .unset, .unset, .unset, .unset, .unset]) rfl k) ?_
    show ownGo p.tables e below (T3.setTop (mkF m 123 #[.val (.int i0), .val (.int i1), .val (.int i2), .val (.int i3), .val (.int i4), .val (.int i5), .val (.int lo), .val (.int len), .val (.int hi), .val (.int ce), .val (.int cl), .val (.int (own_imax lo (ce - cl))), .val (.int (own_imin hi (ce + cl))), .val (.int (0 : Int32)), .val (.int ce), .val (.int ce), .unset, .unset, .unset, .unset, .unset, .unset, .unset, .unset, .unset, .unset, .unset, .unset, .unset, .unset, .unset] [])) _
    exact J123 _ _ X3 R3 N3 (0 : Int32) ce ce (by first | exact own_C3 hc75 | exact own_C2 hG hc85)
set_option maxRecDepth 65536 in
set_option maxHeartbeats 40000000 in
theorem comes_1 {Post : Tables → Env → Array Value → State → Outcome → State → Prop} (hpost : ∀ tb e args s v u, (limb_1_1.after args s (.returned v) u = true ∧ limb_1_2.after args s (.returned v) u = true ∧ True) → FrameEnd s (.returned v) u (Jvm.fieldLocs frame_1_writes args s ++ Jvm.arrayLocs frame_1_arrays args s ++ Jvm.staticLocs frame_1_statics s) 16 128 → Post tb e args s (.returned v) u) :
    ArmFor flags0 classFile x code maxLocals ret World_1 tables_1 room_1 Calls_1 rest_1 Pre_1 Post := by
  intro l hfl _ _ p e ha hc hk s m args below hf hA hF happ hP
  obtain ⟨hcalls, hrest, hpre⟩ := hP
  obtain ⟨-, -, -, hnamed, -, -, -, hat⟩ := (Spec.applies_iff hf).mp happ
  obtain ⟨hg, hn⟩ := and_e (Cond.before_iff.mp (show (Jvm.Cond.and given_1 narrow_1).before args s = true from hpre))
  obtain ⟨g1, g2⟩ := and_e hg
  obtain ⟨g3, g4⟩ := and_e g2
  obtain ⟨g5, g6⟩ := and_e g4
  obtain ⟨g7, g8⟩ := and_e g6
  obtain ⟨g9, g10⟩ := and_e g8
  obtain ⟨g11, g12⟩ := and_e g10
  obtain ⟨w0, w1, w2, w3, w4, w5, rfl⟩ : ∃ w0 w1 w2 w3 w4 w5 : Value, args = #[w0, w1, w2, w3, w4, w5] := by
    have hs : args.size = 6 := by simpa [Cond.value, given_1] using g1
    obtain ⟨L⟩ := args
    match L, hs with
    | [w0, w1, w2, w3, w4, w5], _ => exact ⟨w0, w1, w2, w3, w4, w5, rfl⟩
  have hw := fun d (hd : d ∈ tables_1) => atoms_spec (ws := Jvm.Cond.code x code maxLocals ret :: tables_1) hat d (List.mem_cons_of_mem _ hd)
  have hfit : Fit s := fun {y c} hc i hi => by
    obtain ⟨ha, rfl⟩ := Array.getElem?_eq_some_iff.mp hc
    have q := List.all_eq_true.mp ((Array.all_eq_true_iff_forall_mem.mp hF) _ (Array.getElem_mem ha)) i (List.mem_range.mpr hi)
    simpa [Array.getElem?_eq_getElem hi] using q
  obtain ⟨i0, ei0⟩ := is_v g3
  obtain rfl : w0 = (.int i0) := Option.some.inj ei0
  obtain ⟨i1, ei1⟩ := is_v g5
  obtain rfl : w1 = (.int i1) := Option.some.inj ei1
  obtain ⟨i2, ei2⟩ := is_v g7
  obtain rfl : w2 = (.int i2) := Option.some.inj ei2
  obtain ⟨i3, ei3⟩ := is_v g9
  obtain rfl : w3 = (.int i3) := Option.some.inj ei3
  obtain ⟨i4, ei4⟩ := is_v g11
  obtain rfl : w4 = (.int i4) := Option.some.inj ei4
  obtain ⟨i5, ei5⟩ := is_v g12
  obtain rfl : w5 = (.int i5) := Option.some.inj ei5
  obtain ⟨n, o, h1, h2, h3, _, L, rfl, ⟨rfl, N, hrel⟩, hq⟩ := own_law l s _ hw tables_1 i0 i1 i2 i3 i4 i5 s.heap s.heap.size (Nat.le_refl _)  p e ha hc hk s m _ below hf ((Spec.applies_iff_loose hf).mp happ).1 ⟨rfl, State.Warmed39.refl s, rfl⟩ trivial
  refine ⟨n, _, h1, h2, h3, hpost _ _ _ _ _ _ ⟨Cond.after_iff.mpr rfl, Cond.after_iff.mpr (eq_i res_at (Term.int_eval (1)) rfl), trivial⟩ ⟨hq.1, hq.2.1, (hq.2.2.sift fun y hy => Or.inr (N y hy)).mono (by decide) (by decide)⟩⟩
theorem main_1_1 : Claimed_1_1 := comes_1 fun _ _ _ _ _ _ h hF => ⟨h.1, hF⟩
theorem main_1_2 : Claimed_1_2 := comes_1 fun _ _ _ _ _ _ h hF => ⟨h.2.1, hF⟩
end Jvm.Pilot.@@N@@
namespace Jvm.Pilot.@@N@@
open Jvm Jvm.ClassFile Sem Op Lib Jvm.Free Jvm.Stand Jvm.Pilot.@@N@@.Jvm.D
/-! MADE BY PROGRAM (witnessworld.py) out of the Statement's table words and the real class files: 10 classes; the members and pool entries that the words name. The judged class is class 1, her method 1. -/
namespace start1
open Jvm.ClassFile
def u (s : String) : CpInfo := .utf8 (stringToUtf16 s)
/-- a pool by its gaps: so many unusable entries, then the entry; so many at the end -/
def gap : Nat → List CpInfo → List CpInfo
  | 0, r => r
  | n + 1, r => .unusable :: gap n r
def poolList (es : List (Nat × CpInfo)) (last : Nat) : List CpInfo := es.foldr (fun e r => gap e.1 (e.2 :: r)) (gap last [])
def pool (es : List (Nat × CpInfo)) (last : Nat) : Array CpInfo := ⟨poolList es last⟩
def fileOf (pool : Array CpInfo) (this : Nat) (attrs : Array Attribute := #[]) (ms : Array MethodInfo := #[]) (fl : Nat := 33) (sup : Nat := 0) (ifs : Array Nat := #[]) (fds : Array FieldInfo := #[]) : ClassFile where
  minorVersion := 0
  majorVersion := 65
  constantPool := pool
  accessFlags := fl
  thisClass := this
  superClass := sup
  interfaces := ifs
  fields := fds
  methods := ms
  attributes := attrs
def plain (name : String) (sup : Option ClassId) : Class where
  name := name
  kind := .ordinary
  loader := none
  accessFlags := 33
  super := sup
  interfaces := #[]
  cf := none
  fields := #[]
  methods := #[]
  instanceTypes := #[]
  staticTypes := #[]
  resolved := #[]
  callSites := []
  init := .initialized
  statics := none
  mirror := none

def pool0 : Array CpInfo := pool [(5, u "<init>"), (0, u "()V"), (1, .class_ 10), (1, u "java/lang/Object")] 113

def k0c0 : Code := { maxStack := 0, maxLocals := 1, code := object_method_1_code, exceptionTable := #[], attributes := #[] }
def k0m0 : Method := { name := "<init>", desc := "()V", sig := { parameters := [], returnType := none }, accessFlags := 1, code := some k0c0 }
/-- java/lang/Object -/
def k0 : Class := { plain "java/lang/Object" none with
  accessFlags := 33
  interfaces := #[]
  cf := some (fileOf pool0 8 #[] #[{ accessFlags := 1, nameIndex := 5, descriptorIndex := 6, attributes := #[] }] 33 0 #[] #[])
  fields := #[]
  methods := #[k0m0]
  instanceTypes := #[]
  staticTypes := #[]
  resolved := Array.replicate 124 none
  statics := none }

def pool1 : Array CpInfo := pool [(2, .class_ 4), (1, u "java/lang/Object"), (0, u "<init>"), (0, u "()V"), (0, .integer 2147483647), (0, .methodref 9 10), (0, .class_ 11), (0, .nameAndType 12 13), (0, u "java/lang/Math"), (0, u "max"), (0, u "(II)I"), (0, .methodref 9 15), (0, .nameAndType 16 13), (0, u "min"), (0, .double 4517110426252607488), (1, .long 1048576), (1, .long 18446744073709551615), (1, .long 2), (1, .class_ 26), (0, u "com/example/adept_layout/adeptlayout/layout/SidePlaces"), (0, .methodref 25 28), (0, .nameAndType 5 29), (0, u "(DDDD)V"), (0, .methodref 25 31), (0, .nameAndType 32 33), (0, u "position"), (0, u "(DZ)D"), (0, .class_ 35), (0, u "com/example/adept_layout/adeptlayout/layout/SidePlacesPositionPinLaw"), (2, u "law"), (0, u "(IIIIII)Z")] 3

def k1m0 : Method := { name := "<init>", desc := "()V", sig := { parameters := [], returnType := none }, accessFlags := 1, code := none }
def k1c1 : Code := { maxStack := 10, maxLocals := 31, code := code, exceptionTable := #[], attributes := #[] }
def k1m1 : Method := { name := "law", desc := "(IIIIII)Z", sig := { parameters := [.int, .int, .int, .int, .int, .int], returnType := some .boolean }, accessFlags := 9, code := some k1c1 }
/-- com/example/adept_layout/adeptlayout/layout/SidePlacesPositionPinLaw -/
def k1 : Class := { plain "com/example/adept_layout/adeptlayout/layout/SidePlacesPositionPinLaw" (some 0) with
  accessFlags := 49
  interfaces := #[]
  cf := some (fileOf pool1 34 #[] #[{ accessFlags := 1, nameIndex := 5, descriptorIndex := 6, attributes := #[] }, { accessFlags := 9, nameIndex := 38, descriptorIndex := 39, attributes := #[] }] 49 2 #[] #[])
  fields := #[]
  methods := #[k1m0, k1m1]
  instanceTypes := #[]
  staticTypes := #[]
  resolved := Array.replicate 43 none
  statics := none }

def pool2 : Array CpInfo := pool [(1, .class_ 2), (0, u "java/lang/Math"), (1, .class_ 6), (1, u "java/lang/Object"), (0, u "<init>"), (0, u "()V"), (43, u "(DD)D"), (45, .class_ 100), (1, u "java/lang/Math$RandomNumberGeneratorHolder"), (71, u "negativeZeroFloatBits"), (0, u "J"), (2, u "negativeZeroDoubleBits"), (21, u "max"), (2, u "min"), (43, u "$assertionsDisabled"), (0, u "Z"), (88, u "(II)I"), (2, u "twoToTheDoubleScaleDown"), (0, u "D"), (4, u "twoToTheDoubleScaleUp"), (9, u "E"), (3, u "PI"), (2, u "TAU"), (2, u "DEGREES_TO_RADIANS"), (0, u "RADIANS_TO_DEGREES")] 94

def k2m0 : Method := { name := "<init>", desc := "()V", sig := { parameters := [], returnType := none }, accessFlags := 2, code := none }
def k2c1 : Code := { maxStack := 2, maxLocals := 2, code := jdk_29_method_65_code, exceptionTable := #[], attributes := #[] }
def k2m1 : Method := { name := "max", desc := "(II)I", sig := { parameters := [.int, .int], returnType := some .int }, accessFlags := 9, code := some k2c1 }
def k2c2 : Code := { maxStack := 4, maxLocals := 4, code := jdk_29_method_68_code, exceptionTable := #[], attributes := #[] }
def k2m2 : Method := { name := "max", desc := "(DD)D", sig := { parameters := [.double, .double], returnType := some .double }, accessFlags := 9, code := some k2c2 }
def k2c3 : Code := { maxStack := 2, maxLocals := 2, code := jdk_29_method_69_code, exceptionTable := #[], attributes := #[] }
def k2m3 : Method := { name := "min", desc := "(II)I", sig := { parameters := [.int, .int], returnType := some .int }, accessFlags := 9, code := some k2c3 }
def k2c4 : Code := { maxStack := 4, maxLocals := 4, code := jdk_29_method_72_code, exceptionTable := #[], attributes := #[] }
def k2m4 : Method := { name := "min", desc := "(DD)D", sig := { parameters := [.double, .double], returnType := some .double }, accessFlags := 9, code := some k2c4 }
/-- java/lang/Math -/
def k2 : Class := { plain "java/lang/Math" (some 0) with
  accessFlags := 49
  interfaces := #[]
  cf := some (fileOf pool2 1 #[.nestMembers #[98]] #[{ accessFlags := 2, nameIndex := 7, descriptorIndex := 8, attributes := #[] }, { accessFlags := 9, nameIndex := 198, descriptorIndex := 335, attributes := #[] }, { accessFlags := 9, nameIndex := 198, descriptorIndex := 52, attributes := #[] }, { accessFlags := 9, nameIndex := 201, descriptorIndex := 335, attributes := #[] }, { accessFlags := 9, nameIndex := 201, descriptorIndex := 52, attributes := #[] }] 49 4 #[] #[{ accessFlags := 25, nameIndex := 354, descriptorIndex := 339, attributes := #[] }, { accessFlags := 25, nameIndex := 358, descriptorIndex := 339, attributes := #[] }, { accessFlags := 25, nameIndex := 361, descriptorIndex := 339, attributes := #[] }, { accessFlags := 26, nameIndex := 364, descriptorIndex := 339, attributes := #[] }, { accessFlags := 26, nameIndex := 365, descriptorIndex := 339, attributes := #[] }, { accessFlags := 26, nameIndex := 172, descriptorIndex := 173, attributes := #[] }, { accessFlags := 26, nameIndex := 176, descriptorIndex := 173, attributes := #[] }, { accessFlags := 8, nameIndex := 344, descriptorIndex := 339, attributes := #[] }, { accessFlags := 8, nameIndex := 338, descriptorIndex := 339, attributes := #[] }, { accessFlags := 4120, nameIndex := 245, descriptorIndex := 246, attributes := #[] }])
  fields := #[{ name := "E", type := .double, accessFlags := 25, slot := 0, constantValue := 0 }, { name := "PI", type := .double, accessFlags := 25, slot := 1, constantValue := 0 }, { name := "TAU", type := .double, accessFlags := 25, slot := 2, constantValue := 0 }, { name := "DEGREES_TO_RADIANS", type := .double, accessFlags := 26, slot := 3, constantValue := 0 }, { name := "RADIANS_TO_DEGREES", type := .double, accessFlags := 26, slot := 4, constantValue := 0 }, { name := "negativeZeroFloatBits", type := .long, accessFlags := 26, slot := 5, constantValue := 0 }, { name := "negativeZeroDoubleBits", type := .long, accessFlags := 26, slot := 6, constantValue := 0 }, { name := "twoToTheDoubleScaleUp", type := .double, accessFlags := 8, slot := 7, constantValue := 0 }, { name := "twoToTheDoubleScaleDown", type := .double, accessFlags := 8, slot := 8, constantValue := 0 }, { name := "$assertionsDisabled", type := .boolean, accessFlags := 4120, slot := 9, constantValue := 0 }]
  methods := #[k2m0, k2m1, k2m2, k2m3, k2m4]
  instanceTypes := #[]
  staticTypes := #[.double, .double, .double, .double, .double, .long, .long, .double, .double, .boolean]
  resolved := Array.replicate 460 none
  statics := none }

def pool3 : Array CpInfo := pool [(1, .methodref 2 3), (0, .class_ 4), (0, .nameAndType 5 6), (0, u "java/lang/Object"), (0, u "<init>"), (0, u "()V"), (0, .fieldref 8 9), (0, .class_ 10), (0, .nameAndType 11 12), (0, u "com/example/adept_layout/adeptlayout/layout/SidePlaces"), (0, u "low"), (0, u "D"), (0, .fieldref 8 14), (0, .nameAndType 15 12), (0, u "high"), (0, .methodref 17 18), (0, .class_ 19), (0, .nameAndType 20 21), (0, u "java/lang/Math"), (0, u "max"), (0, u "(DD)D"), (0, .methodref 17 23), (0, .nameAndType 24 21), (0, u "min"), (2, .double 4517329193108106637), (1, .fieldref 8 30), (0, .nameAndType 31 12), (0, u "clearFrom"), (0, .fieldref 8 33), (0, .nameAndType 34 12), (0, u "clearTo"), (0, .fieldref 8 36), (0, .nameAndType 37 12), (0, u "length"), (0, u "(DDDD)V"), (12, u "position"), (0, u "(DZ)D")] 2

def k3c0 : Code := { maxStack := 7, maxLocals := 14, code := prog_20_method_1_code, exceptionTable := #[], attributes := #[] }
def k3m0 : Method := { name := "<init>", desc := "(DDDD)V", sig := { parameters := [.double, .double, .double, .double], returnType := none }, accessFlags := 0, code := some k3c0 }
def k3c1 : Code := { maxStack := 6, maxLocals := 5, code := prog_20_method_10_code, exceptionTable := #[], attributes := #[] }
def k3m1 : Method := { name := "position", desc := "(DZ)D", sig := { parameters := [.double, .boolean], returnType := some .double }, accessFlags := 0, code := some k3c1 }
/-- com/example/adept_layout/adeptlayout/layout/SidePlaces -/
def k3 : Class := { plain "com/example/adept_layout/adeptlayout/layout/SidePlaces" (some 0) with
  accessFlags := 48
  interfaces := #[]
  cf := some (fileOf pool3 8 #[] #[{ accessFlags := 0, nameIndex := 5, descriptorIndex := 38, attributes := #[] }, { accessFlags := 0, nameIndex := 51, descriptorIndex := 52, attributes := #[] }] 48 2 #[] #[{ accessFlags := 18, nameIndex := 11, descriptorIndex := 12, attributes := #[] }, { accessFlags := 18, nameIndex := 15, descriptorIndex := 12, attributes := #[] }, { accessFlags := 18, nameIndex := 31, descriptorIndex := 12, attributes := #[] }, { accessFlags := 18, nameIndex := 34, descriptorIndex := 12, attributes := #[] }, { accessFlags := 18, nameIndex := 37, descriptorIndex := 12, attributes := #[] }])
  fields := #[{ name := "low", type := .double, accessFlags := 18, slot := 0, constantValue := 0 }, { name := "high", type := .double, accessFlags := 18, slot := 1, constantValue := 0 }, { name := "clearFrom", type := .double, accessFlags := 18, slot := 2, constantValue := 0 }, { name := "clearTo", type := .double, accessFlags := 18, slot := 3, constantValue := 0 }, { name := "length", type := .double, accessFlags := 18, slot := 4, constantValue := 0 }]
  methods := #[k3m0, k3m1]
  instanceTypes := #[.double, .double, .double, .double, .double]
  staticTypes := #[]
  resolved := Array.replicate 55 none
  statics := none }

def pool4 : Array CpInfo := pool [(1, u "java/lang/Cloneable"), (0, .class_ 1), (0, u "java/lang/Object"), (0, .class_ 3)] 3

/-- java/lang/Cloneable -/
def k4 : Class := { plain "java/lang/Cloneable" (some 0) with
  accessFlags := 1537
  interfaces := #[]
  cf := some (fileOf pool4 2 #[] #[] 1537 4 #[] #[])
  fields := #[]
  methods := #[]
  instanceTypes := #[]
  staticTypes := #[]
  resolved := Array.replicate 8 none
  statics := none }

def pool5 : Array CpInfo := pool [(1, u "java/io/Serializable"), (0, .class_ 1), (0, u "java/lang/Object"), (0, .class_ 3)] 3

/-- java/io/Serializable -/
def k5 : Class := { plain "java/io/Serializable" (some 0) with
  accessFlags := 1537
  interfaces := #[]
  cf := some (fileOf pool5 2 #[] #[] 1537 4 #[] #[])
  fields := #[]
  methods := #[]
  instanceTypes := #[]
  staticTypes := #[]
  resolved := Array.replicate 8 none
  statics := none }

/-- the primitive byte -/
def k6 : Class := { plain "byte" none with kind := .primitive 'B', accessFlags := 0x411 }
/-- [B -/
def k7 : Class := { plain "[B" (some 0) with kind := .array 6 .byte, interfaces := #[4, 5], accessFlags := 1041 }

/-- the primitive int -/
def k8 : Class := { plain "int" none with kind := .primitive 'I', accessFlags := 0x411 }
/-- [I -/
def k9 : Class := { plain "[I" (some 0) with kind := .array 8 .int, interfaces := #[4, 5], accessFlags := 1041 }

def heap : Heap := #[]
def classes : Array Class := #[k0, k1, k2, k3, k4, k5, k6, k7, k8, k9]
def interned : List (Array UInt16 × Addr) := []
def slotsUsed : Nat := 0
def theMethod : MethodId := ⟨1, 1⟩
def args0 : Array Value := #[.int 5, .int 6, .int 7, .int 8, .int 9, .int 10]
def aboutOver (below : List Frame) : State where
  vm := { classes := classes, interned := interned.toArray }
  heap := heap
  slotsUsed := slotsUsed
  threads := #[{ frames := .invoking theMethod args0 :: below }]
def below0 : List Frame := [.native { method := ⟨0, 0⟩, args := #[] }]
def about1 : State := aboutOver below0
def p0 : Program := .bare "" "" ""
def e0 : Env := launch0.env 0 0 0
theorem w_frames : about1.frames = Frame.invoking theMethod args0 :: below0 := rfl
set_option maxRecDepth 65536 in
theorem w_args : argsFit about1.vm theMethod args0 = true := by decide +kernel
set_option maxRecDepth 65536 in
theorem w_heap : heapFits about1 = true := by decide +kernel
set_option maxRecDepth 65536 in
theorem w_runnable : about1.curStatus? = some .runnable := by decide +kernel
set_option maxRecDepth 65536 in
theorem w_alone : about1.alone = true := by decide +kernel
set_option maxRecDepth 65536 in
theorem w_named : about1.methodNamed? x = some theMethod := by decide +kernel
set_option maxRecDepth 65536 in
theorem w_hears : about1.hears theMethod below0 = true := by decide +kernel
set_option maxRecDepth 65536 in
theorem w_ripe : about1.ripe theMethod args0 below0 = true := by decide +kernel
theorem w_running : about1.status = .running := rfl
set_option maxRecDepth 65536 in
theorem w_room : about1.hasRoom e0.platform room_1 = true :=
  launch0.hasRoom_least _ room_1 (by decide +kernel) (by decide +kernel) (by decide +kernel) (by decide +kernel) (by decide +kernel) (by decide +kernel)
theorem allAtoms_all (ts : List Jvm.Cond) (a : Array Jvm.Value) (st : Jvm.State) : (allAtoms ts).before a st = ts.all (fun c => c.before a st) := by
  induction ts with
  | nil => rfl
  | cons c t ih =>
    show (Jvm.Cond.and c (allAtoms t)).before a st = _
    rw [Jvm.Cond.before_and, ih, List.all_cons]
def words1 : List Jvm.Cond := Jvm.Cond.code x code maxLocals ret :: tables_1
/-- a 'code' word, met by the world's own term for the bytes: nothing is compared byte by byte -/
theorem code_word {y : MethodName} {bytes : ByteArray} {mx : Nat} {rt : Option FieldType} {a : Array Value} {s : State} {m : MethodId} {meth : Method} {c : Code} (h1 : s.methodNamed? y = some m) (h2 : s.vm.method? m = some meth) (h3 : meth.code = some c) (h4 : c.code = bytes)
    (h5 : (c.maxLocals == mx && c.exceptionTable.isEmpty && decide (c.maxStack ≤ mostOperands) && decide (meth.sig.returnType = rt) && !meth.locks && decide (parseMethodDescriptor y.desc = some meth.sig)) = true) : (Jvm.Cond.code y bytes mx rt).before a s = true := by
  simp only [Bool.and_eq_true, beq_iff_eq, Bool.not_eq_true', decide_eq_true_eq] at h5
  obtain ⟨⟨⟨⟨⟨g1, g2⟩, g3⟩, g4⟩, g5⟩, g6⟩ := h5
  simp [Cond.before, Cond.holds, Cond.value, h1, h2, h3, h4, g1, g2, g3, g4, g5, g6]
def isCode : Jvm.Cond → Bool
  | .code _ _ _ _ => true
  | _ => false
theorem all_split {L : List Jvm.Cond} {P : Jvm.Cond → Bool} (h1 : L.all (fun c => isCode c || P c) = true) (h2 : ∀ c ∈ L.filter isCode, P c = true) : L.all P = true := by
  refine List.all_eq_true.mpr fun c hc => ?_
  have h := List.all_eq_true.mp h1 c hc
  rcases Bool.eq_false_or_eq_true (isCode c) with hi | hi
  · exact h2 c (List.mem_filter.mpr ⟨hc, hi⟩)
  · simpa [hi] using h
set_option maxRecDepth 65536 in
theorem w_c0 : (Jvm.Cond.code x code maxLocals ret).before args0 about1 = true := code_word (m := ⟨1, 1⟩) (meth := k1m1) (c := k1c1) (by decide +kernel) rfl rfl rfl (by decide +kernel)
set_option maxRecDepth 65536 in
theorem w_c1 : (Jvm.Cond.code ({ cls := "java/lang/Math", name := "max", desc := "(II)I" } : Jvm.MethodName) jdk_29_method_65_code (2 : Nat) (Option.some Jvm.ClassFile.FieldType.int)).before args0 about1 = true := code_word (m := ⟨2, 1⟩) (meth := k2m1) (c := k2c1) (by decide +kernel) rfl rfl rfl (by decide +kernel)
set_option maxRecDepth 65536 in
theorem w_c2 : (Jvm.Cond.code ({ cls := "java/lang/Math", name := "min", desc := "(II)I" } : Jvm.MethodName) jdk_29_method_69_code (2 : Nat) (Option.some Jvm.ClassFile.FieldType.int)).before args0 about1 = true := code_word (m := ⟨2, 3⟩) (meth := k2m3) (c := k2c3) (by decide +kernel) rfl rfl rfl (by decide +kernel)
set_option maxRecDepth 65536 in
theorem w_c3 : (Jvm.Cond.code ({ cls := "com/example/adept_layout/adeptlayout/layout/SidePlaces", name := "<init>", desc := "(DDDD)V" } : Jvm.MethodName) prog_20_method_1_code (14 : Nat) (Option.none : Option Jvm.ClassFile.FieldType)).before args0 about1 = true := code_word (m := ⟨3, 0⟩) (meth := k3m0) (c := k3c0) (by decide +kernel) rfl rfl rfl (by decide +kernel)
set_option maxRecDepth 65536 in
theorem w_c4 : (Jvm.Cond.code ({ cls := "java/lang/Object", name := "<init>", desc := "()V" } : Jvm.MethodName) object_method_1_code (1 : Nat) (Option.none : Option Jvm.ClassFile.FieldType)).before args0 about1 = true := code_word (m := ⟨0, 0⟩) (meth := k0m0) (c := k0c0) (by decide +kernel) rfl rfl rfl (by decide +kernel)
set_option maxRecDepth 65536 in
theorem w_c5 : (Jvm.Cond.code ({ cls := "java/lang/Math", name := "max", desc := "(DD)D" } : Jvm.MethodName) jdk_29_method_68_code (4 : Nat) (Option.some Jvm.ClassFile.FieldType.double)).before args0 about1 = true := code_word (m := ⟨2, 2⟩) (meth := k2m2) (c := k2c2) (by decide +kernel) rfl rfl rfl (by decide +kernel)
set_option maxRecDepth 65536 in
theorem w_c6 : (Jvm.Cond.code ({ cls := "java/lang/Math", name := "min", desc := "(DD)D" } : Jvm.MethodName) jdk_29_method_72_code (4 : Nat) (Option.some Jvm.ClassFile.FieldType.double)).before args0 about1 = true := code_word (m := ⟨2, 4⟩) (meth := k2m4) (c := k2c4) (by decide +kernel) rfl rfl rfl (by decide +kernel)
set_option maxRecDepth 65536 in
theorem w_c7 : (Jvm.Cond.code ({ cls := "com/example/adept_layout/adeptlayout/layout/SidePlaces", name := "position", desc := "(DZ)D" } : Jvm.MethodName) prog_20_method_10_code (5 : Nat) (Option.some Jvm.ClassFile.FieldType.double)).before args0 about1 = true := code_word (m := ⟨3, 1⟩) (meth := k3m1) (c := k3c1) (by decide +kernel) rfl rfl rfl (by decide +kernel)
def codes1 : List Jvm.Cond := [Jvm.Cond.code x code maxLocals ret, Jvm.Cond.code ({ cls := "java/lang/Math", name := "max", desc := "(II)I" } : Jvm.MethodName) jdk_29_method_65_code (2 : Nat) (Option.some Jvm.ClassFile.FieldType.int), Jvm.Cond.code ({ cls := "java/lang/Math", name := "min", desc := "(II)I" } : Jvm.MethodName) jdk_29_method_69_code (2 : Nat) (Option.some Jvm.ClassFile.FieldType.int), Jvm.Cond.code ({ cls := "com/example/adept_layout/adeptlayout/layout/SidePlaces", name := "<init>", desc := "(DDDD)V" } : Jvm.MethodName) prog_20_method_1_code (14 : Nat) (Option.none : Option Jvm.ClassFile.FieldType), Jvm.Cond.code ({ cls := "java/lang/Object", name := "<init>", desc := "()V" } : Jvm.MethodName) object_method_1_code (1 : Nat) (Option.none : Option Jvm.ClassFile.FieldType), Jvm.Cond.code ({ cls := "java/lang/Math", name := "max", desc := "(DD)D" } : Jvm.MethodName) jdk_29_method_68_code (4 : Nat) (Option.some Jvm.ClassFile.FieldType.double), Jvm.Cond.code ({ cls := "java/lang/Math", name := "min", desc := "(DD)D" } : Jvm.MethodName) jdk_29_method_72_code (4 : Nat) (Option.some Jvm.ClassFile.FieldType.double), Jvm.Cond.code ({ cls := "com/example/adept_layout/adeptlayout/layout/SidePlaces", name := "position", desc := "(DZ)D" } : Jvm.MethodName) prog_20_method_10_code (5 : Nat) (Option.some Jvm.ClassFile.FieldType.double)]
set_option maxRecDepth 65536 in
theorem codes_eq : words1.filter isCode = codes1 := rfl
theorem w_codes : ∀ c ∈ words1.filter isCode, c.before args0 about1 = true := by
  rw [codes_eq]
  intro c hc
  simp only [codes1, List.mem_cons, List.not_mem_nil, or_false] at hc
  rcases hc with rfl | rfl | rfl | rfl | rfl | rfl | rfl | rfl
  · exact w_c0
  · exact w_c1
  · exact w_c2
  · exact w_c3
  · exact w_c4
  · exact w_c5
  · exact w_c6
  · exact w_c7
set_option maxRecDepth 65536 in
theorem w_t1 : (words1.take 24).all (fun c => isCode c || c.before args0 about1) = true := by decide +kernel
set_option maxRecDepth 65536 in
theorem w_t2 : (words1.drop 24).all (fun c => isCode c || c.before args0 about1) = true := by decide +kernel
theorem w_tables : (allAtoms (Jvm.Cond.code x code maxLocals ret :: tables_1)).before args0 about1 = true := by
  rw [allAtoms_all]
  show words1.all (fun c => c.before args0 about1) = true
  refine all_split ?_ w_codes
  rw [← List.take_append_drop 24 words1, List.all_append, w_t1, w_t2]
  rfl
set_option maxRecDepth 65536 in
theorem w_case : (Jvm.Cond.and given_1 narrow_1).before args0 about1 = true := by decide +kernel
theorem w_applies : (headSpec (Jvm.Cond.code x code maxLocals ret :: tables_1) room_1).applies x e0.platform about1 = true :=
  (Spec.applies_iff w_frames).mpr ⟨w_running, w_runnable, w_alone, w_named, w_hears, w_ripe, w_room, w_tables⟩
theorem atStart : AtStart classFile x code maxLocals ret World_1 tables_1 room_1 Calls_1 rest_1 Pre_1 launch0 p0 e0 about1 theMethod args0 below0 :=
  ⟨lists_1, trivial, launch0.admits_env _ _ _, launch0.least_env, fairChoices_fair.cas, fairChoices_fair.clock, w_frames, w_args, w_heap, w_applies, trivial, trivial, w_case⟩
end start1
theorem witness_1 : WitnessClaimed_1 := ⟨start1.p0, start1.e0, start1.about1, start1.theMethod, start1.args0, start1.below0, start1.atStart⟩
end Jvm.Pilot.@@N@@
