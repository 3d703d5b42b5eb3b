import JvmDerived
import JvmDerived.Pilot.@@N@@Statement
import JvmDerived.Pilot.@@N@@Code
set_option linter.unusedVariables false
set_option linter.unusedSimpArgs false
namespace Jvm.RoadKit
open Sem ClassFile Op Lib Jvm.Stand Jvm.Free Jvm.LawKit
section New
variable {p : Program} {l : Launch} {e : Env} {R : Room} {s : State} {m : MethodId} {args : Array Value} {below : List Frame} {meth : Method} {c : Code} {T : State} {locs : List Loc} {cells slots : Nat}
theorem retI (X : Stand p l e R s m args below meth c T locs cells slots) (hx : p.tables.exec = Jvm.exec) {pc : Nat} {Ls : Array Slot} {z : Int32} {rest : List Value} (hret : meth.sig.returnType = some .int) (hd : decode c.code pc = .ok (.ireturn, 1)) {fs : List Frame}
    (hl : ∀ (f : JFrame) (acts : List Action), f.method = m → f.locked = none → f.entered = [] → (doReturn e (T.setTop f) acts (some (.int z))).1 = T.setFrames fs) : Steps p.tables e below (T.setTop (mkF m pc Ls (.int z :: rest))) (T.setFrames fs) := by
  have hm' : T.vm.method? m = some meth := X.method'
  have hn : narrow .int (.int z) = .int z := rfl
  show Steps p.tables e below (T.setTop { method := m, pc := pc, locals := Ls, stack := _ :: rest, locked := none }) _
  jvm_step X.here [X.here.top, hx, hd, hm', hret, hn]
  first | (intro acts; rw [hl _ acts rfl rfl rfl]) | rw [hl _ _ rfl rfl rfl]
  exact Steps.refl _
/-- the run comes from S to a state of which Φ holds -/
def ownGo (tb : Tables) (e : Env) (below : List Frame) (S : State) (Φ : State → Prop) : Prop := ∃ t, Steps tb e below S t ∧ Φ t
theorem ownStep {tb : Tables} {S S' : State} {Φ : State → Prop} (h : ∀ t, Steps tb e below S' t → Steps tb e below S t) (k : ownGo tb e below S' Φ) : ownGo tb e below S Φ := by
  obtain ⟨t, a, b⟩ := k; exact ⟨t, h t a, b⟩
/-- a body's end: what its contract says -/
def ownEnd (below : List Frame) (s : State) (Q : Option Value → Heap → List Loc → Prop) (k n : Nat) (t : State) : Prop :=
  t.status = .running ∧ ∃ v L, Ended t below (.returned v) ∧ Q v t.heap L ∧ FrameEnd s (.returned v) t L k n
theorem ownFin {tb : Tables} {S : State} {Q : Option Value → Heap → List Loc → Prop} {k n : Nat} (h : ownGo tb e below S (ownEnd below s Q k n)) :
    ∃ s₂ o, Steps tb e below S s₂ ∧ s₂.status = .running ∧ Ended s₂ below o ∧ ∃ v L, o = .returned v ∧ Q v s₂.heap L ∧ FrameEnd s o s₂ L k n := by
  obtain ⟨t, a, b, v, L, c1, d, f⟩ := h; exact ⟨t, _, a, b, c1, v, L, rfl, d, f⟩
theorem ownRet (X : Stand p l e R s m args below meth c T locs cells slots) {g : JFrame} {v : Option Value} {Q : Option Value → Heap → List Loc → Prop} {k n : Nat} (hlocks : meth.locks = false) (hv : meth.sig.returnType = none → v = none)
    (hs : ∀ fs, (∀ (f : JFrame) (acts : List Action), f.method = m → f.locked = none → f.entered = [] → (doReturn e (T.setTop f) acts v).1 = T.setFrames fs) → Steps p.tables e below (T.setTop g) (T.setFrames fs))
    (hQ : Q v T.heap locs) (hc : cells ≤ k) (hn : slots ≤ n) : ownGo p.tables e below (T.setTop g) (ownEnd below s Q k n) := by
  obtain ⟨fs, hr, hrun, hended, hW, hsame⟩ := X.leave hv hlocks
  exact ⟨_, hs fs hr, hrun, v, locs, hended, hQ, ⟨_, rfl⟩, hW, hsame.mono hc hn⟩
def ownEndW (below : List Frame) (s : State) (Q : Option Value → Heap → List Loc → Prop) (k n : Nat) (t : State) : Prop :=
  t.status = .running ∧ ∃ v L, Ended t below (.returned v) ∧ Q v t.heap L ∧ ReturnedEndW s (.returned v) t L k n
theorem ownFinW {tb : Tables} {S : State} {Q : Option Value → Heap → List Loc → Prop} {k n : Nat} (h : ownGo tb e below S (ownEndW below s Q k n)) :
    ∃ s₂ o, Steps tb e below S s₂ ∧ s₂.status = .running ∧ Ended s₂ below o ∧ ∃ v L, o = .returned v ∧ Q v s₂.heap L ∧ ReturnedEndW s o s₂ L k n := by
  obtain ⟨t, a, b, v, L, c1, d, f⟩ := h; exact ⟨t, _, a, b, c1, v, L, rfl, d, f⟩
theorem ownRetW {vm1 : Vm} (X : Stand p l e R (s.setVm vm1) m args below meth c T locs cells slots) {k0 : Nat} (hS : s.Since vm1 k0) (hk : k0 ≤ T.heap.size) {g : JFrame} {v : Option Value} {Q : Option Value → Heap → List Loc → Prop} {k n : Nat} (hlocks : meth.locks = false) (hv : meth.sig.returnType = none → v = none)
    (hs : ∀ fs, (∀ (f : JFrame) (acts : List Action), f.method = m → f.locked = none → f.entered = [] → (doReturn e (T.setTop f) acts v).1 = T.setFrames fs) → Steps p.tables e below (T.setTop g) (T.setFrames fs))
    (hQ : Q v T.heap locs) (hc : cells ≤ k) (hn : slots ≤ n) : ownGo p.tables e below (T.setTop g) (ownEndW below s Q k n) := by
  obtain ⟨fs, hr, hrun, hended, h1, h2, h3, hsame⟩ := X.leaveW hS hk hv hlocks
  exact ⟨_, hs fs hr, hrun, v, locs, hended, hQ, h1, h2, h3, hsame.mono hc hn⟩
end New
section Heaps0
theorem ownNe {Z : State} {C O n d O' n' d' : String} {a0 : Array Value} (L : Laid Z a0 C O n d) (L' : Laid Z a0 C O' n' d') (hn : n ≠ n' := by decide) (ht : (parseFieldDescriptor d).isSome = true := by decide) (ht' : (parseFieldDescriptor d').isSome = true := by decide) : slotOf Z O n d ≠ slotOf Z O' n' d' := by
  obtain ⟨t, h⟩ := Option.isSome_iff_exists.mp ht
  obtain ⟨t', h'⟩ := Option.isSome_iff_exists.mp ht'
  exact slot_ne L L' hn h h'
end Heaps0
section Heaps
variable {Z : State} {h h' h0 : Heap} {ws : List Addr}
theorem own_extOf (K : Keep h h' []) : Ext h h' := ⟨K.1, fun a c q => K.2.1 a c q nin0⟩
theorem own_extRefl (h : Heap) : Ext h h := ⟨Nat.le_refl _, fun _ _ q => q⟩
theorem own_extTrans {h2 : Heap} (E : Ext h h') (F : Ext h' h2) : Ext h h2 := ⟨Nat.le_trans E.1 F.1, fun a c q => F.2 a c (E.2 a c q)⟩
theorem own_staKeep {C n d : String} {w : Value} (F : Sta Z h C n d w) (K : Keep h h' ws) (q : ∀ x ∈ ws, ∀ cell : Cell, h[x]? = some cell → cell.vm.isStatics = false) : Sta Z h' C n d w := by
  obtain ⟨cf, i, k, f, st, cell, h1, h2, h3, h4, h5, h6, h7⟩ := F
  exact ⟨cf, i, k, f, st, cell, h1, h2, h3, h4, K.2.1 st cell h5 (fun z => by rw [q st z cell h5] at h6; cases h6), h6, h7⟩
theorem own_insKeep {a : Addr} {C : String} {b : Bool} (F : Ins Z h a C b) (K : Keep h h' ws) : Ins Z h' a C b := by
  obtain ⟨cell, cT, h1, h2, h3⟩ := F
  obtain ⟨c', e1, e2, e3, -⟩ := K.2.2 a cell h1
  exact ⟨c', cT, e1, h2, by rw [e2, e3]; exact h3⟩
theorem own_scrSet {a : Addr} {cl : Cell} {z j x : Int32} (F : Scr Z h a cl z) (hj : ¬ (j < 0 ∨ cl.slots.size ≤ j.toNatClampNeg)) (W : Wr h h' a j.toNatClampNeg (.int x)) : ∃ cl', Scr Z h' a cl' z := by
  obtain ⟨A, S, N, H⟩ := F
  refine ⟨_, A.same W, by rw [sz_set]; exact S, N, fun i hi => ?_⟩
  rw [sz_set] at hi
  by_cases e : i = j
  · have q := get_hit (v := Value.int x) hj e
    rw [q, atv_of q]
  · have q := get_miss (c := cl) (v := Value.int x) (fun y => hj (Or.inl y)) (fun y => hi (Or.inl y)) e
    have r := H i hi
    rw [← q] at r
    rw [r, atv_of r]
theorem own_scrOf {a : Addr} {k : ClassId} {z : Int32} {vs : List Value} {d : Value} (F : Arv Z h a k .int z vs d) : ∃ cl, Scr Z h a cl z := by
  obtain ⟨c, A, q, S, N, H, G⟩ := F
  refine ⟨c, A, S, N, fun i hi => ?_⟩
  have lt : i.toNatClampNeg < c.slots.size := Nat.lt_of_not_le fun y => hi (Or.inr y)
  obtain ⟨w, hw⟩ := fit_I (G _ lt) (Or.inl rfl)
  have e := H _ lt
  rw [hw] at e
  rw [e, atv_of e]
end Heaps
section Start
variable {args : Array Value} {first s : State} {o : Option Outcome} {idx : List Nat} {t : Term}
theorem own_eqI {k : Int32} (h : (Cond.eq t (.int k)).value args first o s idx = some true) : t.eval args first o idx s = some (.int k) := by
  simp only [Cond.value, Term.eval] at h
  cases ht : t.eval args first o idx s with
  | none => simp [ht] at h
  | some x => cases x <;> simp [ht] at h ⊢; exact h
theorem own_eqJ {k : Int64} (h : (Cond.eq t (.long k)).value args first o s idx = some true) : t.eval args first o idx s = some (.long k) := by
  simp only [Cond.value, Term.eval] at h
  cases ht : t.eval args first o idx s with
  | none => simp [ht] at h
  | some x => cases x <;> simp [ht] at h ⊢; exact h
theorem own_len0 {k : Int32} {a : Addr} {cl : Cell} {ty : FieldType} (h : (Term.length t).eval args first o idx s = some (.int k)) (ht : t.eval args first o idx s = some (.ref a)) (A : Arr s s.heap a cl ty) : cl.slots.size < 2 ^ 31 ∧ cl.slots.size.toInt32 = k := by
  have e5 := A.fin (U := s) (Vm.Alike.refl _)
  simp only [Term.eval, ht, Option.bind_eq_bind, Option.bind_some, e5] at h
  by_cases q : cl.slots.size < 2 ^ 31
  · rw [if_pos q] at h; exact ⟨q, Value.int.inj (Option.some.inj h)⟩
  · rw [if_neg q] at h; cases h
theorem own_idxsub {k j : Int32} (hj : ¬ j < 0) : (Term.sub (.index 0) (.int k)).eval args s o [j.toNatClampNeg] s = some (.int (j - k)) := by
  have q : (Term.index 0).eval args s o [j.toNatClampNeg] s = some (.int j) := idx_at hj
  simp only [Term.eval] at q ⊢
  simpa using q
theorem own_arv0 {Z : State} {a : Addr} {cl : Cell} {ty : FieldType} {d : Value} (A : Arr Z s.heap a cl ty) (h : cl.slots.size < 2 ^ 31 ∧ cl.slots.size.toInt32 = (0 : Int32)) : Arv Z s.heap a cl.cls ty (0 : Int32) [] d := by
  have z : cl.slots.size = 0 := by
    have q := len_toInt h.1
    rw [h.2] at q
    have e0 : (0 : Int32).toInt = 0 := by decide
    omega
  exact ⟨cl, A, rfl, z, by decide, fun k hk => absurd hk (by omega), fun k hk => absurd hk (by omega)⟩
end Start
end Jvm.RoadKit
/- laws to paste: Road.backV (cut by pick.py; bodies as the Statement names them) -/
namespace Jvm.Pilot.@@N@@
namespace StrChars
open Jvm Sem ClassFile Op Lib Jvm.Stand Jvm.Free.XT Jvm.Free.ALB Jvm.Free.JM Jvm.Free
open Jvm.Lib.Cold (StaticIs)
/-- a char array whose places are chars -/
def Ch (a : Addr) (A : Cell) (U : State) : Prop := Arr .char a A U ∧ Typed .char A
theorem Ch.mv {a : Addr} {A : Cell} {U U' : State} (h : Ch a A U) (hal : U.vm.Alike U'.vm) (hh : U'.heap = U.heap) : Ch a A U' := ⟨h.1.mv hal hh, h.2⟩
theorem Ch.keep {a : Addr} {A : Cell} {U U' : State} (h : Ch a A U) (hal : U.vm.Alike U'.vm) (hk : U'.heap[a]? = some A) : Ch a A U' := ⟨h.1.keep hal hk, h.2⟩
/-- what place i of a char[]'s cell holds -/
def cv (A : Cell) (i : Nat) : Int32 := match A.slots[i]? with | some (.int x) => x | _ => 0
theorem Ch.get {a : Addr} {A : Cell} {U : State} (h : Ch a A U) {i : Nat} (hi : i < A.slots.size) : A.slots[i]? = some (.int (cv A i)) := by
  have e := Array.getElem?_eq_getElem hi
  have f := h.2 i _ e
  unfold cv; rw [e]
  generalize A.slots[i] = v at f
  cases v <;> simp [fits] at f ⊢
/-- the byte that i2b leaves of a char -/
def lo8 (x : Int32) : Int32 := x.toInt8.toInt32
theorem fits_lo8 (y : Int32) : fits .byte (.int (lo8 y)) = true := by
  have h1 := y.toInt8.le_toInt
  have h2 := y.toInt8.toInt_lt
  simp only [lo8, fits, Bool.and_eq_true, decide_eq_true_eq, Int32.le_iff_toInt_le, Int8.toInt_toInt32, show (-128 : Int32).toInt = -128 from by decide, show (127 : Int32).toInt = 127 from by decide]
  omega
/-- A' is A but that each place j of lo .. hi - 1 holds f j -/
def Laid (A A' : Cell) (lo hi : Nat) (f : Nat → Value) : Prop := A'.cls = A.cls ∧ A'.vm = A.vm ∧ A'.slots.size = A.slots.size ∧ ∀ i, A'.slots[i]? = if lo ≤ i ∧ i < hi then some (f i) else A.slots[i]?
theorem Laid.zero (A : Cell) (lo : Nat) (f : Nat → Value) : Laid A A lo (lo + 0) f := ⟨rfl, rfl, rfl, fun i => by rw [if_neg (by omega)]⟩
theorem Laid.step {A Ak : Cell} {lo k : Nat} {f : Nat → Value} {v : Value} (h : Laid A Ak lo k f) (hlo : lo ≤ k) (hk : k < Ak.slots.size) (hv : v = f k) : Laid A (Ak.setSlot k v) lo (k + 1) f := by
  refine ⟨h.1, h.2.1, by simpa [Cell.setSlot] using h.2.2.1, fun i => ?_⟩
  by_cases e : k = i
  · subst e; rw [Cell.slots_setSlot_self v hk, if_pos (by omega), hv]
  · rw [Cell.slots_setSlot_ne v e, h.2.2.2 i]
    by_cases q : lo ≤ i ∧ i < k
    · rw [if_pos q, if_pos (by omega)]
    · rw [if_neg q, if_neg (by omega)]
def U16 : String := "java/lang/StringUTF16"
namespace Cmp5
def yN : MethodName := ⟨"java/lang/StringUTF16", "compress", "([CI[BII)I"⟩
abbrev yB : ByteArray := jdk_52_method_21_code
theorem d0 : decode yB 0 = .ok (.iconst 0, 1) := by decide +kernel
theorem d1 : decode yB 1 = .ok (.istore 5, 2) := by decide +kernel
theorem d3 : decode yB 3 = .ok (.iload 5, 2) := by decide +kernel
theorem d5 : decode yB 5 = .ok (.iload 4, 2) := by decide +kernel
theorem d7 : decode yB 7 = .ok (.if_icmp (.ge) 37, 3) := by decide +kernel
theorem d10 : decode yB 10 = .ok (.aload_n 0, 1) := by decide +kernel
theorem d11 : decode yB 11 = .ok (.iload_n 1, 1) := by decide +kernel
theorem d12 : decode yB 12 = .ok (.caload, 1) := by decide +kernel
theorem d13 : decode yB 13 = .ok (.istore 6, 2) := by decide +kernel
theorem d15 : decode yB 15 = .ok (.iload 6, 2) := by decide +kernel
theorem d17 : decode yB 17 = .ok (.sipush 255, 3) := by decide +kernel
theorem d20 : decode yB 20 = .ok (.if_icmp (.le) 6, 3) := by decide +kernel
theorem d26 : decode yB 26 = .ok (.aload_n 2, 1) := by decide +kernel
theorem d27 : decode yB 27 = .ok (.iload_n 3, 1) := by decide +kernel
theorem d28 : decode yB 28 = .ok (.iload 6, 2) := by decide +kernel
theorem d30 : decode yB 30 = .ok (.i2b, 1) := by decide +kernel
theorem d31 : decode yB 31 = .ok (.bastore, 1) := by decide +kernel
theorem d32 : decode yB 32 = .ok (.iinc 1 1, 3) := by decide +kernel
theorem d35 : decode yB 35 = .ok (.iinc 3 1, 3) := by decide +kernel
theorem d38 : decode yB 38 = .ok (.iinc 5 1, 3) := by decide +kernel
theorem d41 : decode yB 41 = .ok (.goto (-38), 3) := by decide +kernel
theorem d44 : decode yB 44 = .ok (.iload 4, 2) := by decide +kernel
theorem d46 : decode yB 46 = .ok (.ireturn, 1) := by decide +kernel
def site : List Cond := []
def tab : Cond := tabOf yN yB 7 (some .int) site
def P (b : Addr) (A : Cell) (d : Addr) (B : Cell) (o q len : Nat) (args : Array Value) (s : State) : Prop := args = #[.ref b, .int (Int32.ofNat o), .ref d, .int (Int32.ofNat q), .int (Int32.ofNat len)] ∧ Ch b A s ∧ Arr .byte d B s ∧ b ≠ d ∧ o + len ≤ A.slots.size ∧ q + len ≤ B.slots.size ∧ ∀ i, i < len → ¬ 255 < cv A (o + i)
def E (b : Addr) (A : Cell) (d : Addr) (B : Cell) (o q len : Nat) (r : Option Value) (s u : State) : Prop := r = some (.int (Int32.ofNat len)) ∧ ∃ B', Put d B' s u ∧ Laid B B' q (q + len) (fun j => Value.int (lo8 (cv A (o + (j - q)))))
/-- no char of the range above 255: len; the places written hold each char's low byte -/
theorem law (l : Launch) (b : Addr) (A : Cell) (d : Addr) (B : Cell) (o q len : Nat) : Law l yN 5 5 0 0 yB 7 (some .int) site (P b A d B o q len) (E b A d B o q len) (copyLocs d q len) 0 0 := by
  refine Law.of_walk (plainFor_of_name (by decide +kernel)) (by decide +kernel) (by decide +kernel) (by decide) (fun _ _ h => by rw [h.1]; rfl) (fun _ U U' hal hh h => ⟨h.1, h.2.1.mv hal hh, h.2.2.1.mv hal hh, h.2.2.2⟩) (fun r U U' V V' h1 hal h2 h => ⟨h.1, h.2.elim fun B' q => ⟨B', q.1.mv h1 h2, q.2⟩⟩) ?_
  intro p e s m args below meth c s₁ X0 hexec hbytes hml hret hlk hnm hown hh0 W hP
  obtain ⟨rfl, hA, hB, hne, l1, l2, hp⟩ := hP
  have c1 : Steps p.tables e below (s₁.setTop (entryFrame m #[.ref b, .int (Int32.ofNat o), .ref d, .int (Int32.ofNat q), .int (Int32.ofNat len)] 7)) (s₁.setTop (mkF m 0 #[.val (.ref b), .val (.int (Int32.ofNat o)), .val (.ref d), .val (.int (Int32.ofNat q)), .val (.int (Int32.ofNat len)), .unset, .unset] [])) := entry rfl
  have hA0 := hA.1.mv X0.warmed.alike hh0
  have hB0 := hB.mv X0.warmed.alike hh0
  have a31 := hA.1.2.2.2
  have c2 : Steps p.tables e below (s₁.setTop (entryFrame m #[.ref b, .int (Int32.ofNat o), .ref d, .int (Int32.ofNat q), .int (Int32.ofNat len)] 7)) (s₁.setTop (mkF m 3 #[.val (.ref b), .val (.int (Int32.ofNat o)), .val (.ref d), .val (.int (Int32.ofNat q)), .val (.int (Int32.ofNat len)), .val (.int 0), .unset] [])) := c1.trans (by
    refine iconstV X0.here hexec rfl 0 (hb hbytes d0) (by decide) ?_
    refine XS.istore X0.here hexec rfl (hb hbytes d1) rfl rfl ?_
    exact Steps.refl _)
  have loop : ∀ (r i : Nat), i + r = len → ∀ (z : Slot), (z = .unset ∨ ∃ w, z = .val w ∧ w.category = 1) → ∀ (Tl : State) (Bk : Cell), Stand p l e { frames := 0, locals := 0, cells := 0, slots := 0 } s m #[.ref b, .int (Int32.ofNat o), .ref d, .int (Int32.ofNat q), .int (Int32.ofNat len)] below meth c Tl ([] ++ copyLocs d q i) 0 0 → Put d Bk s₁ Tl → Laid B Bk q (q + i) (fun j => Value.int (lo8 (cv A (o + (j - q))))) →
      Steps p.tables e below (s₁.setTop (entryFrame m #[.ref b, .int (Int32.ofNat o), .ref d, .int (Int32.ofNat q), .int (Int32.ofNat len)] 7)) (Tl.setTop (mkF m 3 #[.val (.ref b), .val (.int (Int32.ofNat (o + i))), .val (.ref d), .val (.int (Int32.ofNat (q + i))), .val (.int (Int32.ofNat len)), .val (.int (Int32.ofNat i)), z] [])) → ∃ (T' : State) (B' : Cell) (z' : Slot), Stand p l e { frames := 0, locals := 0, cells := 0, slots := 0 } s m #[.ref b, .int (Int32.ofNat o), .ref d, .int (Int32.ofNat q), .int (Int32.ofNat len)] below meth c T' ([] ++ copyLocs d q len) 0 0 ∧ Put d B' s₁ T' ∧ Laid B B' q (q + len) (fun j => Value.int (lo8 (cv A (o + (j - q))))) ∧
      Steps p.tables e below (s₁.setTop (entryFrame m #[.ref b, .int (Int32.ofNat o), .ref d, .int (Int32.ofNat q), .int (Int32.ofNat len)] 7)) (T'.setTop (mkF m 3 #[.val (.ref b), .val (.int (Int32.ofNat (o + len))), .val (.ref d), .val (.int (Int32.ofNat (q + len))), .val (.int (Int32.ofNat len)), .val (.int (Int32.ofNat len)), z'] [])) := by
    intro r
    induction r with
    | zero =>
      intro i hi z hz Tl Bk Xl pl fl cl
      have hil : i = len := by omega
      rw [hil] at Xl fl cl
      exact ⟨Tl, Bk, z, Xl, pl, fl, cl⟩
    | succ r ih =>
      intro i hi z hz Tl Bk Xl pl fl cl
      have all := X0.warmed.alike.symm.trans Xl.warmed.alike
      have hAl := hA0.keep all (pl.other hne hA0.1)
      have hBk := hB0.like all pl.1 fl.1 fl.2.1 fl.2.2.1
      have hlt : q + i < Bk.slots.size := by rw [fl.2.2.1]; omega
      have c3 : Steps p.tables e below (s₁.setTop (entryFrame m #[.ref b, .int (Int32.ofNat o), .ref d, .int (Int32.ofNat q), .int (Int32.ofNat len)] 7)) (Tl.setTop (mkF m 12 #[.val (.ref b), .val (.int (Int32.ofNat (o + i))), .val (.ref d), .val (.int (Int32.ofNat (q + i))), .val (.int (Int32.ofNat len)), .val (.int (Int32.ofNat i)), z] [.int (Int32.ofNat (o + i)), .ref b])) := cl.trans (by
        refine XS.iload Xl.here hexec rfl (hb hbytes d3) rfl ?_
        refine XS.iload Xl.here hexec rfl (hb hbytes d5) rfl ?_
        refine XS.icmpNo Xl.here hexec rfl (hb hbytes d7) rfl (ii_ge_f (lt32 (by omega) (by omega))) ?_
        refine XS.aloadN Xl.here hexec rfl (hb hbytes d10) rfl rfl ?_
        refine XS.iloadN Xl.here hexec rfl (hb hbytes d11) rfl ?_
        exact Steps.refl _)
      have c4 : Steps p.tables e below (s₁.setTop (entryFrame m #[.ref b, .int (Int32.ofNat o), .ref d, .int (Int32.ofNat q), .int (Int32.ofNat len)] 7)) (Tl.setTop (mkF m 13 #[.val (.ref b), .val (.int (Int32.ofNat (o + i))), .val (.ref d), .val (.int (Int32.ofNat (q + i))), .val (.int (Int32.ofNat len)), .val (.int (Int32.ofNat i)), z] [.int (cv A (o + i))])) := c3.trans (by
        refine Xl.aget hexec hAl rfl (hA.get (i := o + i) (by omega)) rfl rfl (hb hbytes d12) ?_
        exact Steps.refl _)
      have c5 : Steps p.tables e below (s₁.setTop (entryFrame m #[.ref b, .int (Int32.ofNat o), .ref d, .int (Int32.ofNat q), .int (Int32.ofNat len)] 7)) (Tl.setTop (mkF m 15 #[.val (.ref b), .val (.int (Int32.ofNat (o + i))), .val (.ref d), .val (.int (Int32.ofNat (q + i))), .val (.int (Int32.ofNat len)), .val (.int (Int32.ofNat i)), .val (.int (cv A (o + i)))] [])) := c4.trans (by
        refine XS.istoreS Xl.here hexec rfl (hb hbytes d13) rfl rfl hz ?_
        exact Steps.refl _)
      have c6 : Steps p.tables e below (s₁.setTop (entryFrame m #[.ref b, .int (Int32.ofNat o), .ref d, .int (Int32.ofNat q), .int (Int32.ofNat len)] 7)) (Tl.setTop (mkF m 31 #[.val (.ref b), .val (.int (Int32.ofNat (o + i))), .val (.ref d), .val (.int (Int32.ofNat (q + i))), .val (.int (Int32.ofNat len)), .val (.int (Int32.ofNat i)), .val (.int (cv A (o + i)))] [.int (lo8 (cv A (o + i))), .int (Int32.ofNat (q + i)), .ref d])) := c5.trans (by
        refine XS.iload Xl.here hexec rfl (hb hbytes d15) rfl ?_
        refine sipushV Xl.here hexec rfl 255 (hb hbytes d17) (by decide) ?_
        refine XS.icmpYes Xl.here hexec rfl (pc0 := 20) rfl (hb hbytes d20) rfl (ii_le_t (hp i (by omega))) (by decide) rfl ?_
        refine XS.aloadN Xl.here hexec rfl (hb hbytes d26) rfl rfl ?_
        refine XS.iloadN Xl.here hexec rfl (hb hbytes d27) rfl ?_
        refine XS.iload Xl.here hexec rfl (hb hbytes d28) rfl ?_
        refine i2b Xl.here hexec rfl (hb hbytes d30) rfl ?_
        exact Steps.refl _)
      obtain ⟨T7, X7, p7, st7⟩ := Xl.aput hexec hBk rfl hlt rfl (fits_lo8 (cv A (o + i))) (g := (mkF m 31 #[.val (.ref b), .val (.int (Int32.ofNat (o + i))), .val (.ref d), .val (.int (Int32.ofNat (q + i))), .val (.int (Int32.ofNat len)), .val (.int (Int32.ofNat i)), .val (.int (cv A (o + i)))] [.int (lo8 (cv A (o + i))), .int (Int32.ofNat (q + i)), .ref d])) rfl (rest := []) rfl (hb hbytes d31)
      have c8 : Steps p.tables e below (s₁.setTop (entryFrame m #[.ref b, .int (Int32.ofNat o), .ref d, .int (Int32.ofNat q), .int (Int32.ofNat len)] 7)) (T7.setTop (mkF m 32 #[.val (.ref b), .val (.int (Int32.ofNat (o + i))), .val (.ref d), .val (.int (Int32.ofNat (q + i))), .val (.int (Int32.ofNat len)), .val (.int (Int32.ofNat i)), .val (.int (cv A (o + i)))] [])) := c6.trans (st7 _ (Steps.refl _))
      have c9 : Steps p.tables e below (s₁.setTop (entryFrame m #[.ref b, .int (Int32.ofNat o), .ref d, .int (Int32.ofNat q), .int (Int32.ofNat len)] 7)) (T7.setTop (mkF m 3 #[.val (.ref b), .val (.int (Int32.ofNat (o + i) + 1)), .val (.ref d), .val (.int (Int32.ofNat (q + i) + 1)), .val (.int (Int32.ofNat len)), .val (.int (Int32.ofNat i + 1)), .val (.int (cv A (o + i)))] [])) := c8.trans (by
        refine iincV X7.here hexec rfl 1 (hb hbytes d32) (by decide) rfl rfl ?_
        refine iincV X7.here hexec rfl 1 (hb hbytes d35) (by decide) rfl rfl ?_
        refine iincV X7.here hexec rfl 1 (hb hbytes d38) (by decide) rfl rfl ?_
        refine XS.goto X7.here hexec rfl (pc0 := 41) rfl (hb hbytes d41) (by decide) rfl ?_
        exact Steps.refl _)
      have c10 : Steps p.tables e below (s₁.setTop (entryFrame m #[.ref b, .int (Int32.ofNat o), .ref d, .int (Int32.ofNat q), .int (Int32.ofNat len)] 7)) (T7.setTop (mkF m 3 #[.val (.ref b), .val (.int (Int32.ofNat (o + (i + 1)))), .val (.ref d), .val (.int (Int32.ofNat (q + (i + 1)))), .val (.int (Int32.ofNat len)), .val (.int (Int32.ofNat (i + 1))), .val (.int (cv A (o + i)))] [])) := by
        have := c9
        rw [succ32, succ32, succ32] at this
        exact this
      exact ih (i + 1) (by omega) _ (Or.inr ⟨_, rfl, rfl⟩) T7 _ (by rw [copyLocs_step, ← List.append_assoc]; exact X7) (pl.trans p7) (fl.step (by omega) hlt (by simp)) c10
  obtain ⟨T9, B9, z9, X9, p9, f9, g9⟩ := loop len 0 (by omega) .unset (Or.inl rfl) s₁ B (by simpa [copyLocs] using X0) ⟨hB0.1, fun _ _ => rfl, rfl⟩ (Laid.zero _ _ _) c2
  have c11 : Steps p.tables e below (s₁.setTop (entryFrame m #[.ref b, .int (Int32.ofNat o), .ref d, .int (Int32.ofNat q), .int (Int32.ofNat len)] 7)) (T9.setTop (mkF m 46 #[.val (.ref b), .val (.int (Int32.ofNat (o + len))), .val (.ref d), .val (.int (Int32.ofNat (q + len))), .val (.int (Int32.ofNat len)), .val (.int (Int32.ofNat len)), z9] [.int (Int32.ofNat len)])) := g9.trans (by
    refine XS.iload X9.here hexec rfl (hb hbytes d3) rfl ?_
    refine XS.iload X9.here hexec rfl (hb hbytes d5) rfl ?_
    refine XS.icmpYes X9.here hexec rfl (pc0 := 7) rfl (hb hbytes d7) rfl (ii_ge_t (nlt32 (by omega) (Nat.le_refl _))) (by decide) rfl ?_
    refine XS.iload X9.here hexec rfl (hb hbytes d44) rfl ?_
    exact Steps.refl _)
  exact ⟨T9, some (.int (Int32.ofNat len)), _, _, _, X9, by simp, rfl, rfl, (fun h => by cases h), ⟨rfl, B9, p9.from hh0, f9⟩, fun fs hl => c11.trans (X9.ireturnOut hexec hret rfl (Or.inl rfl) (hb hbytes d46) hl)⟩
end Cmp5
namespace Cmp3
def yN : MethodName := ⟨"java/lang/StringUTF16", "compress", "([CII)[B"⟩
abbrev yB : ByteArray := jdk_52_method_16_code
theorem d0 : decode yB 0 = .ok (.iload_n 2, 1) := by decide +kernel
theorem d1 : decode yB 1 = .ok (.newarray .byte, 2) := by decide +kernel
theorem d3 : decode yB 3 = .ok (.astore_n 3, 1) := by decide +kernel
theorem d4 : decode yB 4 = .ok (.aload_n 0, 1) := by decide +kernel
theorem d5 : decode yB 5 = .ok (.iload_n 1, 1) := by decide +kernel
theorem d6 : decode yB 6 = .ok (.aload_n 3, 1) := by decide +kernel
theorem d7 : decode yB 7 = .ok (.iconst 0, 1) := by decide +kernel
theorem d8 : decode yB 8 = .ok (.iload_n 2, 1) := by decide +kernel
theorem d9 : decode yB 9 = .ok (.invokestatic 115, 3) := by decide +kernel
theorem d12 : decode yB 12 = .ok (.istore 4, 2) := by decide +kernel
theorem d14 : decode yB 14 = .ok (.iload 4, 2) := by decide +kernel
theorem d16 : decode yB 16 = .ok (.iload_n 2, 1) := by decide +kernel
theorem d17 : decode yB 17 = .ok (.if_icmp (.eq) 40, 3) := by decide +kernel
theorem d57 : decode yB 57 = .ok (.aload_n 3, 1) := by decide +kernel
theorem d58 : decode yB 58 = .ok (.areturn, 1) := by decide +kernel
def site : List Cond := [.arrayClass .byte, Cmp5.tab] ++ staticW U16 115 Cmp5.yN
def tab : Cond := tabOf yN yB 6 (some (.array .byte)) site
def P (b : Addr) (A : Cell) (o len : Nat) (args : Array Value) (s : State) : Prop := args = #[.ref b, .int (Int32.ofNat o), .int (Int32.ofNat len)] ∧ Ch b A s ∧ o + len ≤ A.slots.size ∧ len ≤ 536870912 ∧ ∀ i, i < len → ¬ 255 < cv A (o + i)
def E (b : Addr) (A : Cell) (o len : Nat) (r : Option Value) (s u : State) : Prop := NewArr .byte "[B" len (fun j => .int (lo8 (cv A (o + j)))) r s u ∧ u.heap.size = s.heap.size + 1
/-- no char of the range above 255: a new byte[] of their low bytes -/
theorem law (l : Launch) (b : Addr) (A : Cell) (o len : Nat) : Law l yN 3 3 1 18 yB 6 (some (.array .byte)) site (P b A o len) (E b A o len) [] 1 len := by
  refine Law.of_walk (plainFor_of_name (by decide +kernel)) (by decide +kernel) (by decide +kernel) (by decide) (fun _ _ h => by rw [h.1]; rfl) (fun _ U U' hal hh h => ⟨h.1, h.2.1.mv hal hh, h.2.2⟩) (fun r U U' V V' h1 hal h2 h => ⟨NewArr.mv r U U' V V' h1 hal h2 h.1, by rw [h1, h2]; exact h.2⟩) ?_
  intro p e s m args below meth c s₁ X0 hexec hbytes hml hret hlk hnm hown hh0 W hP
  obtain ⟨rfl, hA, l1, l2, hp⟩ := hP
  have a31 := hA.1.2.2.2
  have c1 : Steps p.tables e below (s₁.setTop (entryFrame m #[.ref b, .int (Int32.ofNat o), .int (Int32.ofNat len)] 6)) (s₁.setTop (mkF m 0 #[.val (.ref b), .val (.int (Int32.ofNat o)), .val (.int (Int32.ofNat len)), .unset, .unset, .unset] [])) := entry rfl
  have c2 : Steps p.tables e below (s₁.setTop (entryFrame m #[.ref b, .int (Int32.ofNat o), .int (Int32.ofNat len)] 6)) (s₁.setTop (mkF m 1 #[.val (.ref b), .val (.int (Int32.ofNat o)), .val (.int (Int32.ofNat len)), .unset, .unset, .unset] [.int (Int32.ofNat len)])) := c1.trans (by
    refine XS.iloadN X0.here hexec rfl (hb hbytes d0) rfl ?_
    exact Steps.refl _)
  obtain ⟨T3, B3, X3, ba3, bs3, bv3, bh3, bf3, st3⟩ := X0.anew hexec (atype := .byte) (wk W (.arrayClass .byte)) rfl (by show len * 1 ≤ _; omega) (by omega) (g := (mkF m 1 #[.val (.ref b), .val (.int (Int32.ofNat o)), .val (.int (Int32.ofNat len)), .unset, .unset, .unset] [.int (Int32.ofNat len)])) rfl (hb hbytes d1) (rest := []) rfl (Nat.le_refl _) (by show 0 + len ≤ len; omega)
  rw [hh0] at ba3 st3
  have kp3 : XT.Kept s T3 := (XT.Kept.of_eq hh0).push bh3
  have hA3 := hA.keep X3.warmed.alike (kp3 _ _ hA.1.1)
  have hne : b ≠ s.heap.size := hA.1.ne
  have c4 : Steps p.tables e below (s₁.setTop (entryFrame m #[.ref b, .int (Int32.ofNat o), .int (Int32.ofNat len)] 6)) (T3.setTop (mkF m 3 #[.val (.ref b), .val (.int (Int32.ofNat o)), .val (.int (Int32.ofNat len)), .unset, .unset, .unset] [.ref s.heap.size])) := c2.trans (st3 _ (Steps.refl _))
  have c5 : Steps p.tables e below (s₁.setTop (entryFrame m #[.ref b, .int (Int32.ofNat o), .int (Int32.ofNat len)] 6)) (T3.setTop (mkF m 9 #[.val (.ref b), .val (.int (Int32.ofNat o)), .val (.int (Int32.ofNat len)), .val (.ref s.heap.size), .unset, .unset] [.int (Int32.ofNat len), .int 0, .ref s.heap.size, .int (Int32.ofNat o), .ref b])) := c4.trans (by
    refine XS.astoreN X3.here hexec rfl (hb hbytes d3) rfl rfl rfl ?_
    refine XS.aloadN X3.here hexec rfl (hb hbytes d4) rfl rfl ?_
    refine XS.iloadN X3.here hexec rfl (hb hbytes d5) rfl ?_
    refine XS.aloadN X3.here hexec rfl (hb hbytes d6) rfl rfl ?_
    refine iconstV X3.here hexec rfl 0 (hb hbytes d7) (by decide) ?_
    refine XS.iloadN X3.here hexec rfl (hb hbytes d8) rfl ?_
    exact Steps.refl _)
  obtain ⟨v6, T6, X6, E6, g6⟩ := X3.callS hexec (Cmp5.law l b A s.heap.size B3 o 0 len) hown (wks W (staticW U16 115 Cmp5.yN)) (wk W Cmp5.tab) (W := 0) (Nat.le_of_ble_eq_true rfl) (Nat.le_of_ble_eq_true rfl) (Nat.le_refl _) (by show 0 + len + 0 ≤ len; omega) (g := (mkF m 9 #[.val (.ref b), .val (.int (Int32.ofNat o)), .val (.int (Int32.ofNat len)), .val (.ref s.heap.size), .unset, .unset] [.int (Int32.ofNat len), .int (Int32.ofNat 0), .ref s.heap.size, .int (Int32.ofNat o), .ref b])) rfl (by rw [hml]; rfl) c5 (argsL := [.ref b, .int (Int32.ofNat o), .ref s.heap.size, .int (Int32.ofNat 0), .int (Int32.ofNat len)]) (rest := []) rfl rfl (by show 2 * 0 + 0 ≤ _; decide) (hb hbytes d9) (⟨rfl, hA3, ba3, hne, l1, by rw [bs3]; simp, hp⟩)
  obtain ⟨rfl, B6, p6, f6⟩ := E6
  have c7 : Steps p.tables e below (s₁.setTop (entryFrame m #[.ref b, .int (Int32.ofNat o), .int (Int32.ofNat len)] 6)) (T6.setTop (mkF m 12 #[.val (.ref b), .val (.int (Int32.ofNat o)), .val (.int (Int32.ofNat len)), .val (.ref s.heap.size), .unset, .unset] [.int (Int32.ofNat len)])) := g6
  have c8 : Steps p.tables e below (s₁.setTop (entryFrame m #[.ref b, .int (Int32.ofNat o), .int (Int32.ofNat len)] 6)) (T6.setTop (mkF m 58 #[.val (.ref b), .val (.int (Int32.ofNat o)), .val (.int (Int32.ofNat len)), .val (.ref s.heap.size), .val (.int (Int32.ofNat len)), .unset] [.ref s.heap.size])) := c7.trans (by
    refine XS.istore X6.here hexec rfl (hb hbytes d12) rfl rfl ?_
    refine XS.iload X6.here hexec rfl (hb hbytes d14) rfl ?_
    refine XS.iloadN X6.here hexec rfl (hb hbytes d16) rfl ?_
    refine XS.icmpYes X6.here hexec rfl (pc0 := 17) rfl (hb hbytes d17) rfl (ii_eq_t rfl) (by decide) rfl ?_
    refine XS.aloadN X6.here hexec rfl (hb hbytes d57) rfl rfl ?_
    exact Steps.refl _)
  have X8 := X6.wide (L' := []) (cells' := 1) (slots' := len) (fun x hx hlt => by
    simp only [List.nil_append, copyLocs, List.mem_map, List.mem_range] at hx
    obtain ⟨i, -, rfl⟩ := hx
    exact absurd hlt (Nat.lt_irrefl _)) (Nat.le_refl _) (by omega)
  exact ⟨T6, some (.ref s.heap.size), _, _, _, X8, rfl, rfl, rfl, (fun h => by cases h), ⟨⟨rfl, B6, ba3.like (X3.warmed.alike.symm.trans X6.warmed.alike) p6.1 f6.1 f6.2.1 f6.2.2.1, f6.2.1.trans bv3, by rw [X6.warmed.alike.findClass, f6.1]; exact bf3, by rw [f6.2.2.1, bs3]; simp, fun j hj => by rw [f6.2.2.2 j, if_pos (by omega)]; rfl, kp3.put p6 (Nat.le_refl _)⟩, by rw [p6.2.2, bh3, hh0]; simp⟩, fun fs hl => c8.trans (X8.areturnOut hexec rfl hret rfl (hb hbytes d58) hl)⟩
end Cmp3
namespace CodL
def yN : MethodName := ⟨"java/lang/StringUTF16", "coderFromArrayLen", "([BI)B"⟩
abbrev yB : ByteArray := jdk_52_method_15_code
theorem d0 : decode yB 0 = .ok (.iload_n 1, 1) := by decide +kernel
theorem d1 : decode yB 1 = .ok (.aload_n 0, 1) := by decide +kernel
theorem d2 : decode yB 2 = .ok (.arraylength, 1) := by decide +kernel
theorem d3 : decode yB 3 = .ok (.isub, 1) := by decide +kernel
theorem d4 : decode yB 4 = .ok (.bipush 31, 2) := by decide +kernel
theorem d6 : decode yB 6 = .ok (.iushr, 1) := by decide +kernel
theorem d7 : decode yB 7 = .ok (.i2b, 1) := by decide +kernel
theorem d8 : decode yB 8 = .ok (.ireturn, 1) := by decide +kernel
def site : List Cond := []
def tab : Cond := tabOf yN yB 2 (some .byte) site
def P (d : Addr) (B : Cell) (args : Array Value) (s : State) : Prop := args = #[.ref d, .int (Int32.ofNat B.slots.size)] ∧ Arr .byte d B s
def E (r : Option Value) (s u : State) : Prop := XT.PureE (some (.int 0)) r s u
/-- an array as long as the number of chars: LATIN1 -/
theorem law (l : Launch) (d : Addr) (B : Cell) : Law l yN 2 2 0 0 yB 2 (some .byte) site (P d B) E [] 0 0 := by
  refine Law.of_walk (plainFor_of_name (by decide +kernel)) (by decide +kernel) (by decide +kernel) (by decide) (fun _ _ h => by rw [h.1]; rfl) (fun _ U U' hal hh h => ⟨h.1, h.2.mv hal hh⟩) (fun r U U' V V' h1 hal h2 h => XT.PureE.mv r U U' V V' h1 hal h2 h) ?_
  intro p e s m args below meth c s₁ X0 hexec hbytes hml hret hlk hnm hown hh0 W hP
  obtain ⟨rfl, hB⟩ := hP
  have hB0 := hB.mv X0.warmed.alike hh0
  have c1 : Steps p.tables e below (s₁.setTop (entryFrame m #[.ref d, .int (Int32.ofNat B.slots.size)] 2)) (s₁.setTop (mkF m 0 #[.val (.ref d), .val (.int (Int32.ofNat B.slots.size))] [])) := entry rfl
  have c2 : Steps p.tables e below (s₁.setTop (entryFrame m #[.ref d, .int (Int32.ofNat B.slots.size)] 2)) (s₁.setTop (mkF m 2 #[.val (.ref d), .val (.int (Int32.ofNat B.slots.size))] [.ref d, .int (Int32.ofNat B.slots.size)])) := c1.trans (by
    refine XS.iloadN X0.here hexec rfl (hb hbytes d0) rfl ?_
    refine XS.aloadN X0.here hexec rfl (hb hbytes d1) rfl rfl ?_
    exact Steps.refl _)
  have c3 : Steps p.tables e below (s₁.setTop (entryFrame m #[.ref d, .int (Int32.ofNat B.slots.size)] 2)) (s₁.setTop (mkF m 8 #[.val (.ref d), .val (.int (Int32.ofNat B.slots.size))] [.int (lo8 (ushr (Int32.ofNat B.slots.size - Int32.ofNat B.slots.size) 31))])) := c2.trans (by
    refine X0.alen hexec hB0 rfl rfl (hb hbytes d2) ?_
    refine XS.isub X0.here hexec rfl (hb hbytes d3) rfl ?_
    refine bipushV X0.here hexec rfl 31 (hb hbytes d4) (by decide) ?_
    refine iushr X0.here hexec rfl (hb hbytes d6) rfl ?_
    refine i2b X0.here hexec rfl (hb hbytes d7) rfl ?_
    exact Steps.refl _)
  have e0 : lo8 (ushr (Int32.ofNat B.slots.size - Int32.ofNat B.slots.size) 31) = 0 := by rw [Int32.sub_self]; decide
  rw [e0] at c3
  exact ⟨s₁, some (.int 0), _, _, _, X0, rfl, rfl, rfl, (fun h => by cases h), ⟨rfl, hh0⟩, fun fs hl => c3.trans (X0.ireturnOut hexec hret rfl (Or.inr (Or.inr (Or.inl rfl))) (hb hbytes d8) hl)⟩
end CodL
/-- the String at a is Latin-1 over a new byte[] (the heap's one new cell): the low bytes of the len chars of A from o on; every cell but a is kept -/
def Got (a : Addr) (D : Cell) (fV fC : Field) (A : Cell) (o len : Nat) (r : Option Value) (s u : State) : Prop := r = none ∧ ∃ D' V : Cell, Blank "java/lang/String" a D' u ∧ Same D D' [fV.slot, fC.slot] ∧ D'.slots[fV.slot]? = some (.ref s.heap.size) ∧ D'.slots[fC.slot]? = some (.int 0) ∧ Arr .byte s.heap.size V u ∧ V.vm = .none ∧ u.vm.findClass "[B" = some V.cls ∧ V.slots.size = len ∧ (∀ j, j < len → V.slots[j]? = some (.int (lo8 (cv A (o + j))))) ∧ (∀ (y : Addr) (c : Cell), y ≠ a → s.heap[y]? = some c → u.heap[y]? = some c) ∧ u.heap.size = s.heap.size + 1
theorem Got.mv {a : Addr} {D A : Cell} {fV fC : Field} {o len : Nat} : ∀ r (U U' V V' : State), U'.heap = U.heap → V.vm.Alike V'.vm → V'.heap = V.heap → Got a D fV fC A o len r U V → Got a D fV fC A o len r U' V' :=
  fun r U U' V V' h1 hal h2 ⟨e0, D', X, a1, a2, a3, a4, a5, a6, a7, a8, a9, a10, a11⟩ => ⟨e0, D', X, a1.mv hal h2, a2, by rw [h1]; exact a3, a4, by rw [h1]; exact a5.mv hal h2, a6, by rw [hal.findClass]; exact a7, a8, a9, by rw [h1, h2]; exact a10, by rw [h1, h2]; exact a11⟩
namespace New4
def yN : MethodName := ⟨"java/lang/String", "<init>", "([CIILjava/lang/Void;)V"⟩
abbrev yB : ByteArray := jdk_42_method_149_code
theorem d0 : decode yB 0 = .ok (.aload_n 0, 1) := by decide +kernel
theorem d1 : decode yB 1 = .ok (.invokespecial 1, 3) := by decide +kernel
theorem d4 : decode yB 4 = .ok (.iload_n 3, 1) := by decide +kernel
theorem d5 : decode yB 5 = .ok (.ifCond (.ne) 22, 3) := by decide +kernel
theorem d27 : decode yB 27 = .ok (.getstatic 38, 3) := by decide +kernel
theorem d30 : decode yB 30 = .ok (.ifCond (.eq) 28, 3) := by decide +kernel
theorem d33 : decode yB 33 = .ok (.aload_n 1, 1) := by decide +kernel
theorem d34 : decode yB 34 = .ok (.iload_n 2, 1) := by decide +kernel
theorem d35 : decode yB 35 = .ok (.iload_n 3, 1) := by decide +kernel
theorem d36 : decode yB 36 = .ok (.invokestatic 177, 3) := by decide +kernel
theorem d39 : decode yB 39 = .ok (.astore 5, 2) := by decide +kernel
theorem d41 : decode yB 41 = .ok (.aload_n 0, 1) := by decide +kernel
theorem d42 : decode yB 42 = .ok (.aload 5, 2) := by decide +kernel
theorem d44 : decode yB 44 = .ok (.iload_n 3, 1) := by decide +kernel
theorem d45 : decode yB 45 = .ok (.invokestatic 47, 3) := by decide +kernel
theorem d48 : decode yB 48 = .ok (.putfield 15, 3) := by decide +kernel
theorem d51 : decode yB 51 = .ok (.aload_n 0, 1) := by decide +kernel
theorem d52 : decode yB 52 = .ok (.aload 5, 2) := by decide +kernel
theorem d54 : decode yB 54 = .ok (.putfield 9, 3) := by decide +kernel
theorem d57 : decode yB 57 = .ok (.return_, 1) := by decide +kernel
def site : List Cond := [.fieldLink "java/lang/String" 38 "java/lang/String" "COMPACT_STRINGS" "Z", Cmp3.tab, CodL.tab, .laysFinal "java/lang/String" "java/lang/String" "value" "[B", .fieldLink "java/lang/String" 9 "java/lang/String" "value" "[B", .laysFinal "java/lang/String" "java/lang/String" "coder" "B", .fieldLink "java/lang/String" 15 "java/lang/String" "coder" "B"] ++ objW "java/lang/String" 1 ++ staticW "java/lang/String" 177 Cmp3.yN ++ staticW "java/lang/String" 47 CodL.yN
def tab : Cond := tabOf yN yB 6 none site
def P (a : Addr) (D : Cell) (fV fC : Field) (b : Addr) (A : Cell) (z : Int32) (o len : Nat) (args : Array Value) (s : State) : Prop := args = #[.ref a, .ref b, .int (Int32.ofNat o), .int (Int32.ofNat len), .null] ∧ Blank "java/lang/String" a D s ∧ Found "java/lang/String" "value" "[B" fV s ∧ Found "java/lang/String" "coder" "B" fC s ∧ Ch b A s ∧ StaticIs s "java/lang/String" "COMPACT_STRINGS" "Z" (.int z) ∧ ¬ z = 0 ∧ 0 < len ∧ o + len ≤ A.slots.size ∧ len ≤ 536870912 ∧ ∀ i, i < len → ¬ 255 < cv A (o + i)
def E (a : Addr) (D : Cell) (fV fC : Field) (A : Cell) (o len : Nat) (r : Option Value) (s u : State) : Prop := Got a D fV fC A o len r s u
/-- len > 0, no char of the range above 255: a Latin-1 String of their low bytes -/
theorem law (l : Launch) (a : Addr) (D : Cell) (fV fC : Field) (b : Addr) (A : Cell) (z : Int32) (o len : Nat) : Law l yN 5 4 2 35 yB 6 none site (P a D fV fC b A z o len) (E a D fV fC A o len) [⟨a, fC.slot⟩, ⟨a, fV.slot⟩] 1 len := by
  refine Law.of_walk (plainFor_of_name (by decide +kernel)) (by decide +kernel) (by decide +kernel) (by decide) (fun _ _ h => by rw [h.1]; rfl) (fun _ U U' hal hh h => ⟨h.1, h.2.1.mv hal hh, h.2.2.1.al hal, h.2.2.2.1.al hal, h.2.2.2.2.1.mv hal hh, h.2.2.2.2.2.1.there hal hh, h.2.2.2.2.2.2⟩) (fun r U U' V V' h1 hal h2 h => Got.mv r U U' V V' h1 hal h2 h) ?_
  intro p e s m args below meth c s₁ X0 hexec hbytes hml hret hlk hnm hown hh0 W hP
  obtain ⟨rfl, hB, f1, f2, hA, s1, hz, l0, l1, l2, hp⟩ := hP
  have a31 := hA.1.2.2.2
  have c1 : Steps p.tables e below (s₁.setTop (entryFrame m #[.ref a, .ref b, .int (Int32.ofNat o), .int (Int32.ofNat len), .null] 6)) (s₁.setTop (mkF m 0 #[.val (.ref a), .val (.ref b), .val (.int (Int32.ofNat o)), .val (.int (Int32.ofNat len)), .val .null, .unset] [])) := entry rfl
  have c2 : Steps p.tables e below (s₁.setTop (entryFrame m #[.ref a, .ref b, .int (Int32.ofNat o), .int (Int32.ofNat len), .null] 6)) (s₁.setTop (mkF m 1 #[.val (.ref a), .val (.ref b), .val (.int (Int32.ofNat o)), .val (.int (Int32.ofNat len)), .val .null, .unset] [.ref a])) := c1.trans (by
    refine XS.aloadN X0.here hexec rfl (hb hbytes d0) rfl rfl ?_
    exact Steps.refl _)
  obtain ⟨T3, X3, q3, st3⟩ := X0.oinit hexec hown (wks W (objW "java/lang/String" 1)) (g := (mkF m 1 #[.val (.ref a), .val (.ref b), .val (.int (Int32.ofNat o)), .val (.int (Int32.ofNat len)), .val .null, .unset] [.ref a])) rfl (by rw [hml]; rfl) (rest := []) rfl (hb hbytes d1) (W := 0) (by show 2 * 0 + 0 ≤ _; decide) (Nat.le_of_ble_eq_true rfl) (Nat.le_of_ble_eq_true rfl)
  have hh3 := q3.trans hh0
  have c4 : Steps p.tables e below (s₁.setTop (entryFrame m #[.ref a, .ref b, .int (Int32.ofNat o), .int (Int32.ofNat len), .null] 6)) (T3.setTop (mkF m 27 #[.val (.ref a), .val (.ref b), .val (.int (Int32.ofNat o)), .val (.int (Int32.ofNat len)), .val .null, .unset] [])) := (c2.trans (st3 _ (Steps.refl _))).trans (by
    refine XS.iloadN X3.here hexec rfl (hb hbytes d4) rfl ?_
    refine XS.ifYes X3.here hexec rfl (pc0 := 5) rfl (hb hbytes d5) rfl (i0_ne_t (nz32 (by omega) l0)) (by decide) rfl ?_
    exact Steps.refl _)
  obtain ⟨T5, X5, q5, st5⟩ := X3.sget hexec hown (wk W (.fieldLink "java/lang/String" 38 "java/lang/String" "COMPACT_STRINGS" "Z")) s1 (fun _ _ h => by rw [hh3]; exact h) (g := (mkF m 27 #[.val (.ref a), .val (.ref b), .val (.int (Int32.ofNat o)), .val (.int (Int32.ofNat len)), .val .null, .unset] [])) rfl (hb hbytes d27)
  have hh5 := q5.trans hh3
  have c6 : Steps p.tables e below (s₁.setTop (entryFrame m #[.ref a, .ref b, .int (Int32.ofNat o), .int (Int32.ofNat len), .null] 6)) (T5.setTop (mkF m 30 #[.val (.ref a), .val (.ref b), .val (.int (Int32.ofNat o)), .val (.int (Int32.ofNat len)), .val .null, .unset] [.int z])) := c4.trans (st5 _ (Steps.refl _))
  have c7 : Steps p.tables e below (s₁.setTop (entryFrame m #[.ref a, .ref b, .int (Int32.ofNat o), .int (Int32.ofNat len), .null] 6)) (T5.setTop (mkF m 36 #[.val (.ref a), .val (.ref b), .val (.int (Int32.ofNat o)), .val (.int (Int32.ofNat len)), .val .null, .unset] [.int (Int32.ofNat len), .int (Int32.ofNat o), .ref b])) := c6.trans (by
    refine XS.ifNo X5.here hexec rfl (hb hbytes d30) rfl (i0_eq_f hz) ?_
    refine XS.aloadN X5.here hexec rfl (hb hbytes d33) rfl rfl ?_
    refine XS.iloadN X5.here hexec rfl (hb hbytes d34) rfl ?_
    refine XS.iloadN X5.here hexec rfl (hb hbytes d35) rfl ?_
    exact Steps.refl _)
  obtain ⟨v8, T8, X8, E8, g8⟩ := X5.callS hexec (Cmp3.law l b A o len) hown (wks W (staticW "java/lang/String" 177 Cmp3.yN)) (wk W Cmp3.tab) (W := 0) (Nat.le_of_ble_eq_true rfl) (Nat.le_of_ble_eq_true rfl) (Nat.le_refl _) (by show 0 + len ≤ len; omega) (g := (mkF m 36 #[.val (.ref a), .val (.ref b), .val (.int (Int32.ofNat o)), .val (.int (Int32.ofNat len)), .val .null, .unset] [.int (Int32.ofNat len), .int (Int32.ofNat o), .ref b])) rfl (by rw [hml]; rfl) c7 (argsL := [.ref b, .int (Int32.ofNat o), .int (Int32.ofNat len)]) (rest := []) rfl rfl (by show 2 * 0 + 0 ≤ _; decide) (hb hbytes d36) (⟨rfl, hA.mv X5.warmed.alike hh5, l1, l2, hp⟩)
  obtain ⟨e8, z8⟩ := E8
  obtain ⟨rfl, N, n1, n2, n3, n4, n5, n6⟩ := NewArr.mv _ T5 s _ _ hh5.symm (Vm.Alike.refl _) rfl e8
  rw [hh5] at z8
  have hB1 := hB.keep X8.warmed.alike (n6 _ _ hB.1)
  have hne : s.heap.size ≠ a := (Nat.ne_of_lt (Array.getElem?_eq_some_iff.mp hB.1).1).symm
  have c9 : Steps p.tables e below (s₁.setTop (entryFrame m #[.ref a, .ref b, .int (Int32.ofNat o), .int (Int32.ofNat len), .null] 6)) (T8.setTop (mkF m 39 #[.val (.ref a), .val (.ref b), .val (.int (Int32.ofNat o)), .val (.int (Int32.ofNat len)), .val .null, .unset] [.ref s.heap.size])) := g8
  have c10 : Steps p.tables e below (s₁.setTop (entryFrame m #[.ref a, .ref b, .int (Int32.ofNat o), .int (Int32.ofNat len), .null] 6)) (T8.setTop (mkF m 45 #[.val (.ref a), .val (.ref b), .val (.int (Int32.ofNat o)), .val (.int (Int32.ofNat len)), .val .null, .val (.ref s.heap.size)] [.int (Int32.ofNat N.slots.size), .ref s.heap.size, .ref a])) := by
    have hc : Steps p.tables e below (s₁.setTop (entryFrame m #[.ref a, .ref b, .int (Int32.ofNat o), .int (Int32.ofNat len), .null] 6)) (T8.setTop (mkF m 45 #[.val (.ref a), .val (.ref b), .val (.int (Int32.ofNat o)), .val (.int (Int32.ofNat len)), .val .null, .val (.ref s.heap.size)] [.int (Int32.ofNat len), .ref s.heap.size, .ref a])) := c9.trans (by
      refine XS.astore X8.here hexec rfl (hb hbytes d39) rfl rfl rfl ?_
      refine XS.aloadN X8.here hexec rfl (hb hbytes d41) rfl rfl ?_
      refine XS.aload X8.here hexec rfl (hb hbytes d42) rfl rfl ?_
      refine XS.iloadN X8.here hexec rfl (hb hbytes d44) rfl ?_
      exact Steps.refl _)
    rw [n4]; exact hc
  obtain ⟨v11, T11, X11, E11, g11⟩ := X8.callS hexec (CodL.law l s.heap.size N) hown (wks W (staticW "java/lang/String" 47 CodL.yN)) (wk W CodL.tab) (W := 1) (Nat.le_of_ble_eq_true rfl) (Nat.le_of_ble_eq_true rfl) (Nat.le_refl _) (by show 0 + len + 0 ≤ len; omega) (g := (mkF m 45 #[.val (.ref a), .val (.ref b), .val (.int (Int32.ofNat o)), .val (.int (Int32.ofNat len)), .val .null, .val (.ref s.heap.size)] [.int (Int32.ofNat N.slots.size), .ref s.heap.size, .ref a])) rfl (by rw [hml]; rfl) c10 (argsL := [.ref s.heap.size, .int (Int32.ofNat N.slots.size)]) (rest := [.ref a]) rfl rfl (by show 2 * 0 + (1 + 0) ≤ _; decide) (hb hbytes d45) (⟨rfl, n1⟩)
  obtain ⟨rfl, q11⟩ := E11
  have hB11 := hB1.mv (X8.warmed.alike.symm.trans X11.warmed.alike) q11
  have c12 : Steps p.tables e below (s₁.setTop (entryFrame m #[.ref a, .ref b, .int (Int32.ofNat o), .int (Int32.ofNat len), .null] 6)) (T11.setTop (mkF m 48 #[.val (.ref a), .val (.ref b), .val (.int (Int32.ofNat o)), .val (.int (Int32.ofNat len)), .val .null, .val (.ref s.heap.size)] [.int 0, .ref a])) := g11
  obtain ⟨T13, X13, p13, bl13, sl13, st13⟩ := X11.finit hexec hown (wk W (.fieldLink "java/lang/String" 15 "java/lang/String" "coder" "B")) (Or.inr ⟨_, (wk W (.laysFinal "java/lang/String" "java/lang/String" "coder" "B"))⟩) (Or.inl ⟨rfl, hnm⟩) f2 (Or.inl rfl) hB11 (t := .byte) (by decide +kernel) rfl (g := (mkF m 48 #[.val (.ref a), .val (.ref b), .val (.int (Int32.ofNat o)), .val (.int (Int32.ofNat len)), .val .null, .val (.ref s.heap.size)] [.int 0, .ref a])) rfl (rest := []) rfl (hb hbytes d48)
  have c14 : Steps p.tables e below (s₁.setTop (entryFrame m #[.ref a, .ref b, .int (Int32.ofNat o), .int (Int32.ofNat len), .null] 6)) (T13.setTop (mkF m 54 #[.val (.ref a), .val (.ref b), .val (.int (Int32.ofNat o)), .val (.int (Int32.ofNat len)), .val .null, .val (.ref s.heap.size)] [.ref s.heap.size, .ref a])) := (c12.trans (st13 _ (Steps.refl _))).trans (by
    refine XS.aloadN X13.here hexec rfl (hb hbytes d51) rfl rfl ?_
    refine XS.aload X13.here hexec rfl (hb hbytes d52) rfl rfl ?_
    exact Steps.refl _)
  obtain ⟨T15, X15, p15, bl15, sl15, st15⟩ := X13.finit hexec hown (wk W (.fieldLink "java/lang/String" 9 "java/lang/String" "value" "[B")) (Or.inr ⟨_, (wk W (.laysFinal "java/lang/String" "java/lang/String" "value" "[B"))⟩) (Or.inl ⟨rfl, hnm⟩) f1 (Or.inl rfl) bl13 (t := (.array .byte)) (by decide +kernel) rfl (g := (mkF m 54 #[.val (.ref a), .val (.ref b), .val (.int (Int32.ofNat o)), .val (.int (Int32.ofNat len)), .val .null, .val (.ref s.heap.size)] [.ref s.heap.size, .ref a])) rfl (rest := []) rfl (hb hbytes d54)
  have c16 : Steps p.tables e below (s₁.setTop (entryFrame m #[.ref a, .ref b, .int (Int32.ofNat o), .int (Int32.ofNat len), .null] 6)) (T15.setTop (mkF m 57 #[.val (.ref a), .val (.ref b), .val (.int (Int32.ofNat o)), .val (.int (Int32.ofNat len)), .val .null, .val (.ref s.heap.size)] [])) := c14.trans (st15 _ (Steps.refl _))
  have ap := apart (Or.inr ⟨_, (wk W (.laysFinal "java/lang/String" "java/lang/String" "value" "[B"))⟩) (Or.inr ⟨_, (wk W (.laysFinal "java/lang/String" "java/lang/String" "coder" "B"))⟩) f1 f2 (t₁ := .array .byte) (t₂ := .byte) (by decide +kernel) (by decide +kernel) (by decide)
  have al := X8.warmed.alike.symm.trans X15.warmed.alike
  have n7 : T11.heap[s.heap.size]? = some N := by rw [q11]; exact n1.1
  exact ⟨T15, none, _, _, _, X15, by simp, rfl, by omega, (fun _ => rfl), ⟨rfl, _, N, bl15, ((Same.refl D _).set _ (by simp)).set _ (by simp), sl15, (Cell.slots_setSlot_ne _ ap).trans sl13, n1.keep al (p15.other hne (p13.other hne n7)), n2, by rw [al.findClass]; exact n3, n4, n5, fun y c h1 h2 => p15.other h1 (p13.other h1 (by rw [q11]; exact n6 y c h2)), by rw [p15.2.2, p13.2.2, q11]; exact z8⟩, fun fs hl => c16.trans (X15.returnOut hexec hret (hb hbytes d57) hl)⟩
end New4
namespace New1
def yN : MethodName := ⟨"java/lang/String", "<init>", "([C)V"⟩
abbrev yB : ByteArray := jdk_42_method_3_code
theorem d0 : decode yB 0 = .ok (.aload_n 0, 1) := by decide +kernel
theorem d1 : decode yB 1 = .ok (.aload_n 1, 1) := by decide +kernel
theorem d2 : decode yB 2 = .ok (.iconst 0, 1) := by decide +kernel
theorem d3 : decode yB 3 = .ok (.aload_n 1, 1) := by decide +kernel
theorem d4 : decode yB 4 = .ok (.arraylength, 1) := by decide +kernel
theorem d5 : decode yB 5 = .ok (.aconst_null, 1) := by decide +kernel
theorem d6 : decode yB 6 = .ok (.invokespecial 27, 3) := by decide +kernel
theorem d9 : decode yB 9 = .ok (.return_, 1) := by decide +kernel
def site : List Cond := [New4.tab] ++ initW "java/lang/String" 27 New4.yN
def tab : Cond := tabOf yN yB 2 none site
def P (a : Addr) (D : Cell) (fV fC : Field) (b : Addr) (A : Cell) (z : Int32) (args : Array Value) (s : State) : Prop := args = #[.ref a, .ref b] ∧ Blank "java/lang/String" a D s ∧ Found "java/lang/String" "value" "[B" fV s ∧ Found "java/lang/String" "coder" "B" fC s ∧ Ch b A s ∧ StaticIs s "java/lang/String" "COMPACT_STRINGS" "Z" (.int z) ∧ ¬ z = 0 ∧ 0 < A.slots.size ∧ A.slots.size ≤ 536870912 ∧ ∀ i, i < A.slots.size → ¬ 255 < cv A i
def E (a : Addr) (D : Cell) (fV fC : Field) (A : Cell) (r : Option Value) (s u : State) : Prop := Got a D fV fC A 0 A.slots.size r s u
/-- new String(chars), not empty, no char above 255: a Latin-1 String of their low bytes -/
theorem law (l : Launch) (a : Addr) (D : Cell) (fV fC : Field) (b : Addr) (A : Cell) (z : Int32) : Law l yN 2 1 3 52 yB 2 none site (P a D fV fC b A z) (E a D fV fC A) [⟨a, fC.slot⟩, ⟨a, fV.slot⟩] 1 A.slots.size := by
  refine Law.of_walk (plainFor_of_name (by decide +kernel)) (by decide +kernel) (by decide +kernel) (by decide) (fun _ _ h => by rw [h.1]; rfl) (fun _ U U' hal hh h => ⟨h.1, h.2.1.mv hal hh, h.2.2.1.al hal, h.2.2.2.1.al hal, h.2.2.2.2.1.mv hal hh, h.2.2.2.2.2.1.there hal hh, h.2.2.2.2.2.2⟩) (fun r U U' V V' h1 hal h2 h => Got.mv r U U' V V' h1 hal h2 h) ?_
  intro p e s m args below meth c s₁ X0 hexec hbytes hml hret hlk hnm hown hh0 W hP
  obtain ⟨rfl, hB, f1, f2, hA, s1, hz, l0, l2, hp⟩ := hP
  have c1 : Steps p.tables e below (s₁.setTop (entryFrame m #[.ref a, .ref b] 2)) (s₁.setTop (mkF m 0 #[.val (.ref a), .val (.ref b)] [])) := entry rfl
  have c2 : Steps p.tables e below (s₁.setTop (entryFrame m #[.ref a, .ref b] 2)) (s₁.setTop (mkF m 6 #[.val (.ref a), .val (.ref b)] [.null, .int (Int32.ofNat A.slots.size), .int 0, .ref b, .ref a])) := c1.trans (by
    refine XS.aloadN X0.here hexec rfl (hb hbytes d0) rfl rfl ?_
    refine XS.aloadN X0.here hexec rfl (hb hbytes d1) rfl rfl ?_
    refine iconstV X0.here hexec rfl 0 (hb hbytes d2) (by decide) ?_
    refine XS.aloadN X0.here hexec rfl (hb hbytes d3) rfl rfl ?_
    refine X0.alen hexec (hA.1.mv X0.warmed.alike hh0) rfl rfl (hb hbytes d4) ?_
    refine XS.aconstNull X0.here hexec rfl (hb hbytes d5) ?_
    exact Steps.refl _)
  obtain ⟨v3, T3, X3, E3, g3⟩ := X0.callN hexec (New4.law l a D fV fC b A z 0 A.slots.size) rfl hown (wks W (initW "java/lang/String" 27 New4.yN)) (W New4.tab (by simp only [site, List.mem_cons, List.mem_append, true_or, or_true])) (W := 0) (Nat.le_of_ble_eq_true rfl) (Nat.le_of_ble_eq_true rfl) (Nat.le_refl _) (by show 0 + A.slots.size ≤ A.slots.size; omega) (g := (mkF m 6 #[.val (.ref a), .val (.ref b)] [.null, .int (Int32.ofNat A.slots.size), .int (Int32.ofNat 0), .ref b, .ref a])) rfl (by rw [hml]; rfl) c2 (argsL := [.ref b, .int (Int32.ofNat 0), .int (Int32.ofNat A.slots.size), .null]) (rest := []) rfl rfl (by show 2 * 0 + 0 ≤ _; decide) (hb hbytes d6) (⟨rfl, hB.mv X0.warmed.alike hh0, f1.al X0.warmed.alike, f2.al X0.warmed.alike, hA.mv X0.warmed.alike hh0, s1.there X0.warmed.alike hh0, hz, l0, by omega, l2, fun i hi => by rw [Nat.zero_add]; exact hp i hi⟩)
  have e0 := Got.mv _ s₁ s _ _ hh0.symm (Vm.Alike.refl _) rfl E3
  obtain rfl := e0.1
  have c4 : Steps p.tables e below (s₁.setTop (entryFrame m #[.ref a, .ref b] 2)) (T3.setTop (mkF m 9 #[.val (.ref a), .val (.ref b)] [])) := g3
  exact ⟨T3, none, _, _, _, X3, by simp, rfl, by omega, (fun _ => rfl), e0, fun fs hl => c4.trans (X3.returnOut hexec hret (hb hbytes d9) hl)⟩
theorem pays {l : Launch} {R : Room} {p : Program} {e : Env} {below : List Frame} {s : State} {sargs : Array Value} {len W : Nat} (a : Addr) (D : Cell) (fV fC : Field) (b : Addr) (A : Cell) (z : Int32) (htab : tab.before sargs s = true) (hfr : 4 ≤ R.frames) (hlo : W + 65 ≤ R.locals) :
    Back l R p e below s sargs yN len W (fun A₁ a₁ => A₁.cells + 1 ≤ R.cells ∧ A₁.slots + A.slots.size ≤ R.slots ∧ P a D fV fC b A z a₁ A₁.U) (fun A₁ _ v₁ B₁ => E a D fV fC A v₁ A₁.U B₁.U ∧ B₁.locs = A₁.locs ++ [⟨a, fC.slot⟩, ⟨a, fV.slot⟩] ∧ B₁.cells = A₁.cells + 1 ∧ B₁.slots = A₁.slots + A.slots.size) :=
  (law l a D fV fC b A z).pays htab hfr (by omega)
end New1
end StrChars
namespace StrChars.Road
open Jvm Sem ClassFile Op Lib Jvm.Stand Jvm.Free Jvm.Free.XT
open Jvm.Lib.Cold (StaticIs)
abbrev ST : String := "java/lang/String"
/-- every table word that New1's law asks, flat -/
abbrev words : List Jvm.Cond := [.code New1.yN New1.yB 2 none, .initialized ST, .methodLink ST 27 New4.yN, .instanceMethod New4.yN,
  .code New4.yN New4.yB 6 none, .fieldLink ST 38 ST "COMPACT_STRINGS" "Z", .laysFinal ST ST "value" "[B", .fieldLink ST 9 ST "value" "[B", .laysFinal ST ST "coder" "B", .fieldLink ST 15 ST "coder" "B",
  .methodLink ST 1 Lib.objectInit, .instanceMethod Lib.objectInit, .code Lib.objectInit ⟨#[0xb1]⟩ 1 none, .methodLink ST 177 Cmp3.yN, .static Cmp3.yN, .methodLink ST 47 CodL.yN, .static CodL.yN,
  .code Cmp3.yN Cmp3.yB 6 (some (.array .byte)), .initialized U16, .arrayClass .byte, .methodLink U16 115 Cmp5.yN, .static Cmp5.yN, .code Cmp5.yN Cmp5.yB 7 (some .int), .code CodL.yN CodL.yB 2 (some .byte)]
theorem tab_of {a : Array Value} {s : State} (h : ∀ w ∈ words, w.before a s = true) : New1.tab.before a s = true := by
  have h5 : Cmp5.tab.before a s = true := unparts (wk h (.code Cmp5.yN Cmp5.yB 7 (some .int))) (wks h (.initialized Cmp5.yN.cls :: Cmp5.site))
  have hc : CodL.tab.before a s = true := unparts (wk h (.code CodL.yN CodL.yB 2 (some .byte))) (wks h (.initialized CodL.yN.cls :: CodL.site))
  have q5 : ∀ w ∈ Cmp5.tab :: words, w.before a s = true := fun w hw => (List.mem_cons.mp hw).elim (fun e => e ▸ h5) (h w)
  have h3 : Cmp3.tab.before a s = true := unparts (wk q5 (.code Cmp3.yN Cmp3.yB 6 (some (.array .byte)))) (wks q5 (.initialized Cmp3.yN.cls :: Cmp3.site))
  have q3 : ∀ w ∈ Cmp3.tab :: CodL.tab :: words, w.before a s = true := fun w hw => (List.mem_cons.mp hw).elim (fun e => e ▸ h3) fun hw => (List.mem_cons.mp hw).elim (fun e => e ▸ hc) (h w)
  have h4 : New4.tab.before a s = true := unparts (wk q3 (.code New4.yN New4.yB 6 none)) (wks q3 (.initialized New4.yN.cls :: New4.site))
  have q4 : ∀ w ∈ New4.tab :: words, w.before a s = true := fun w hw => (List.mem_cons.mp hw).elim (fun e => e ▸ h4) (h w)
  exact unparts (wk q4 (.code New1.yN New1.yB 2 none)) (wks q4 (.initialized New1.yN.cls :: New1.site))
/-- the words ride from the start Z to the walk's own state -/
theorem moved {Z s : State} {a0 args : Array Value} (hZ : Z.Warmed39 s.vm) (hw : ∀ d ∈ words, d.before a0 Z = true) : ∀ d ∈ words, d.before args s = true := fun d hd => by
  have q := hw d hd
  have t : ∀ d ∈ words, d = .arrayClass .byte ∨ (d.onTables && d.keepsFace) = true := by decide +kernel
  rcases t d hd with rfl | t
  · exact RoadKit.mvA hZ q
  · exact RoadKit.mv hZ q t
/-- WHAT COMES BACK, over the tables of the start Z: h the heap at the call, h' behind it -/
def Q (Z : State) (x : Addr) (A : Cell) (h : Heap) (v : Option Value) (h' : Heap) (L : List Loc) : Prop := v = none ∧ (∀ y ∈ L, y.base = x) ∧ RoadKit.Keep h h' [x] ∧ h'.size = h.size + 1 ∧ RoadKit.Exa Z h' x ST ∧ RoadKit.Fld Z h' x ST "value" "[B" (.ref h.size) ∧ RoadKit.Fld Z h' x ST "coder" "B" (.int 0) ∧
  (∃ V : Cell, RoadKit.Arr Z h' h.size V .byte ∧ V.vm = .none ∧ Z.vm.findClass "[B" = some V.cls ∧ V.slots.size = A.slots.size ∧ ∀ j, j < A.slots.size → V.slots[j]? = some (.int (lo8 (cv A j)))) ∧
  ∀ (O n d : String) (w : Value), RoadKit.Fld Z h x O n d w → RoadKit.slotOf Z O n d ≠ RoadKit.slotOf Z ST "value" "[B" → RoadKit.slotOf Z O n d ≠ RoadKit.slotOf Z ST "coder" "B" → RoadKit.Fld Z h' x O n d w
/-- **new String(chars) AT A CALL, IN THE ROAD'S FORM**: for specialBack behind newO: x the fresh String, b the char[] with the cell A -/
theorem back {p : Program} {l : Launch} {e : Env} {R : Room} {s : State} {args : Array Value} {below : List Frame} {len W : Nat} {Z : State} {a0 : Array Value} {h : Heap} (hZ : Z.Warmed39 s.vm) (hw : ∀ d ∈ words, d.before a0 Z = true) {kI : Nat} (wi : (Jvm.Cond.instantiable ST kI).before a0 Z = true)
    {x b : Addr} {A : Cell} {z : Int32} {v0 c0 : Value} (E : RoadKit.Exa Z h x ST) (V : RoadKit.Fld Z h x ST "value" "[B" v0) (C : RoadKit.Fld Z h x ST "coder" "B" c0) (K : RoadKit.Arr Z h b A .char) (hty : Typed .char A) (S : RoadKit.Sta Z h ST "COMPACT_STRINGS" "Z" (.int z)) (hz : ¬ z = 0)
    (l0 : 0 < A.slots.size) (l2 : A.slots.size ≤ 536870912) (hp : ∀ i, i < A.slots.size → ¬ 255 < cv A i) (hfr : 4 ≤ R.frames) (hlo : W + 65 ≤ R.locals) :
    Back l R p e below s args New1.yN len W (fun P a => a = #[.ref x, .ref b] ∧ P.U.heap = h ∧ P.cells + 1 ≤ R.cells ∧ P.slots + A.slots.size ≤ R.slots)
      (fun P _ v B => ∃ L, Q Z x A h v B.U.heap L ∧ B.locs = P.locs ++ L ∧ B.cells = P.cells + 1 ∧ B.slots = P.slots + A.slots.size) := by
  intro m meth c P g ig mk a X hg hsize hdg hW hn hp'
  obtain ⟨rfl, rfl, r1, r2⟩ := hp'
  have al : Z.vm.Alike P.U.vm := hZ.alike.trans X.warmed.alike
  obtain ⟨D, cfV, kV, iV, fV, hD, gV, stV, knV, obV, asV, slV⟩ := id V
  obtain ⟨D', cfC, kC, iC, fC, hD', gC, stC, -, -, asC, slC⟩ := id C
  cases hD.symm.trans hD'
  obtain ⟨D2, kD, e1, e2, e3, e4, e5⟩ := id E
  cases hD.symm.trans e1
  obtain ⟨c2, k2, i1, i2, i3, -⟩ := Cond.instantiable_spec wi
  cases e2.symm.trans i1
  cases e3.symm.trans i2
  obtain ⟨kU, u1, u2⟩ := al.2.2 _ _ e3
  have hB : Blank ST x D P.U := ⟨hD, ⟨knV, fun q hq => by rw [hq] at obV; cases obV⟩, by rw [al.findClass]; exact e2, kU, u1, by rw [u2]; exact i3, by rw [u2]; exact e5 i3⟩
  have F1 : Found ST "value" "[B" fV P.U := ⟨SBG.found_only al ⟨cfV, kV, iV, gV⟩, stV⟩
  have F2 : Found ST "coder" "B" fC P.U := ⟨SBG.found_only al ⟨cfC, kC, iC, gC⟩, stC⟩
  have hA : Ch b A P.U := ⟨⟨K.1, State.isArrayOf_alike al K.2.1, K.2.2, by omega⟩, hty⟩
  have hS : StaticIs P.U ST "COMPACT_STRINGS" "Z" (.int z) := by
    obtain ⟨cfS, iS, kS, fS, st, cS, t1, t2, t3, t4, t5, t6, t7⟩ := S
    exact StaticIs.there (s := { Z with heap := P.U.heap }) ⟨cfS, iS, kS, fS, st, cS, t1, t2, t3, t4, t5, (fun q => by rw [q] at t6; cases t6), t7⟩ al rfl
  obtain ⟨v, B, X', ⟨⟨hv, E', V', q1, q2, q3, q4, q5, q6, q7, q8, q9, q10, q11⟩, hl, hc, hs⟩, st⟩ := New1.pays x D fV fC b A z (tab_of (moved hZ hw)) hfr hlo m meth c P g ig mk _ X hg hsize hdg hW hn ⟨r1, r2, rfl, hB, F1, F2, hA, hS, hz, l0, l2, hp⟩
  have al' : Z.vm.Alike B.U.vm := hZ.alike.trans X'.warmed.alike
  have hsz : E'.slots.size = D.slots.size := by
    obtain ⟨-, -, -, kB, w1, w2, w3⟩ := q1
    obtain ⟨kB', y1, y2⟩ := al'.2.2 _ _ e3
    rw [q2.2.1] at w1
    cases w1.symm.trans y1
    rw [w3, e5 i3, y2]
  refine ⟨v, B, X', ⟨_, ⟨hv, ?_, ⟨by omega, fun y cy hy hn' => q10 y cy (by simpa using hn') hy, fun y cy hy => ?_⟩, q11, ⟨E', _, q1.1, by rw [q2.2.1]; exact e2, by rw [q2.2.1]; exact e3, by rw [q2.1]; exact obV, fun _ => by rw [hsz]; exact e5 i3⟩,
    ⟨E', cfV, kV, iV, fV, q1.1, gV, stV, by rw [q2.1]; exact knV, by rw [q2.1]; exact obV, by rw [q2.2.1]; exact asV, q3⟩, ⟨E', cfC, kC, iC, fC, q1.1, gC, stC, by rw [q2.1]; exact knV, by rw [q2.1]; exact obV, by rw [q2.2.1]; exact asC, q4⟩,
    ⟨V', ⟨q5.1, State.isArrayOf_alike al'.symm q5.2.1, q5.2.2.1⟩, q6, by rw [← al'.findClass]; exact q7, q8, fun j hj => by have := q9 j hj; rwa [Nat.zero_add] at this⟩, fun O n d w F n1 n2 => ?_⟩, hl, hc, hs⟩, st⟩
  · intro y hy
    simp only [List.mem_cons, List.not_mem_nil, or_false] at hy
    rcases hy with rfl | rfl <;> rfl
  · by_cases q : y = x
    · subst q
      cases hD.symm.trans hy
      exact ⟨E', q1.1, q2.2.1, q2.1, hsz⟩
    · exact ⟨cy, q10 y cy q hy, rfl, rfl, rfl⟩
  · obtain ⟨D3, cf, k, i, f, g1, g2, g3, g4, g5, g6, g7⟩ := F
    cases hD.symm.trans g1
    simp only [RoadKit.slotOf, g2, gV, gC, Option.map_some, Option.getD_some] at n1 n2
    exact ⟨E', cf, k, i, f, q1.1, g2, g3, by rw [q2.1]; exact g4, by rw [q2.1]; exact g5, by rw [q2.2.1]; exact g6, by rw [q2.2.2 f.slot (by simp [n1, n2])]; exact g7⟩
end StrChars.Road
namespace StrChars.Road
open Jvm Sem ClassFile Op Lib Jvm.Stand Jvm.Free Jvm.Free.XT
/-- WHAT COMES BACK, the byte[] as a list of values -/
def QA (Z : State) (x : Addr) (zn : Int32) (cs : List Int32) (h : Heap) (v : Option Value) (h' : Heap) (L : List Loc) : Prop := v = none ∧ (∀ y ∈ L, y.base = x) ∧ RoadKit.Keep h h' [x] ∧ h'.size = h.size + 1 ∧ RoadKit.Exa Z h' x ST ∧ RoadKit.Fld Z h' x ST "value" "[B" (.ref h.size) ∧ RoadKit.Fld Z h' x ST "coder" "B" (.int 0) ∧
  (∃ kb, Z.vm.findClass "[B" = some kb ∧ RoadKit.Arv Z h' h.size kb .byte zn (cs.map fun c => .int (lo8 c)) (.int 0)) ∧
  ∀ (O n d : String) (w : Value), RoadKit.Fld Z h x O n d w → RoadKit.slotOf Z O n d ≠ RoadKit.slotOf Z ST "value" "[B" → RoadKit.slotOf Z O n d ≠ RoadKit.slotOf Z ST "coder" "B" → RoadKit.Fld Z h' x O n d w
/-- **new String(chars) AT A CALL, THE ARRAYS AS LISTS**: the char[] at b holds cs, not empty, no char above 255 -/
theorem backArv {p : Program} {l : Launch} {e : Env} {R : Room} {s : State} {args : Array Value} {below : List Frame} {len W : Nat} {Z : State} {a0 : Array Value} {h : Heap} (hZ : Z.Warmed39 s.vm) (hw : ∀ d ∈ words, d.before a0 Z = true) {kI : Nat} (wi : (Jvm.Cond.instantiable ST kI).before a0 Z = true)
    {x b : Addr} {k : ClassId} {zn z : Int32} {cs : List Int32} {dv v0 c0 : Value} (E : RoadKit.Exa Z h x ST) (V : RoadKit.Fld Z h x ST "value" "[B" v0) (C : RoadKit.Fld Z h x ST "coder" "B" c0) (K : RoadKit.Arv Z h b k .char zn (cs.map Value.int) dv) (S : RoadKit.Sta Z h ST "COMPACT_STRINGS" "Z" (.int z)) (hz : ¬ z = 0)
    (hlen : zn.toNatClampNeg = cs.length) (h0 : 0 < cs.length) (hbig : cs.length ≤ 536870912) (hall : ∀ c ∈ cs, ¬ 255 < c) (hfr : 4 ≤ R.frames) (hlo : W + 65 ≤ R.locals) :
    Back l R p e below s args New1.yN len W (fun P a => a = #[.ref x, .ref b] ∧ P.U.heap = h ∧ P.cells + 1 ≤ R.cells ∧ P.slots + cs.length ≤ R.slots)
      (fun P _ v B => ∃ L, QA Z x zn cs h v B.U.heap L ∧ B.locs = P.locs ++ L ∧ B.cells = P.cells + 1 ∧ B.slots = P.slots + cs.length) := by
  obtain ⟨A, K1, K2, K3, K4, K5, K6⟩ := K
  have e : A.slots.size = cs.length := K3.trans hlen
  have hat : ∀ (i : Nat) (hi : i < cs.length), A.slots[i]? = some (.int cs[i]) := fun i hi => by rw [K5 i (by omega)]; simp [List.getD_eq_getElem?_getD, hi]
  have hcv : ∀ (i : Nat) (hi : i < cs.length), cv A i = cs[i] := fun i hi => by unfold cv; rw [hat i hi]
  have hty : Typed .char A := fun i v hv => by
    have hi : i < A.slots.size := (Array.getElem?_eq_some_iff.mp hv).1
    have q := K5 i hi
    rw [hv] at q
    rw [Option.some.inj q]
    exact K6 i hi
  refine Back.mono (back hZ hw wi E V C K1 hty S hz (by omega) (by omega) (fun i hi => by rw [hcv i (by omega)]; exact hall _ (List.getElem_mem _)) hfr hlo) (fun P a hp => ⟨hp.1, hp.2.1, hp.2.2.1, by rw [e]; exact hp.2.2.2⟩) (fun P a v B hp hq => ?_)
  obtain ⟨L, ⟨q1, q2, q3, q4, q5, q6, q7, ⟨V', v1, v2, v3, v4, v5⟩, q9⟩, hl, hc, hs⟩ := hq
  refine ⟨L, ⟨q1, q2, q3, q4, q5, q6, q7, ⟨V'.cls, v3, V', v1, rfl, by rw [v4, e, hlen], K4, fun i hi => ?_, fun i hi => ?_⟩, q9⟩, hl, hc, by rw [hs, e]⟩
  · have hi' : i < cs.length := by omega
    rw [v5 i (by omega), hcv i hi']; simp [List.getD_eq_getElem?_getD, hi']
  · have hi' : i < cs.length := by omega
    simp only [List.getD_eq_getElem?_getD, List.getElem?_map, List.getElem?_eq_getElem hi', Option.map_some, Option.getD_some]
    exact fits_lo8 _
end StrChars.Road
namespace StrChars.Road
open Jvm Sem ClassFile Op Lib Jvm.Stand Jvm.Free Jvm.Free.XT
/-- WHAT COMES BACK, in the writer's own shape -/
def QV (Z : State) (x : Addr) (N : Int32) (bs : List Int32) (h : Heap) (n0 : Nat) (v : Option Value) (h' : Heap) (L : List Loc) : Prop := v = none ∧ RoadKit.Fr n0 L ∧ RoadKit.Keep h h' [x] ∧ RoadKit.Exa Z h' x ST ∧ RoadKit.Fld Z h' x ST "coder" "B" (.int 0) ∧
  ∃ (t : Addr) (kb : ClassId), n0 ≤ t ∧ h.size ≤ t ∧ ¬ t = x ∧ RoadKit.Fld Z h' x ST "value" "[B" (.ref t) ∧ RoadKit.Arv Z h' t kb .byte N (bs.map Value.int) (.int 0)
/-- **new String(chars) AT A CALL, FOR THE WRITER**: a char[] of n known ints, each 0 to 255 -/
theorem backV {p : Program} {l : Launch} {e : Env} {R : Room} {s : State} {args : Array Value} {below : List Frame} {len W : Nat} {Z : State} {a0 : Array Value} {h : Heap} (hZ : Z.Warmed39 s.vm) (hw : ∀ d ∈ words, d.before a0 Z = true) {kI : Nat} (wi : (Jvm.Cond.instantiable ST kI).before a0 Z = true)
    {x b : Addr} {kC : ClassId} {cs bs : List Int32} {d v0 c0 : Value} {z N : Int32} {n n0 : Nat} (hx0 : n0 ≤ x) (hh0 : n0 ≤ h.size) (E : RoadKit.Exa Z h x ST) (V : RoadKit.Fld Z h x ST "value" "[B" v0) (C : RoadKit.Fld Z h x ST "coder" "B" c0) (K : RoadKit.Arv Z h b kC .char N (cs.map Value.int) d) (S : RoadKit.Sta Z h ST "COMPACT_STRINGS" "Z" (.int z)) (hz : ¬ z = 0)
    (hn : cs.length = n) (hN : N = Int32.ofNat n) (l0 : 0 < n) (l2 : n ≤ 4000) (hp : ∀ c ∈ cs, ¬ c < 0 ∧ ¬ (255 : Int32) < c) (hb : bs = cs.map (fun c => c.toInt8.toInt32)) (hfr : 4 ≤ R.frames) (hlo : W + 65 ≤ R.locals) :
    Back l R p e below s args (⟨"java/lang/String", "<init>", "([C)V"⟩ : MethodName) len W (fun P a => a = #[.ref x, .ref b] ∧ P.U.heap = h ∧ P.cells + 1 ≤ R.cells ∧ P.slots + n ≤ R.slots)
      (fun P _ v B => ∃ L, QV Z x N bs h n0 v B.U.heap L ∧ B.locs = P.locs ++ L ∧ B.cells = P.cells + 1 ∧ B.slots = P.slots + n) := by
  subst hn hN hb
  refine Back.mono (backArv hZ hw wi E V C K S hz (n32 (by omega)) l0 (by omega) (fun c hc => (hp c hc).2) hfr hlo) (fun P a hp => hp) (fun P a v B hp hq => ?_)
  obtain ⟨L, ⟨q1, q2, q3, q4, q5, q6, q7, ⟨kb, v1, v2⟩, q9⟩, hl, hc, hs⟩ := hq
  exact ⟨L, ⟨q1, fun y hy => by rw [q2 y hy]; exact hx0, q3, q5, q7, h.size, kb, hh0, Nat.le_refl _, Nat.ne_of_gt E.lt, q6, by rw [List.map_map]; exact v2⟩, hl, hc, hs⟩
end StrChars.Road
end Jvm.Pilot.@@N@@

namespace Jvm.Pilot.@@N@@
open Jvm Jvm.ClassFile Sem Op Lib Jvm.Free Jvm.Stand Jvm.LawKit Jvm.RoadKit Bundle Jvm.Pilot.@@N@@.Jvm.D
def ow0 := List.mem_of_getElem? (l := tables_1) (i := 0) rfl
def ow1 := List.mem_of_getElem? (l := tables_1) (i := 1) rfl
def ow2 := List.mem_of_getElem? (l := tables_1) (i := 2) rfl
def ow3 := List.mem_of_getElem? (l := tables_1) (i := 3) rfl
def ow4 := List.mem_of_getElem? (l := tables_1) (i := 4) rfl
def ow5 := List.mem_of_getElem? (l := tables_1) (i := 5) rfl
def ow6 := List.mem_of_getElem? (l := tables_1) (i := 6) rfl
def ow7 := List.mem_of_getElem? (l := tables_1) (i := 7) rfl
def ow8 := List.mem_of_getElem? (l := tables_1) (i := 8) rfl
def ow9 := List.mem_of_getElem? (l := tables_1) (i := 9) rfl
def ow10 := List.mem_of_getElem? (l := tables_1) (i := 10) rfl
def ow11 := List.mem_of_getElem? (l := tables_1) (i := 11) rfl
def ow12 := List.mem_of_getElem? (l := tables_1) (i := 12) rfl
def ow13 := List.mem_of_getElem? (l := tables_1) (i := 13) rfl
def ow15 := List.mem_of_getElem? (l := tables_1) (i := 15) rfl
def ow16 := List.mem_of_getElem? (l := tables_1) (i := 16) rfl
def ow18 := List.mem_of_getElem? (l := tables_1) (i := 18) rfl
def ow19 := List.mem_of_getElem? (l := tables_1) (i := 19) rfl
def ow20 := List.mem_of_getElem? (l := tables_1) (i := 20) rfl
def ow21 := List.mem_of_getElem? (l := tables_1) (i := 21) rfl
def ow22 := List.mem_of_getElem? (l := tables_1) (i := 22) rfl
def ow23 := List.mem_of_getElem? (l := tables_1) (i := 23) rfl
def ow24 := List.mem_of_getElem? (l := tables_1) (i := 24) rfl
def ow25 := List.mem_of_getElem? (l := tables_1) (i := 25) rfl
def ow26 := List.mem_of_getElem? (l := tables_1) (i := 26) rfl
def ow28 := List.mem_of_getElem? (l := tables_1) (i := 28) rfl
def ow29 := List.mem_of_getElem? (l := tables_1) (i := 29) rfl
def ow30 := List.mem_of_getElem? (l := tables_1) (i := 30) rfl
def ow44 := List.mem_of_getElem? (l := tables_1) (i := 44) rfl
def ow45 := List.mem_of_getElem? (l := tables_1) (i := 45) rfl
def ow46 := List.mem_of_getElem? (l := tables_1) (i := 46) rfl
def ow47 := List.mem_of_getElem? (l := tables_1) (i := 47) rfl
def ow48 := List.mem_of_getElem? (l := tables_1) (i := 48) rfl
def ow49 := List.mem_of_getElem? (l := tables_1) (i := 49) rfl
def ow50 := List.mem_of_getElem? (l := tables_1) (i := 50) rfl
def ow51 := List.mem_of_getElem? (l := tables_1) (i := 51) rfl
def ow52 := List.mem_of_getElem? (l := tables_1) (i := 52) rfl
def ow53 := List.mem_of_getElem? (l := tables_1) (i := 53) rfl
def ow56 := List.mem_of_getElem? (l := tables_1) (i := 56) rfl
def ow57 := List.mem_of_getElem? (l := tables_1) (i := 57) rfl
def ow58 := List.mem_of_getElem? (l := tables_1) (i := 58) rfl
def ow59 := List.mem_of_getElem? (l := tables_1) (i := 59) rfl
def ow60 := List.mem_of_getElem? (l := tables_1) (i := 60) rfl
def ow61 := List.mem_of_getElem? (l := tables_1) (i := 61) rfl
def ow62 := List.mem_of_getElem? (l := tables_1) (i := 62) rfl
def ow63 := List.mem_of_getElem? (l := tables_1) (i := 63) rfl
def ow64 := List.mem_of_getElem? (l := tables_1) (i := 64) rfl
def ow65 := List.mem_of_getElem? (l := tables_1) (i := 65) rfl
def ow66 := List.mem_of_getElem? (l := tables_1) (i := 66) rfl
def ow67 := List.mem_of_getElem? (l := tables_1) (i := 67) rfl
def ow68 := List.mem_of_getElem? (l := tables_1) (i := 68) rfl
def ow69 := List.mem_of_getElem? (l := tables_1) (i := 69) rfl
def ow70 := List.mem_of_getElem? (l := tables_1) (i := 70) rfl
def ow71 := List.mem_of_getElem? (l := tables_1) (i := 71) rfl
def ow72 := List.mem_of_getElem? (l := tables_1) (i := 72) rfl
def ow73 := List.mem_of_getElem? (l := tables_1) (i := 73) rfl
def ow74 := List.mem_of_getElem? (l := tables_1) (i := 74) rfl
def ow75 := List.mem_of_getElem? (l := tables_1) (i := 75) rfl
def ow76 := List.mem_of_getElem? (l := tables_1) (i := 76) rfl
def ow77 := List.mem_of_getElem? (l := tables_1) (i := 77) rfl
def ow78 := List.mem_of_getElem? (l := tables_1) (i := 78) rfl
def ow79 := List.mem_of_getElem? (l := tables_1) (i := 79) rfl
def ow80 := List.mem_of_getElem? (l := tables_1) (i := 80) rfl
def ow81 := List.mem_of_getElem? (l := tables_1) (i := 81) rfl
def ow83 := List.mem_of_getElem? (l := tables_1) (i := 83) rfl
def ow84 := List.mem_of_getElem? (l := tables_1) (i := 84) rfl
def ow85 := List.mem_of_getElem? (l := tables_1) (i := 85) rfl
def ow86 := List.mem_of_getElem? (l := tables_1) (i := 86) rfl
def ow87 := List.mem_of_getElem? (l := tables_1) (i := 87) rfl
def ow88 := List.mem_of_getElem? (l := tables_1) (i := 88) rfl
def ow89 := List.mem_of_getElem? (l := tables_1) (i := 89) rfl
def ow90 := List.mem_of_getElem? (l := tables_1) (i := 90) rfl
def ow91 := List.mem_of_getElem? (l := tables_1) (i := 91) rfl
def ow92 := List.mem_of_getElem? (l := tables_1) (i := 92) rfl
def ow93 := List.mem_of_getElem? (l := tables_1) (i := 93) rfl
def ow94 := List.mem_of_getElem? (l := tables_1) (i := 94) rfl
def ow95 := List.mem_of_getElem? (l := tables_1) (i := 95) rfl
def ow96 := List.mem_of_getElem? (l := tables_1) (i := 96) rfl
def ow97 := List.mem_of_getElem? (l := tables_1) (i := 97) rfl
def ow98 := List.mem_of_getElem? (l := tables_1) (i := 98) rfl
def ow99 := List.mem_of_getElem? (l := tables_1) (i := 99) rfl
def ow100 := List.mem_of_getElem? (l := tables_1) (i := 100) rfl
def ow101 := List.mem_of_getElem? (l := tables_1) (i := 101) rfl
def ow102 := List.mem_of_getElem? (l := tables_1) (i := 102) rfl
def ow103 := List.mem_of_getElem? (l := tables_1) (i := 103) rfl
def ow104 := List.mem_of_getElem? (l := tables_1) (i := 104) rfl
def ow105 := List.mem_of_getElem? (l := tables_1) (i := 105) rfl
def ow106 := List.mem_of_getElem? (l := tables_1) (i := 106) rfl
def ow107 := List.mem_of_getElem? (l := tables_1) (i := 107) rfl
def ow108 := List.mem_of_getElem? (l := tables_1) (i := 108) rfl
def ow109 := List.mem_of_getElem? (l := tables_1) (i := 109) rfl
def ow110 := List.mem_of_getElem? (l := tables_1) (i := 110) rfl
def ow111 := List.mem_of_getElem? (l := tables_1) (i := 111) rfl
def ow112 := List.mem_of_getElem? (l := tables_1) (i := 112) rfl
def ow113 := List.mem_of_getElem? (l := tables_1) (i := 113) rfl
def ow114 := List.mem_of_getElem? (l := tables_1) (i := 114) rfl
def ow115 := List.mem_of_getElem? (l := tables_1) (i := 115) rfl
def ow116 := List.mem_of_getElem? (l := tables_1) (i := 116) rfl
def ow117 := List.mem_of_getElem? (l := tables_1) (i := 117) rfl
def ow118 := List.mem_of_getElem? (l := tables_1) (i := 118) rfl
def ow119 := List.mem_of_getElem? (l := tables_1) (i := 119) rfl
def ow120 := List.mem_of_getElem? (l := tables_1) (i := 120) rfl
def ow121 := List.mem_of_getElem? (l := tables_1) (i := 121) rfl
def ow122 := List.mem_of_getElem? (l := tables_1) (i := 122) rfl
def ow123 := List.mem_of_getElem? (l := tables_1) (i := 123) rfl
def ow124 := List.mem_of_getElem? (l := tables_1) (i := 124) rfl
def ow125 := List.mem_of_getElem? (l := tables_1) (i := 125) rfl
def ow126 := List.mem_of_getElem? (l := tables_1) (i := 126) rfl
def ow127 := List.mem_of_getElem? (l := tables_1) (i := 127) rfl
def ow128 := List.mem_of_getElem? (l := tables_1) (i := 128) rfl
def ow129 := List.mem_of_getElem? (l := tables_1) (i := 129) rfl
def ow130 := List.mem_of_getElem? (l := tables_1) (i := 130) rfl
def ow131 := List.mem_of_getElem? (l := tables_1) (i := 131) rfl
def ow132 := List.mem_of_getElem? (l := tables_1) (i := 132) rfl
def ow133 := List.mem_of_getElem? (l := tables_1) (i := 133) rfl
def ow134 := List.mem_of_getElem? (l := tables_1) (i := 134) rfl
def ow135 := List.mem_of_getElem? (l := tables_1) (i := 135) rfl
def ow136 := List.mem_of_getElem? (l := tables_1) (i := 136) rfl
def ow137 := List.mem_of_getElem? (l := tables_1) (i := 137) rfl
def ow138 := List.mem_of_getElem? (l := tables_1) (i := 138) rfl
def ow139 := List.mem_of_getElem? (l := tables_1) (i := 139) rfl
def ow140 := List.mem_of_getElem? (l := tables_1) (i := 140) rfl
def ow141 := List.mem_of_getElem? (l := tables_1) (i := 141) rfl
def ow142 := List.mem_of_getElem? (l := tables_1) (i := 142) rfl
def ow143 := List.mem_of_getElem? (l := tables_1) (i := 143) rfl
def ow144 := List.mem_of_getElem? (l := tables_1) (i := 144) rfl
def ow145 := List.mem_of_getElem? (l := tables_1) (i := 145) rfl
def ow146 := List.mem_of_getElem? (l := tables_1) (i := 146) rfl
def ow147 := List.mem_of_getElem? (l := tables_1) (i := 147) rfl
def ow148 := List.mem_of_getElem? (l := tables_1) (i := 148) rfl
def ow149 := List.mem_of_getElem? (l := tables_1) (i := 149) rfl
def ow150 := List.mem_of_getElem? (l := tables_1) (i := 150) rfl
def ow151 := List.mem_of_getElem? (l := tables_1) (i := 151) rfl
def ow152 := List.mem_of_getElem? (l := tables_1) (i := 152) rfl
def ow153 := List.mem_of_getElem? (l := tables_1) (i := 153) rfl
def ow154 := List.mem_of_getElem? (l := tables_1) (i := 154) rfl
def ow155 := List.mem_of_getElem? (l := tables_1) (i := 155) rfl
def ow156 := List.mem_of_getElem? (l := tables_1) (i := 156) rfl
def ow157 := List.mem_of_getElem? (l := tables_1) (i := 157) rfl
def ow158 := List.mem_of_getElem? (l := tables_1) (i := 158) rfl
def ow159 := List.mem_of_getElem? (l := tables_1) (i := 159) rfl
def ow160 := List.mem_of_getElem? (l := tables_1) (i := 160) rfl
def ow161 := List.mem_of_getElem? (l := tables_1) (i := 161) rfl
def ow162 := List.mem_of_getElem? (l := tables_1) (i := 162) rfl
def ow163 := List.mem_of_getElem? (l := tables_1) (i := 163) rfl
def ow164 := List.mem_of_getElem? (l := tables_1) (i := 164) rfl
def ow165 := List.mem_of_getElem? (l := tables_1) (i := 165) rfl
def ow166 := List.mem_of_getElem? (l := tables_1) (i := 166) rfl
def ow167 := List.mem_of_getElem? (l := tables_1) (i := 167) rfl
def ow168 := List.mem_of_getElem? (l := tables_1) (i := 168) rfl
def ow169 := List.mem_of_getElem? (l := tables_1) (i := 169) rfl
def ow170 := List.mem_of_getElem? (l := tables_1) (i := 170) rfl
def ow171 := List.mem_of_getElem? (l := tables_1) (i := 171) rfl
def ow172 := List.mem_of_getElem? (l := tables_1) (i := 172) rfl
def ow173 := List.mem_of_getElem? (l := tables_1) (i := 173) rfl
def ow174 := List.mem_of_getElem? (l := tables_1) (i := 174) rfl
def ow175 := List.mem_of_getElem? (l := tables_1) (i := 175) rfl
def ow176 := List.mem_of_getElem? (l := tables_1) (i := 176) rfl
def ow177 := List.mem_of_getElem? (l := tables_1) (i := 177) rfl
def ow178 := List.mem_of_getElem? (l := tables_1) (i := 178) rfl
def ow179 := List.mem_of_getElem? (l := tables_1) (i := 179) rfl
def ow180 := List.mem_of_getElem? (l := tables_1) (i := 180) rfl
def ow181 := List.mem_of_getElem? (l := tables_1) (i := 181) rfl
def ow182 := List.mem_of_getElem? (l := tables_1) (i := 182) rfl
def ow183 := List.mem_of_getElem? (l := tables_1) (i := 183) rfl
def ow184 := List.mem_of_getElem? (l := tables_1) (i := 184) rfl
def ow185 := List.mem_of_getElem? (l := tables_1) (i := 185) rfl
def ow186 := List.mem_of_getElem? (l := tables_1) (i := 186) rfl
def ow187 := List.mem_of_getElem? (l := tables_1) (i := 187) rfl
def ow188 := List.mem_of_getElem? (l := tables_1) (i := 188) rfl
def ow189 := List.mem_of_getElem? (l := tables_1) (i := 189) rfl
def ow190 := List.mem_of_getElem? (l := tables_1) (i := 190) rfl
def ow191 := List.mem_of_getElem? (l := tables_1) (i := 191) rfl
def ow192 := List.mem_of_getElem? (l := tables_1) (i := 192) rfl
def ow193 := List.mem_of_getElem? (l := tables_1) (i := 193) rfl
def ow194 := List.mem_of_getElem? (l := tables_1) (i := 194) rfl
def ow195 := List.mem_of_getElem? (l := tables_1) (i := 195) rfl
def ow196 := List.mem_of_getElem? (l := tables_1) (i := 196) rfl
def ow197 := List.mem_of_getElem? (l := tables_1) (i := 197) rfl
def ow198 := List.mem_of_getElem? (l := tables_1) (i := 198) rfl
def ow199 := List.mem_of_getElem? (l := tables_1) (i := 199) rfl
def ow200 := List.mem_of_getElem? (l := tables_1) (i := 200) rfl
def ow201 := List.mem_of_getElem? (l := tables_1) (i := 201) rfl
def ow202 := List.mem_of_getElem? (l := tables_1) (i := 202) rfl
def ow203 := List.mem_of_getElem? (l := tables_1) (i := 203) rfl
def ow204 := List.mem_of_getElem? (l := tables_1) (i := 204) rfl
def ow205 := List.mem_of_getElem? (l := tables_1) (i := 205) rfl
def ow206 := List.mem_of_getElem? (l := tables_1) (i := 206) rfl
def ow207 := List.mem_of_getElem? (l := tables_1) (i := 207) rfl
def ow208 := List.mem_of_getElem? (l := tables_1) (i := 208) rfl
def ow209 := List.mem_of_getElem? (l := tables_1) (i := 209) rfl
def ow210 := List.mem_of_getElem? (l := tables_1) (i := 210) rfl
def ow211 := List.mem_of_getElem? (l := tables_1) (i := 211) rfl
def ow212 := List.mem_of_getElem? (l := tables_1) (i := 212) rfl
def ow213 := List.mem_of_getElem? (l := tables_1) (i := 213) rfl
def ow214 := List.mem_of_getElem? (l := tables_1) (i := 214) rfl
def ow215 := List.mem_of_getElem? (l := tables_1) (i := 215) rfl
def ow216 := List.mem_of_getElem? (l := tables_1) (i := 216) rfl
def ow217 := List.mem_of_getElem? (l := tables_1) (i := 217) rfl
def ow218 := List.mem_of_getElem? (l := tables_1) (i := 218) rfl
def ow219 := List.mem_of_getElem? (l := tables_1) (i := 219) rfl
def ow221 := List.mem_of_getElem? (l := tables_1) (i := 221) rfl
def ow222 := List.mem_of_getElem? (l := tables_1) (i := 222) rfl
def ow223 := List.mem_of_getElem? (l := tables_1) (i := 223) rfl
def ow224 := List.mem_of_getElem? (l := tables_1) (i := 224) rfl
def ow225 := List.mem_of_getElem? (l := tables_1) (i := 225) rfl
def ow226 := List.mem_of_getElem? (l := tables_1) (i := 226) rfl
def ow227 := List.mem_of_getElem? (l := tables_1) (i := 227) rfl
def ow228 := List.mem_of_getElem? (l := tables_1) (i := 228) rfl
def ow229 := List.mem_of_getElem? (l := tables_1) (i := 229) rfl
def ow230 := List.mem_of_getElem? (l := tables_1) (i := 230) rfl
def ow231 := List.mem_of_getElem? (l := tables_1) (i := 231) rfl
def ow232 := List.mem_of_getElem? (l := tables_1) (i := 232) rfl
def ow233 := List.mem_of_getElem? (l := tables_1) (i := 233) rfl
def ow234 := List.mem_of_getElem? (l := tables_1) (i := 234) rfl
def ow235 := List.mem_of_getElem? (l := tables_1) (i := 235) rfl
def ow236 := List.mem_of_getElem? (l := tables_1) (i := 236) rfl
def ow237 := List.mem_of_getElem? (l := tables_1) (i := 237) rfl
def ow238 := List.mem_of_getElem? (l := tables_1) (i := 238) rfl
def ow239 := List.mem_of_getElem? (l := tables_1) (i := 239) rfl
def ow240 := List.mem_of_getElem? (l := tables_1) (i := 240) rfl
def ow241 := List.mem_of_getElem? (l := tables_1) (i := 241) rfl
def ow242 := List.mem_of_getElem? (l := tables_1) (i := 242) rfl
def ow243 := List.mem_of_getElem? (l := tables_1) (i := 243) rfl
def ow244 := List.mem_of_getElem? (l := tables_1) (i := 244) rfl
def ow245 := List.mem_of_getElem? (l := tables_1) (i := 245) rfl
def ow246 := List.mem_of_getElem? (l := tables_1) (i := 246) rfl
def ow247 := List.mem_of_getElem? (l := tables_1) (i := 247) rfl
def ow248 := List.mem_of_getElem? (l := tables_1) (i := 248) rfl
def ow249 := List.mem_of_getElem? (l := tables_1) (i := 249) rfl
def ow250 := List.mem_of_getElem? (l := tables_1) (i := 250) rfl
def ow251 := List.mem_of_getElem? (l := tables_1) (i := 251) rfl
def ow252 := List.mem_of_getElem? (l := tables_1) (i := 252) rfl
def ow253 := List.mem_of_getElem? (l := tables_1) (i := 253) rfl
def ow254 := List.mem_of_getElem? (l := tables_1) (i := 254) rfl
def ow255 := List.mem_of_getElem? (l := tables_1) (i := 255) rfl
def ow256 := List.mem_of_getElem? (l := tables_1) (i := 256) rfl
def ow257 := List.mem_of_getElem? (l := tables_1) (i := 257) rfl
def ow258 := List.mem_of_getElem? (l := tables_1) (i := 258) rfl
def ow259 := List.mem_of_getElem? (l := tables_1) (i := 259) rfl
def ow260 := List.mem_of_getElem? (l := tables_1) (i := 260) rfl
def ow261 := List.mem_of_getElem? (l := tables_1) (i := 261) rfl
def ow262 := List.mem_of_getElem? (l := tables_1) (i := 262) rfl
def ow263 := List.mem_of_getElem? (l := tables_1) (i := 263) rfl
def ow264 := List.mem_of_getElem? (l := tables_1) (i := 264) rfl
def ow265 := List.mem_of_getElem? (l := tables_1) (i := 265) rfl
def ow266 := List.mem_of_getElem? (l := tables_1) (i := 266) rfl
def ow267 := List.mem_of_getElem? (l := tables_1) (i := 267) rfl
def ow268 := List.mem_of_getElem? (l := tables_1) (i := 268) rfl
def ow269 := List.mem_of_getElem? (l := tables_1) (i := 269) rfl
def ow270 := List.mem_of_getElem? (l := tables_1) (i := 270) rfl
def ow271 := List.mem_of_getElem? (l := tables_1) (i := 271) rfl
def ow272 := List.mem_of_getElem? (l := tables_1) (i := 272) rfl
def ow273 := List.mem_of_getElem? (l := tables_1) (i := 273) rfl
def ow274 := List.mem_of_getElem? (l := tables_1) (i := 274) rfl
def ow275 := List.mem_of_getElem? (l := tables_1) (i := 275) rfl
def ow276 := List.mem_of_getElem? (l := tables_1) (i := 276) rfl
def ow277 := List.mem_of_getElem? (l := tables_1) (i := 277) rfl
def ow278 := List.mem_of_getElem? (l := tables_1) (i := 278) rfl
def ow279 := List.mem_of_getElem? (l := tables_1) (i := 279) rfl
def ow280 := List.mem_of_getElem? (l := tables_1) (i := 280) rfl
def ow281 := List.mem_of_getElem? (l := tables_1) (i := 281) rfl
def ow282 := List.mem_of_getElem? (l := tables_1) (i := 282) rfl
def ow283 := List.mem_of_getElem? (l := tables_1) (i := 283) rfl
def ow284 := List.mem_of_getElem? (l := tables_1) (i := 284) rfl
def ow285 := List.mem_of_getElem? (l := tables_1) (i := 285) rfl
def ow286 := List.mem_of_getElem? (l := tables_1) (i := 286) rfl
def ow287 := List.mem_of_getElem? (l := tables_1) (i := 287) rfl
def ow288 := List.mem_of_getElem? (l := tables_1) (i := 288) rfl
def ow289 := List.mem_of_getElem? (l := tables_1) (i := 289) rfl
def ow290 := List.mem_of_getElem? (l := tables_1) (i := 290) rfl
def ow291 := List.mem_of_getElem? (l := tables_1) (i := 291) rfl
def ow292 := List.mem_of_getElem? (l := tables_1) (i := 292) rfl
def ow293 := List.mem_of_getElem? (l := tables_1) (i := 293) rfl
def ow294 := List.mem_of_getElem? (l := tables_1) (i := 294) rfl
def ow295 := List.mem_of_getElem? (l := tables_1) (i := 295) rfl
def ow296 := List.mem_of_getElem? (l := tables_1) (i := 296) rfl
def ow297 := List.mem_of_getElem? (l := tables_1) (i := 297) rfl
def ow298 := List.mem_of_getElem? (l := tables_1) (i := 298) rfl
def ow299 := List.mem_of_getElem? (l := tables_1) (i := 299) rfl
def ow300 := List.mem_of_getElem? (l := tables_1) (i := 300) rfl
def ow301 := List.mem_of_getElem? (l := tables_1) (i := 301) rfl
def ow302 := List.mem_of_getElem? (l := tables_1) (i := 302) rfl
def ow303 := List.mem_of_getElem? (l := tables_1) (i := 303) rfl
def ow304 := List.mem_of_getElem? (l := tables_1) (i := 304) rfl
def ow305 := List.mem_of_getElem? (l := tables_1) (i := 305) rfl
def ow306 := List.mem_of_getElem? (l := tables_1) (i := 306) rfl
def ow307 := List.mem_of_getElem? (l := tables_1) (i := 307) rfl
def ow308 := List.mem_of_getElem? (l := tables_1) (i := 308) rfl
def ow309 := List.mem_of_getElem? (l := tables_1) (i := 309) rfl
def ow310 := List.mem_of_getElem? (l := tables_1) (i := 310) rfl
def ow311 := List.mem_of_getElem? (l := tables_1) (i := 311) rfl
def ow312 := List.mem_of_getElem? (l := tables_1) (i := 312) rfl
def ow313 := List.mem_of_getElem? (l := tables_1) (i := 313) rfl
def ow314 := List.mem_of_getElem? (l := tables_1) (i := 314) rfl
def ow315 := List.mem_of_getElem? (l := tables_1) (i := 315) rfl
def ow316 := List.mem_of_getElem? (l := tables_1) (i := 316) rfl
def ow317 := List.mem_of_getElem? (l := tables_1) (i := 317) rfl
def ow318 := List.mem_of_getElem? (l := tables_1) (i := 318) rfl
def ow319 := List.mem_of_getElem? (l := tables_1) (i := 319) rfl
def ow320 := List.mem_of_getElem? (l := tables_1) (i := 320) rfl
def ow321 := List.mem_of_getElem? (l := tables_1) (i := 321) rfl
def ow322 := List.mem_of_getElem? (l := tables_1) (i := 322) rfl
def ow323 := List.mem_of_getElem? (l := tables_1) (i := 323) rfl
def ow324 := List.mem_of_getElem? (l := tables_1) (i := 324) rfl
def ow325 := List.mem_of_getElem? (l := tables_1) (i := 325) rfl
def ow326 := List.mem_of_getElem? (l := tables_1) (i := 326) rfl
def ow327 := List.mem_of_getElem? (l := tables_1) (i := 327) rfl
def ow328 := List.mem_of_getElem? (l := tables_1) (i := 328) rfl
def ow329 := List.mem_of_getElem? (l := tables_1) (i := 329) rfl
def ow330 := List.mem_of_getElem? (l := tables_1) (i := 330) rfl
def ow331 := List.mem_of_getElem? (l := tables_1) (i := 331) rfl
def ow332 := List.mem_of_getElem? (l := tables_1) (i := 332) rfl
def ow333 := List.mem_of_getElem? (l := tables_1) (i := 333) rfl
def ow334 := List.mem_of_getElem? (l := tables_1) (i := 334) rfl
def ow335 := List.mem_of_getElem? (l := tables_1) (i := 335) rfl
def ow336 := List.mem_of_getElem? (l := tables_1) (i := 336) rfl
def ow337 := List.mem_of_getElem? (l := tables_1) (i := 337) rfl
def ow338 := List.mem_of_getElem? (l := tables_1) (i := 338) rfl
def ow339 := List.mem_of_getElem? (l := tables_1) (i := 339) rfl
def ow340 := List.mem_of_getElem? (l := tables_1) (i := 340) rfl
def ow341 := List.mem_of_getElem? (l := tables_1) (i := 341) rfl
def ow342 := List.mem_of_getElem? (l := tables_1) (i := 342) rfl
def ow343 := List.mem_of_getElem? (l := tables_1) (i := 343) rfl
def ow344 := List.mem_of_getElem? (l := tables_1) (i := 344) rfl
def ow345 := List.mem_of_getElem? (l := tables_1) (i := 345) rfl
def ow346 := List.mem_of_getElem? (l := tables_1) (i := 346) rfl
def ow347 := List.mem_of_getElem? (l := tables_1) (i := 347) rfl
def ow348 := List.mem_of_getElem? (l := tables_1) (i := 348) rfl
def ow349 := List.mem_of_getElem? (l := tables_1) (i := 349) rfl
def ow350 := List.mem_of_getElem? (l := tables_1) (i := 350) rfl
def ow351 := List.mem_of_getElem? (l := tables_1) (i := 351) rfl
def ow352 := List.mem_of_getElem? (l := tables_1) (i := 352) rfl
def ow353 := List.mem_of_getElem? (l := tables_1) (i := 353) rfl
def ow354 := List.mem_of_getElem? (l := tables_1) (i := 354) rfl
def ow355 := List.mem_of_getElem? (l := tables_1) (i := 355) rfl
def ow356 := List.mem_of_getElem? (l := tables_1) (i := 356) rfl
def ow357 := List.mem_of_getElem? (l := tables_1) (i := 357) rfl
def ow358 := List.mem_of_getElem? (l := tables_1) (i := 358) rfl
def ow359 := List.mem_of_getElem? (l := tables_1) (i := 359) rfl
def ow361 := List.mem_of_getElem? (l := tables_1) (i := 361) rfl
def ow362 := List.mem_of_getElem? (l := tables_1) (i := 362) rfl
def ow363 := List.mem_of_getElem? (l := tables_1) (i := 363) rfl
def ow364 := List.mem_of_getElem? (l := tables_1) (i := 364) rfl
def ow365 := List.mem_of_getElem? (l := tables_1) (i := 365) rfl
def ow366 := List.mem_of_getElem? (l := tables_1) (i := 366) rfl
def ow367 := List.mem_of_getElem? (l := tables_1) (i := 367) rfl
def ow368 := List.mem_of_getElem? (l := tables_1) (i := 368) rfl
def ow369 := List.mem_of_getElem? (l := tables_1) (i := 369) rfl
def ow370 := List.mem_of_getElem? (l := tables_1) (i := 370) rfl
def ow371 := List.mem_of_getElem? (l := tables_1) (i := 371) rfl
def ow372 := List.mem_of_getElem? (l := tables_1) (i := 372) rfl
def ow373 := List.mem_of_getElem? (l := tables_1) (i := 373) rfl
def ow374 := List.mem_of_getElem? (l := tables_1) (i := 374) rfl
def ow375 := List.mem_of_getElem? (l := tables_1) (i := 375) rfl
def ow376 := List.mem_of_getElem? (l := tables_1) (i := 376) rfl
def ow377 := List.mem_of_getElem? (l := tables_1) (i := 377) rfl
def ow378 := List.mem_of_getElem? (l := tables_1) (i := 378) rfl
def ow379 := List.mem_of_getElem? (l := tables_1) (i := 379) rfl
def ow380 := List.mem_of_getElem? (l := tables_1) (i := 380) rfl
def ow381 := List.mem_of_getElem? (l := tables_1) (i := 381) rfl
def ow382 := List.mem_of_getElem? (l := tables_1) (i := 382) rfl
def ow383 := List.mem_of_getElem? (l := tables_1) (i := 383) rfl
def ow384 := List.mem_of_getElem? (l := tables_1) (i := 384) rfl
def ow385 := List.mem_of_getElem? (l := tables_1) (i := 385) rfl
def ow386 := List.mem_of_getElem? (l := tables_1) (i := 386) rfl
theorem own_wS : ∀ d ∈ Bundle.stringAtoms, d ∈ tables_1 := by decide +kernel
open Jvm.Free.Fl
theorem own_cnil : ∀ c ∈ ([] : List Int32), ¬ c < 0 ∧ ¬ (255 : Int32) < c := fun _ q => nomatch q
theorem own_ccons {x : Int32} {L : List Int32} (h : ¬ x < 0 ∧ ¬ (255 : Int32) < x) (r : ∀ c ∈ L, ¬ c < 0 ∧ ¬ (255 : Int32) < c) : ∀ c ∈ x :: L, ¬ c < 0 ∧ ¬ (255 : Int32) < c := fun c z => (List.mem_cons.mp z).elim (fun u => u ▸ h) (r c)
theorem own_nc {x : Int32} (h1 : ¬ x < (0 : Int32)) (h2 : ¬ (255 : Int32) < x) : x.toUInt32.toUInt16.toUInt32.toInt32 = x := by
  have e0 : (0 : Int32).toInt = 0 := by decide
  have e1 : (255 : Int32).toInt = 255 := by decide
  rw [Int32.lt_iff_toInt_lt, e0] at h1
  rw [Int32.lt_iff_toInt_lt, e1] at h2
  have := c_i2c x
  rw [← Int32.toInt_inj]
  omega
section Bun
variable {Z : State} {h h' : Heap} {a o : Addr} {ws : List Addr}
def own_inst (t q : Int64) (r : Int32) : Prop := q.toInt = t.toInt / 1000 ∧ r.toInt = t.toInt % 1000 * 1000000
def Tim (Z : State) (h : Heap) (a : Addr) (t : Int64) : Prop := Exa Z h a "java/time/Instant" ∧ ∃ (q : Int64) (r : Int32), Fld Z h a "java/time/Instant" "seconds" "J" (.long q) ∧ Fld Z h a "java/time/Instant" "nanos" "I" (.int r) ∧ own_inst t q r
theorem Tim.ext {t : Int64} (F : Tim Z h o t) (E : Ext h h') : Tim Z h' o t := by obtain ⟨f0, q, r, f1, f2, f3⟩ := F; exact ⟨f0.ext E, q, r, f1.ext E, f2.ext E, f3⟩
theorem Tim.other {t : Int64} {sl : Nat} {w : Value} (F : Tim Z h o t) (W : Wr h h' a sl w) (ne : o ≠ a) : Tim Z h' o t := by obtain ⟨f0, q, r, f1, f2, f3⟩ := F; exact ⟨f0.wr W, q, r, f1.other W (Or.inl ne), f2.other W (Or.inl ne), f3⟩
theorem Tim.keep {t : Int64} (F : Tim Z h o t) (K : Keep h h' ws) (ni : o ∉ ws) : Tim Z h' o t := by obtain ⟨f0, q, r, f1, f2, f3⟩ := F; exact ⟨f0.keep K, q, r, f1.keep K ni, f2.keep K ni, f3⟩
def Opt (Z : State) (h : Heap) (o : Addr) (f : Int32) (v : UInt64) : Prop := Exa Z h o "java/util/OptionalDouble" ∧ Fld Z h o "java/util/OptionalDouble" "isPresent" "Z" (.int f) ∧ (¬ f = (0 : Int32) → Fld Z h o "java/util/OptionalDouble" "value" "D" (.double v))
theorem Opt.ext {f : Int32} {v : UInt64} (F : Opt Z h o f v) (E : Ext h h') : Opt Z h' o f v := ⟨F.1.ext E, F.2.1.ext E, fun q => (F.2.2 q).ext E⟩
theorem Opt.other {f : Int32} {v : UInt64} {sl : Nat} {w : Value} (F : Opt Z h o f v) (W : Wr h h' a sl w) (ne : o ≠ a) : Opt Z h' o f v := ⟨F.1.wr W, F.2.1.other W (Or.inl ne), fun q => (F.2.2 q).other W (Or.inl ne)⟩
theorem Opt.keep {f : Int32} {v : UInt64} (F : Opt Z h o f v) (K : Keep h h' ws) (ni : o ∉ ws) : Opt Z h' o f v := ⟨F.1.keep K, F.2.1.keep K ni, fun q => (F.2.2 q).keep K ni⟩
def Cli (Z : State) (h : Heap) (a : Addr) (pv : Addr) (ti : Addr) (la : UInt64) (lo : UInt64) (sp : Addr) (be : Addr) (al : Addr) (ms : Addr) (ac : Addr) (sa : Addr) : Prop := Fld Z h a "com/example/fixd/fixd/client/Location" "provider" "Ljava/lang/String;" (.ref pv) ∧ Fld Z h a "com/example/fixd/fixd/client/Location" "time" "Ljava/time/Instant;" (.ref ti) ∧ Fld Z h a "com/example/fixd/fixd/client/Location" "latitude" "D" (.double la) ∧ Fld Z h a "com/example/fixd/fixd/client/Location" "longitude" "D" (.double lo) ∧ Fld Z h a "com/example/fixd/fixd/client/Location" "speed" "Ljava/util/OptionalDouble;" (.ref sp) ∧ Fld Z h a "com/example/fixd/fixd/client/Location" "bearing" "Ljava/util/OptionalDouble;" (.ref be) ∧ Fld Z h a "com/example/fixd/fixd/client/Location" "altitude" "Ljava/util/OptionalDouble;" (.ref al) ∧ Fld Z h a "com/example/fixd/fixd/client/Location" "mslAltitude" "Ljava/util/OptionalDouble;" (.ref ms) ∧ Fld Z h a "com/example/fixd/fixd/client/Location" "accuracy" "Ljava/util/OptionalDouble;" (.ref ac) ∧ Fld Z h a "com/example/fixd/fixd/client/Location" "satellites" "Ljava/util/OptionalInt;" (.ref sa)
theorem Cli.ext {pv : Addr} {ti : Addr} {la : UInt64} {lo : UInt64} {sp : Addr} {be : Addr} {al : Addr} {ms : Addr} {ac : Addr} {sa : Addr} (F : Cli Z h o pv ti la lo sp be al ms ac sa) (E : Ext h h') : Cli Z h' o pv ti la lo sp be al ms ac sa := by obtain ⟨f0, f1, f2, f3, f4, f5, f6, f7, f8, f9⟩ := F; exact ⟨f0.ext E, f1.ext E, f2.ext E, f3.ext E, f4.ext E, f5.ext E, f6.ext E, f7.ext E, f8.ext E, f9.ext E⟩
theorem Cli.other {pv : Addr} {ti : Addr} {la : UInt64} {lo : UInt64} {sp : Addr} {be : Addr} {al : Addr} {ms : Addr} {ac : Addr} {sa : Addr} {sl : Nat} {w : Value} (F : Cli Z h o pv ti la lo sp be al ms ac sa) (W : Wr h h' a sl w) (ne : o ≠ a) : Cli Z h' o pv ti la lo sp be al ms ac sa := by obtain ⟨f0, f1, f2, f3, f4, f5, f6, f7, f8, f9⟩ := F; exact ⟨f0.other W (Or.inl ne), f1.other W (Or.inl ne), f2.other W (Or.inl ne), f3.other W (Or.inl ne), f4.other W (Or.inl ne), f5.other W (Or.inl ne), f6.other W (Or.inl ne), f7.other W (Or.inl ne), f8.other W (Or.inl ne), f9.other W (Or.inl ne)⟩
theorem Cli.keep {pv : Addr} {ti : Addr} {la : UInt64} {lo : UInt64} {sp : Addr} {be : Addr} {al : Addr} {ms : Addr} {ac : Addr} {sa : Addr} (F : Cli Z h o pv ti la lo sp be al ms ac sa) (K : Keep h h' ws) (ni : o ∉ ws) : Cli Z h' o pv ti la lo sp be al ms ac sa := by obtain ⟨f0, f1, f2, f3, f4, f5, f6, f7, f8, f9⟩ := F; exact ⟨f0.keep K ni, f1.keep K ni, f2.keep K ni, f3.keep K ni, f4.keep K ni, f5.keep K ni, f6.keep K ni, f7.keep K ni, f8.keep K ni, f9.keep K ni⟩
def Llo (Z : State) (h : Heap) (a : Addr) (pv : Addr) (ti : Addr) (la : UInt64) (lo : UInt64) (sp : Addr) (be : Addr) (al : Addr) (ms : Addr) (ac : Addr) (sa : Addr) : Prop := Fld Z h a "com/example/fixd/fixd/location/Location" "provider" "Ljava/lang/String;" (.ref pv) ∧ Fld Z h a "com/example/fixd/fixd/location/Location" "time" "Ljava/time/Instant;" (.ref ti) ∧ Fld Z h a "com/example/fixd/fixd/location/Location" "latitude" "D" (.double la) ∧ Fld Z h a "com/example/fixd/fixd/location/Location" "longitude" "D" (.double lo) ∧ Fld Z h a "com/example/fixd/fixd/location/Location" "speed" "Ljava/util/OptionalDouble;" (.ref sp) ∧ Fld Z h a "com/example/fixd/fixd/location/Location" "bearing" "Ljava/util/OptionalDouble;" (.ref be) ∧ Fld Z h a "com/example/fixd/fixd/location/Location" "altitude" "Ljava/util/OptionalDouble;" (.ref al) ∧ Fld Z h a "com/example/fixd/fixd/location/Location" "mslAltitude" "Ljava/util/OptionalDouble;" (.ref ms) ∧ Fld Z h a "com/example/fixd/fixd/location/Location" "accuracy" "Ljava/util/OptionalDouble;" (.ref ac) ∧ Fld Z h a "com/example/fixd/fixd/location/Location" "satellites" "Ljava/util/OptionalInt;" (.ref sa)
theorem Llo.ext {pv : Addr} {ti : Addr} {la : UInt64} {lo : UInt64} {sp : Addr} {be : Addr} {al : Addr} {ms : Addr} {ac : Addr} {sa : Addr} (F : Llo Z h o pv ti la lo sp be al ms ac sa) (E : Ext h h') : Llo Z h' o pv ti la lo sp be al ms ac sa := by obtain ⟨f0, f1, f2, f3, f4, f5, f6, f7, f8, f9⟩ := F; exact ⟨f0.ext E, f1.ext E, f2.ext E, f3.ext E, f4.ext E, f5.ext E, f6.ext E, f7.ext E, f8.ext E, f9.ext E⟩
theorem Llo.other {pv : Addr} {ti : Addr} {la : UInt64} {lo : UInt64} {sp : Addr} {be : Addr} {al : Addr} {ms : Addr} {ac : Addr} {sa : Addr} {sl : Nat} {w : Value} (F : Llo Z h o pv ti la lo sp be al ms ac sa) (W : Wr h h' a sl w) (ne : o ≠ a) : Llo Z h' o pv ti la lo sp be al ms ac sa := by obtain ⟨f0, f1, f2, f3, f4, f5, f6, f7, f8, f9⟩ := F; exact ⟨f0.other W (Or.inl ne), f1.other W (Or.inl ne), f2.other W (Or.inl ne), f3.other W (Or.inl ne), f4.other W (Or.inl ne), f5.other W (Or.inl ne), f6.other W (Or.inl ne), f7.other W (Or.inl ne), f8.other W (Or.inl ne), f9.other W (Or.inl ne)⟩
theorem Llo.keep {pv : Addr} {ti : Addr} {la : UInt64} {lo : UInt64} {sp : Addr} {be : Addr} {al : Addr} {ms : Addr} {ac : Addr} {sa : Addr} (F : Llo Z h o pv ti la lo sp be al ms ac sa) (K : Keep h h' ws) (ni : o ∉ ws) : Llo Z h' o pv ti la lo sp be al ms ac sa := by obtain ⟨f0, f1, f2, f3, f4, f5, f6, f7, f8, f9⟩ := F; exact ⟨f0.keep K ni, f1.keep K ni, f2.keep K ni, f3.keep K ni, f4.keep K ni, f5.keep K ni, f6.keep K ni, f7.keep K ni, f8.keep K ni, f9.keep K ni⟩

end Bun
theorem own_y0 {y : Int64} (hy : y.toInt = 1000) : y ≠ 0 := fun h => by rw [h] at hy; exact absurd hy (by decide)
theorem own_ym {y : Int64} (hy : y.toInt = 1000) : y ≠ -1 := fun h => by rw [h] at hy; exact absurd hy (by decide)
theorem own_xs {x y : Int64} (hy : y.toInt = 1000) (c : lcmpW (x ^^^ y) (0 : Int64) < (0 : Int32)) : x.toInt < 0 := by
  have e0 : (0 : Int64).toInt = 0 := by decide
  rw [lw_lt, Int64.lt_iff_toInt_lt, e0] at c
  have s := c_xorSL x y
  rcases Int.lt_or_le x.toInt 0 with h | h
  · exact h
  · have := s.2.2.2 h (by omega); omega
theorem own_xs' {x y : Int64} (hy : y.toInt = 1000) (c : ¬ lcmpW (x ^^^ y) (0 : Int64) < (0 : Int32)) : 0 ≤ x.toInt := by
  have e0 : (0 : Int64).toInt = 0 := by decide
  rw [lw_lt, Int64.lt_iff_toInt_lt, e0] at c
  have s := c_xorSL x y
  rcases Int.lt_or_le x.toInt 0 with h | h
  · have := s.2.1 h (by omega); omega
  · exact h
theorem own_fd1 {x y : Int64} (hy : y.toInt = 1000) (c : lcmpW (x ^^^ y) (0 : Int64) < (0 : Int32)) (c2 : ¬ lcmpW ((x / y) * y) x = (0 : Int32)) : ((x / y) - (1 : Int64)).toInt = x.toInt / 1000 := by
  have e1 : (1 : Int64).toInt = 1 := by decide
  have hx := own_xs hy c
  have d := (c_ldiv x y 1000 hy (own_ym hy)).2 hx
  have r := rng64 x
  have m := c_lmul (x / y) y
  have r2 := rng64 ((x / y) * y)
  rw [hy] at m
  rw [lw_eq] at c2
  have c3 : ((x / y) * y).toInt ≠ x.toInt := fun h => c2 (Int64.toInt_inj.mp h)
  have q := c_lsub (x / y) (1 : Int64)
  have r3 := rng64 ((x / y) - (1 : Int64))
  rw [e1] at q
  omega
theorem own_fd2 {x y : Int64} (hy : y.toInt = 1000) (c : ¬ lcmpW (x ^^^ y) (0 : Int64) < (0 : Int32)) : (x / y).toInt = x.toInt / 1000 := (c_ldiv x y 1000 hy (own_ym hy)).1 (own_xs' hy c)
theorem own_fd3 {x y : Int64} (hy : y.toInt = 1000) (c : lcmpW (x ^^^ y) (0 : Int64) < (0 : Int32)) (c2 : lcmpW ((x / y) * y) x = (0 : Int32)) : (x / y).toInt = x.toInt / 1000 := by
  have hx := own_xs hy c
  have d := (c_ldiv x y 1000 hy (own_ym hy)).2 hx
  have r := rng64 x
  have m := c_lmul (x / y) y
  have r2 := rng64 ((x / y) * y)
  rw [hy] at m
  rw [lw_eq] at c2
  have c3 : ((x / y) * y).toInt = x.toInt := congrArg _ c2
  omega
theorem own_fm1 {x y : Int64} (hy : y.toInt = 1000) (c : lcmpW (x ^^^ y) (0 : Int64) < (0 : Int32)) (c2 : ¬ lcmpW (x - (x / y) * y) (0 : Int64) = (0 : Int32)) : ((x - (x / y) * y) + y).toInt = x.toInt % 1000 := by
  have e0 : (0 : Int64).toInt = 0 := by decide
  have hx := own_xs hy c
  have d := (c_lrem x y 1000 hy).2 hx
  rw [lw_eq] at c2
  have c3 : (x - (x / y) * y).toInt ≠ 0 := fun h => c2 (Int64.toInt_inj.mp (h.trans e0.symm))
  have m := c_ladd (x - (x / y) * y) y
  have r := rng64 ((x - (x / y) * y) + y)
  rw [hy] at m
  omega
theorem own_fm2 {x y : Int64} (hy : y.toInt = 1000) (c : ¬ lcmpW (x ^^^ y) (0 : Int64) < (0 : Int32)) : (x - (x / y) * y).toInt = x.toInt % 1000 := (c_lrem x y 1000 hy).1 (own_xs' hy c)
theorem own_fm3 {x y : Int64} (hy : y.toInt = 1000) (c : lcmpW (x ^^^ y) (0 : Int64) < (0 : Int32)) (c2 : lcmpW (x - (x / y) * y) (0 : Int64) = (0 : Int32)) : (x - (x / y) * y).toInt = x.toInt % 1000 := by
  have e0 : (0 : Int64).toInt = 0 := by decide
  have hx := own_xs hy c
  have d := (c_lrem x y 1000 hy).2 hx
  rw [lw_eq] at c2
  have c3 : (x - (x / y) * y).toInt = 0 := (congrArg _ c2).trans e0
  omega
theorem own_fmi {x fm : Int64} (h : fm.toInt = x.toInt % 1000) : fm.toInt32.toInt = x.toInt % 1000 := by
  have a := c_l2i fm
  have r := rng32 fm.toInt32
  omega
theorem own_mk {t q : Int64} {m : Int32} (h1 : q.toInt = t.toInt / 1000) (h2 : m.toInt = t.toInt % 1000) : own_inst t q (m * (1000000 : Int32)) := by
  have e : (1000000 : Int32).toInt = 1000000 := by decide
  have a := c_imul m (1000000 : Int32)
  have r := rng32 (m * (1000000 : Int32))
  rw [e] at a
  exact ⟨h1, by omega⟩
theorem own_or0 {q : Int64} {r : Int32} (c : lcmpW (q ||| r.toInt64) (0 : Int64) = (0 : Int32)) : q = (0 : Int64) ∧ r = (0 : Int32) := by
  rw [lw_eq] at c
  have b := congrArg Int64.toBitVec c
  have b2 : q.toBitVec ||| r.toInt64.toBitVec = 0#64 := by simpa using b
  obtain ⟨b3, b4⟩ := BitVec.or_eq_zero_iff.mp b2
  have e1 : q = (0 : Int64) := Int64.toBitVec_inj.mp (by rw [b3]; rfl)
  have e2 : r.toInt64 = (0 : Int64) := Int64.toBitVec_inj.mp (by rw [b4]; rfl)
  refine ⟨e1, Int32.toInt_inj.mp ?_⟩
  have e3 := c_i2l r
  rw [e2] at e3
  rw [← e3]; decide
theorem own_lo {t q : Int64} {r : Int32} (h : own_inst t q r) : ¬ lcmpW q (-31557014167219200 : Int64) < (0 : Int32) := by
  have e : (-31557014167219200 : Int64).toInt = -31557014167219200 := by decide
  rw [lw_lt, Int64.lt_iff_toInt_lt, e]
  have a := h.1; have b := rng64 t; omega
theorem own_hi {t q : Int64} {r : Int32} (h : own_inst t q r) : ¬ (0 : Int32) < lcmpW q (31556889864403199 : Int64) := by
  have e : (31556889864403199 : Int64).toInt = 31556889864403199 := by decide
  rw [lw_gt, Int64.lt_iff_toInt_lt, e]
  have a := h.1; have b := rng64 t; omega
def own_ov (x : Int64) : Prop := -9223372036854775808 ≤ x.toInt * 1000 ∧ x.toInt * 1000 < 9223372036854775808
theorem own_mv {x y : Int64} (hy : y.toInt = 1000) (h : own_ov x) : (x * y).toInt = x.toInt * 1000 := by
  have m := c_lmul x y
  have r := rng64 (x * y)
  rw [hy] at m
  have h1 := h.1; have h2 := h.2
  omega
theorem own_md {x y : Int64} (hy : y.toInt = 1000) (h : own_ov x) : lcmpW ((x * y) / y) x = (0 : Int32) := by
  rw [lw_eq]
  have m := own_mv hy h
  have d := c_ldiv (x * y) y 1000 hy (own_ym hy)
  refine Int64.toInt_inj.mp ?_
  rcases Int.lt_or_le (x * y).toInt 0 with q | q
  · rw [d.2 q, m]; omega
  · rw [d.1 q, m]; omega
theorem own_mz {y : Int64} (hy : y.toInt = 1000) : ¬ lcmpW y (0 : Int64) = (0 : Int32) := by rw [lw_eq]; exact own_y0 hy
theorem own_mn {x : Int64} (h : own_ov x) : ¬ lcmpW x (-9223372036854775808 : Int64) = (0 : Int32) := by
  rw [lw_eq]
  intro q
  have e : (-9223372036854775808 : Int64).toInt = -9223372036854775808 := by decide
  have h1 := h.1
  rw [q, e] at h1
  omega
theorem own_ax {x y : Int64} (h : -9223372036854775808 ≤ x.toInt + y.toInt ∧ x.toInt + y.toInt < 9223372036854775808) : ¬ lcmpW ((x ^^^ (x + y)) &&& (y ^^^ (x + y))) (0 : Int64) < (0 : Int32) := by
  have e0 : (0 : Int64).toInt = 0 := by decide
  rw [lw_lt, Int64.lt_iff_toInt_lt, e0]
  have a := c_ladd x y
  have r := rng64 (x + y)
  have s : (x + y).toInt = x.toInt + y.toInt := by omega
  have u := c_xorSL x (x + y)
  have v := c_xorSL y (x + y)
  have w := c_andSL (x ^^^ (x + y)) (y ^^^ (x + y))
  rcases Int.lt_or_le x.toInt 0 with q | q
  · rcases Int.lt_or_le (x + y).toInt 0 with p | p
    · have := w.2.1 (u.1 q p); omega
    · have := w.2.2 (v.2.2.2 (by omega) p); omega
  · rcases Int.lt_or_le (x + y).toInt 0 with p | p
    · have := w.2.2 (v.1 (by omega) p); omega
    · have := w.2.1 (u.2.2.2 q p); omega
theorem own_rd {t q : Int64} {r : Int32} (h : own_inst t q r) : (r / (1000000 : Int32)).toInt = t.toInt % 1000 := by
  have d := (c_idiv r (1000000 : Int32) 1000000 (by decide) (by decide)).1 (by have := h.2; omega)
  have b := h.2
  omega
theorem own_A1 {t q : Int64} {r : Int32} (h : own_inst t q r) (c : ¬ lcmpW q (0 : Int64) < (0 : Int32) ∨ ¬ (0 : Int32) < r) : own_ov q := by
  have e0 : (0 : Int64).toInt = 0 := by decide
  have e1 : (0 : Int32).toInt = 0 := by decide
  rw [lw_lt, Int64.lt_iff_toInt_lt, e0, Int32.lt_iff_toInt_lt, e1] at c
  have a := h.1; have b := h.2; have z := rng64 t
  constructor <;> omega
theorem own_A2 {t q mm : Int64} {r : Int32} (h : own_inst t q r) (hm : mm.toInt = q.toInt * 1000) : (-9223372036854775808 ≤ mm.toInt + (r / (1000000 : Int32)).toInt64.toInt ∧ mm.toInt + (r / (1000000 : Int32)).toInt64.toInt < 9223372036854775808) ∧ (mm + (r / (1000000 : Int32)).toInt64) = t := by
  have d := own_rd h
  have e := c_i2l (r / (1000000 : Int32))
  have a := h.1; have z := rng64 t
  refine ⟨⟨by omega, by omega⟩, Int64.toInt_inj.mp ?_⟩
  have s := c_ladd mm (r / (1000000 : Int32)).toInt64
  have k := rng64 (mm + (r / (1000000 : Int32)).toInt64)
  omega
theorem own_B1 {t q : Int64} {r : Int32} (h : own_inst t q r) (c : lcmpW q (0 : Int64) < (0 : Int32)) : (q + (1 : Int64)).toInt = q.toInt + 1 ∧ own_ov (q + (1 : Int64)) := by
  have e0 : (0 : Int64).toInt = 0 := by decide
  have e1 : (1 : Int64).toInt = 1 := by decide
  rw [lw_lt, Int64.lt_iff_toInt_lt, e0] at c
  have a := h.1; have z := rng64 t
  have s := c_ladd q (1 : Int64)
  have k := rng64 (q + (1 : Int64))
  rw [e1] at s
  have f : (q + (1 : Int64)).toInt = q.toInt + 1 := by omega
  refine ⟨f, ?_⟩
  unfold own_ov
  rw [f]
  constructor <;> omega
theorem own_B2 {t q mm : Int64} {r : Int32} (h : own_inst t q r) (c : lcmpW q (0 : Int64) < (0 : Int32)) (hm : mm.toInt = (q + (1 : Int64)).toInt * 1000) : (-9223372036854775808 ≤ mm.toInt + ((r / (1000000 : Int32)) - (1000 : Int32)).toInt64.toInt ∧ mm.toInt + ((r / (1000000 : Int32)) - (1000 : Int32)).toInt64.toInt < 9223372036854775808) ∧ (mm + ((r / (1000000 : Int32)) - (1000 : Int32)).toInt64) = t := by
  have d := own_rd h
  have e := c_i2l ((r / (1000000 : Int32)) - (1000 : Int32))
  have e3 : (1000 : Int32).toInt = 1000 := by decide
  have f := c_isub (r / (1000000 : Int32)) (1000 : Int32)
  have g := rng32 ((r / (1000000 : Int32)) - (1000 : Int32))
  rw [e3] at f
  have a := h.1; have z := rng64 t
  have b := (own_B1 h c).1
  refine ⟨⟨by omega, by omega⟩, Int64.toInt_inj.mp ?_⟩
  have s := c_ladd mm ((r / (1000000 : Int32)) - (1000 : Int32)).toInt64
  have k := rng64 (mm + ((r / (1000000 : Int32)) - (1000 : Int32)).toInt64)
  omega
theorem own_nb {f : Int32} (h : f = (0 : Int32) ∨ f = (1 : Int32)) : nar .boolean f = f := by rcases h with rfl | rfl <;> rfl
theorem own_ch (x : Int32) : ∃ z, ((x &&& (255 : Int32)).toUInt32.toUInt16.toUInt32.toInt32) = z ∧ ¬ z < (0 : Int32) ∧ ¬ (255 : Int32) < z := by
  refine ⟨_, rfl, ?_⟩
  have a := c_and x (255 : Int32) (by decide)
  have b := c_i2c (x &&& (255 : Int32))
  have e0 : (0 : Int32).toInt = 0 := by decide
  have e1 : (255 : Int32).toInt = 255 := by decide
  rw [Int32.lt_iff_toInt_lt, Int32.lt_iff_toInt_lt, e0, e1]
  omega
theorem own_i2fn (x : Int32) : NoNaN32 (FP.i2f x) := (i2f_fin x).noNaN
theorem own_i2ff (x : Int32) : FP.fIsNaN (FP.i2f x) = false := noNaN32_no.mp (own_i2fn x)
theorem own_d2f (x : Int32) : FP.d2f (FP.f2d (FP.i2f x)) = FP.i2f x := by
  have h1 : Jvm.FP.Core.fIsNaN (FP.i2f x) = false := own_i2ff x
  rw [Jvm.FP.f2d_core h1, Jvm.FP.d2f_core (Jvm.FP.Core.f2d_out h1)]
  exact Jvm.FP.Core.d2f_f2d fun q => by rw [(Jvm.FP.Core.fIsNaN_iff _).mpr q] at h1; cases h1
theorem own_emp_d0 : decode jdk_2648_method_2_code 0 = .ok (.getstatic 21, 3) := by decide +kernel
theorem own_emp_d3 : decode jdk_2648_method_2_code 3 = .ok (.areturn, 1) := by decide +kernel
theorem own_emp_pn : plainName "java/util/OptionalDouble" = true := by first | (simp [plainName, overriddenIn]; done) | decide +kernel
theorem own_emp_ef (m : MethodId)  : entryFrame m #[] 0 = mkF m 0 #[] [] := by first | (simp [entryFrame, mkF, argsToLocals, Value.category]; done) | rfl
def own_emp_Q (Z : State) (em : Addr) (h0 : Heap) (n0 : Nat) (vv_ : Option Value) (hh_ : Heap) (LL_ : List Loc) : Prop := vv_ = some (.ref em) ∧ Fr n0 LL_ ∧ hh_ = h0
set_option maxRecDepth 65536 in
set_option maxHeartbeats 40000000 in
theorem own_emp (l : Launch) (Z : State) (a0 : Array Value) (hw : ∀ d ∈ tables_1, d.before a0 Z = true) (ws : List Jvm.Cond) (em : Addr) (h0 : Heap) (n0 : Nat) (Z0 : n0 ≤ h0.size) (hOld : Old Z n0 h0) (Sem : Sta Z Z.heap "java/util/OptionalDouble" "EMPTY" "Ljava/util/OptionalDouble;" (.ref em)) (Oem : Opt Z Z.heap em (0 : Int32) 0) (Eem : Exa Z Z.heap em "java/util/OptionalDouble") :
    MetFree l (⟨"java/util/OptionalDouble", "empty", "()Ljava/util/OptionalDouble;"⟩ : MethodName) (head1 (Jvm.Cond.code (⟨"java/util/OptionalDouble", "empty", "()Ljava/util/OptionalDouble;"⟩ : MethodName) jdk_2648_method_2_code 0 (some (.object "java/util/OptionalDouble")) :: ws) ({ frames := 0, cells := 0, slots := 0, locals := 0 } : Room)) (fun aa_ UU_ => aa_ = #[] ∧ Z.Warmed39 UU_.vm ∧ UU_.heap = h0) (fun _ _ _ _ _ => True) (fun _ UU_ oo_ UV_ => ∃ vv_ LL_, oo_ = .returned vv_ ∧ own_emp_Q Z em h0 n0 vv_ UV_.heap LL_ ∧ FrameEnd UU_ oo_ UV_ LL_ ({ frames := 0, cells := 0, slots := 0, locals := 0 } : Room).cells ({ frames := 0, cells := 0, slots := 0, locals := 0 } : Room).slots) := by
  refine MetFree.of_bodySF (plainFor_of_name own_emp_pn) hisR ?_
  intro p e s m args below meth c s₁ Bd hml0 hP hK
  obtain ⟨rfl, hZ, hh⟩ := hP
  have hx := Bd.exec
  have hby := Bd.bytes
  have hml : c.maxLocals = 0 := hml0
  have hown : s.vm.findClass "java/util/OptionalDouble" = some m.cls := findClass_of_methodNamed Bd.named
  have hnm := (name_of_methodNamed Bd.named Bd.method).1
  have X0 : Stand p l e ({ frames := 0, cells := 0, slots := 0, locals := 0 } : Room) s m #[] below meth c s₁ [] 0 0 := Stand.of_body Bd
  have e0 : s₁.heap = h0 := by rw [← hh, Bd.state]; rfl
  have N0 := Fr.nil n0
  have KP0 : Keep h0 h0 [] := Keep.refl _ _
  refine ownFin (Q := own_emp_Q Z em h0 n0) ?_
  refine ownStep (fun _ k => castTop (own_emp_ef m ) k) ?_
  show ownGo p.tables e below (s₁.setTop (mkF m 0 #[] [])) _
  have Q1 := Sem.ext hOld.2
  obtain ⟨T2, X2, e2, st2⟩ := getS2 X0 hx hZ hown (host := "") (Or.inl (hw _ ow67)) Via.refl e0 Q1 (g := (mkF m 0 #[] [])) rfl (hb hby own_emp_d0)
  refine ownStep st2 ?_
  show ownGo p.tables e below (T2.setTop (mkF m 3 #[] [(.ref em)])) _
  exact ownRet X2 (v := some (.ref em)) Bd.notSynchronized (fun h => by rw [Bd.returns] at h; cases h) (fun _ hr => retOut X2 hx (t := (.object "java/util/OptionalDouble")) Bd.returns rfl (Or.inr (Or.inr (Or.inr (Or.inr ⟨rfl, rfl, rfl⟩)))) (hb hby own_emp_d3) hr) (by rw [e2]; exact ⟨rfl, N0, rfl⟩) (by decide) (by decide)
theorem own_emi_d0 : decode jdk_2649_method_2_code 0 = .ok (.getstatic 17, 3) := by decide +kernel
theorem own_emi_d3 : decode jdk_2649_method_2_code 3 = .ok (.areturn, 1) := by decide +kernel
theorem own_emi_pn : plainName "java/util/OptionalInt" = true := by first | (simp [plainName, overriddenIn]; done) | decide +kernel
theorem own_emi_ef (m : MethodId)  : entryFrame m #[] 0 = mkF m 0 #[] [] := by first | (simp [entryFrame, mkF, argsToLocals, Value.category]; done) | rfl
def own_emi_Q (Z : State) (ei : Addr) (h0 : Heap) (n0 : Nat) (vv_ : Option Value) (hh_ : Heap) (LL_ : List Loc) : Prop := vv_ = some (.ref ei) ∧ Fr n0 LL_ ∧ hh_ = h0
set_option maxRecDepth 65536 in
set_option maxHeartbeats 40000000 in
theorem own_emi (l : Launch) (Z : State) (a0 : Array Value) (hw : ∀ d ∈ tables_1, d.before a0 Z = true) (ws : List Jvm.Cond) (ei : Addr) (h0 : Heap) (n0 : Nat) (Z0 : n0 ≤ h0.size) (hOld : Old Z n0 h0) (Sei : Sta Z Z.heap "java/util/OptionalInt" "EMPTY" "Ljava/util/OptionalInt;" (.ref ei)) (Eei : Exa Z Z.heap ei "java/util/OptionalInt") :
    MetFree l (⟨"java/util/OptionalInt", "empty", "()Ljava/util/OptionalInt;"⟩ : MethodName) (head1 (Jvm.Cond.code (⟨"java/util/OptionalInt", "empty", "()Ljava/util/OptionalInt;"⟩ : MethodName) jdk_2649_method_2_code 0 (some (.object "java/util/OptionalInt")) :: ws) ({ frames := 0, cells := 0, slots := 0, locals := 0 } : Room)) (fun aa_ UU_ => aa_ = #[] ∧ Z.Warmed39 UU_.vm ∧ UU_.heap = h0) (fun _ _ _ _ _ => True) (fun _ UU_ oo_ UV_ => ∃ vv_ LL_, oo_ = .returned vv_ ∧ own_emi_Q Z ei h0 n0 vv_ UV_.heap LL_ ∧ FrameEnd UU_ oo_ UV_ LL_ ({ frames := 0, cells := 0, slots := 0, locals := 0 } : Room).cells ({ frames := 0, cells := 0, slots := 0, locals := 0 } : Room).slots) := by
  refine MetFree.of_bodySF (plainFor_of_name own_emi_pn) hisR ?_
  intro p e s m args below meth c s₁ Bd hml0 hP hK
  obtain ⟨rfl, hZ, hh⟩ := hP
  have hx := Bd.exec
  have hby := Bd.bytes
  have hml : c.maxLocals = 0 := hml0
  have hown : s.vm.findClass "java/util/OptionalInt" = some m.cls := findClass_of_methodNamed Bd.named
  have hnm := (name_of_methodNamed Bd.named Bd.method).1
  have X0 : Stand p l e ({ frames := 0, cells := 0, slots := 0, locals := 0 } : Room) s m #[] below meth c s₁ [] 0 0 := Stand.of_body Bd
  have e0 : s₁.heap = h0 := by rw [← hh, Bd.state]; rfl
  have N0 := Fr.nil n0
  have KP0 : Keep h0 h0 [] := Keep.refl _ _
  refine ownFin (Q := own_emi_Q Z ei h0 n0) ?_
  refine ownStep (fun _ k => castTop (own_emi_ef m ) k) ?_
  show ownGo p.tables e below (s₁.setTop (mkF m 0 #[] [])) _
  have Q1 := Sei.ext hOld.2
  obtain ⟨T2, X2, e2, st2⟩ := getS2 X0 hx hZ hown (host := "") (Or.inl (hw _ ow76)) Via.refl e0 Q1 (g := (mkF m 0 #[] [])) rfl (hb hby own_emi_d0)
  refine ownStep st2 ?_
  show ownGo p.tables e below (T2.setTop (mkF m 3 #[] [(.ref ei)])) _
  exact ownRet X2 (v := some (.ref ei)) Bd.notSynchronized (fun h => by rw [Bd.returns] at h; cases h) (fun _ hr => retOut X2 hx (t := (.object "java/util/OptionalInt")) Bd.returns rfl (Or.inr (Or.inr (Or.inr (Or.inr ⟨rfl, rfl, rfl⟩)))) (hb hby own_emi_d3) hr) (by rw [e2]; exact ⟨rfl, N0, rfl⟩) (by decide) (by decide)
theorem own_rnn_d0 : decode jdk_31_method_11_code 0 = .ok (.aload_n 0, 1) := by decide +kernel
theorem own_rnn_d1 : decode jdk_31_method_11_code 1 = .ok (.ifnonnull 12, 3) := by decide +kernel
theorem own_rnn_d13 : decode jdk_31_method_11_code 13 = .ok (.aload_n 0, 1) := by decide +kernel
theorem own_rnn_d14 : decode jdk_31_method_11_code 14 = .ok (.areturn, 1) := by decide +kernel
theorem own_rnn_pn : plainName "java/util/Objects" = true := by first | (simp [plainName, overriddenIn]; done) | decide +kernel
theorem own_rnn_ef (m : MethodId) (x0 : Addr) (x1 : Addr) : entryFrame m #[(.ref x0), (.ref x1)] 2 = mkF m 0 #[.val (.ref x0), .val (.ref x1)] [] := by first | (simp [entryFrame, mkF, argsToLocals, Value.category]; done) | rfl
def own_rnn_Q (Z : State) (o : Addr) (u : Addr) (h0 : Heap) (n0 : Nat) (vv_ : Option Value) (hh_ : Heap) (LL_ : List Loc) : Prop := vv_ = some (.ref o) ∧ Fr n0 LL_ ∧ hh_ = h0
set_option maxRecDepth 65536 in
set_option maxHeartbeats 40000000 in
theorem own_rnn (l : Launch) (Z : State) (a0 : Array Value) (hw : ∀ d ∈ tables_1, d.before a0 Z = true) (ws : List Jvm.Cond) (o : Addr) (u : Addr) (h0 : Heap) (n0 : Nat) (Z0 : n0 ≤ h0.size) :
    MetFree l (⟨"java/util/Objects", "requireNonNull", "(Ljava/lang/Object;Ljava/lang/String;)Ljava/lang/Object;"⟩ : MethodName) (head1 (Jvm.Cond.code (⟨"java/util/Objects", "requireNonNull", "(Ljava/lang/Object;Ljava/lang/String;)Ljava/lang/Object;"⟩ : MethodName) jdk_31_method_11_code 2 (some (.object "java/lang/Object")) :: ws) ({ frames := 0, cells := 0, slots := 0, locals := 0 } : Room)) (fun aa_ UU_ => aa_ = #[(.ref o), (.ref u)] ∧ Z.Warmed39 UU_.vm ∧ UU_.heap = h0) (fun _ _ _ _ _ => True) (fun _ UU_ oo_ UV_ => ∃ vv_ LL_, oo_ = .returned vv_ ∧ own_rnn_Q Z o u h0 n0 vv_ UV_.heap LL_ ∧ FrameEnd UU_ oo_ UV_ LL_ ({ frames := 0, cells := 0, slots := 0, locals := 0 } : Room).cells ({ frames := 0, cells := 0, slots := 0, locals := 0 } : Room).slots) := by
  refine MetFree.of_bodySF (plainFor_of_name own_rnn_pn) hisR ?_
  intro p e s m args below meth c s₁ Bd hml0 hP hK
  obtain ⟨rfl, hZ, hh⟩ := hP
  have hx := Bd.exec
  have hby := Bd.bytes
  have hml : c.maxLocals = 2 := hml0
  have hown : s.vm.findClass "java/util/Objects" = some m.cls := findClass_of_methodNamed Bd.named
  have hnm := (name_of_methodNamed Bd.named Bd.method).1
  have X0 : Stand p l e ({ frames := 0, cells := 0, slots := 0, locals := 0 } : Room) s m #[(.ref o), (.ref u)] below meth c s₁ [] 0 0 := Stand.of_body Bd
  have e0 : s₁.heap = h0 := by rw [← hh, Bd.state]; rfl
  have N0 := Fr.nil n0
  have KP0 : Keep h0 h0 [] := Keep.refl _ _
  refine ownFin (Q := own_rnn_Q Z o u h0 n0) ?_
  refine ownStep (fun _ k => castTop (own_rnn_ef m o u) k) ?_
  show ownGo p.tables e below (s₁.setTop (mkF m 0 #[.val (.ref o), .val (.ref u)] [])) _
  refine ownStep (fun _ k => XS.aloadN X0.here hx rfl (hb hby own_rnn_d0) rfl rfl k) ?_
  refine ownStep (fun _ k => XS.ifnonnullYes X0.here hx rfl (pc0 := 1) (pc' := 13) rfl (hb hby own_rnn_d1) rfl (by decide) (by decide) k) ?_
  refine ownStep (fun _ k => XS.aloadN X0.here hx rfl (hb hby own_rnn_d13) rfl rfl k) ?_
  show ownGo p.tables e below (s₁.setTop (mkF m 14 #[.val (.ref o), .val (.ref u)] [(.ref o)])) _
  exact ownRet X0 (v := some (.ref o)) Bd.notSynchronized (fun h => by rw [Bd.returns] at h; cases h) (fun _ hr => retOut X0 hx (t := (.object "java/lang/Object")) Bd.returns rfl (Or.inr (Or.inr (Or.inr (Or.inr ⟨rfl, rfl, rfl⟩)))) (hb hby own_rnn_d14) hr) (by rw [e0]; exact ⟨rfl, N0, rfl⟩) (by decide) (by decide)
theorem own_rec_d0 : decode jdk_30_method_1_code 0 = .ok (.aload_n 0, 1) := by decide +kernel
theorem own_rec_d1 : decode jdk_30_method_1_code 1 = .ok (.invokespecial 1, 3) := by decide +kernel
theorem own_rec_d4 : decode jdk_30_method_1_code 4 = .ok (.return_, 1) := by decide +kernel
theorem own_rec_pn : plainName "java/lang/Record" = true := by first | (simp [plainName, overriddenIn]; done) | decide +kernel
theorem own_rec_ef (m : MethodId) (x0 : Addr) : entryFrame m #[(.ref x0)] 1 = mkF m 0 #[.val (.ref x0)] [] := by first | (simp [entryFrame, mkF, argsToLocals, Value.category]; done) | rfl
def own_rec_Q (Z : State) (a : Addr) (h0 : Heap) (n0 : Nat) (vv_ : Option Value) (hh_ : Heap) (LL_ : List Loc) : Prop := vv_ = none ∧ Fr n0 LL_ ∧ hh_ = h0
set_option maxRecDepth 65536 in
set_option maxHeartbeats 40000000 in
theorem own_rec (l : Launch) (Z : State) (a0 : Array Value) (hw : ∀ d ∈ tables_1, d.before a0 Z = true) (ws : List Jvm.Cond) (a : Addr) (h0 : Heap) (n0 : Nat) (Z0 : n0 ≤ h0.size) :
    MetFree l (⟨"java/lang/Record", "<init>", "()V"⟩ : MethodName) (head1 (Jvm.Cond.code (⟨"java/lang/Record", "<init>", "()V"⟩ : MethodName) jdk_30_method_1_code 1 none :: ws) ({ frames := 1, cells := 0, slots := 0, locals := 12 } : Room)) (fun aa_ UU_ => aa_ = #[(.ref a)] ∧ Z.Warmed39 UU_.vm ∧ UU_.heap = h0) (fun _ _ _ _ _ => True) (fun _ UU_ oo_ UV_ => ∃ vv_ LL_, oo_ = .returned vv_ ∧ own_rec_Q Z a h0 n0 vv_ UV_.heap LL_ ∧ FrameEnd UU_ oo_ UV_ LL_ ({ frames := 1, cells := 0, slots := 0, locals := 12 } : Room).cells ({ frames := 1, cells := 0, slots := 0, locals := 12 } : Room).slots) := by
  refine MetFree.of_bodySF (plainFor_of_name own_rec_pn) hisR ?_
  intro p e s m args below meth c s₁ Bd hml0 hP hK
  obtain ⟨rfl, hZ, hh⟩ := hP
  have hx := Bd.exec
  have hby := Bd.bytes
  have hml : c.maxLocals = 1 := hml0
  have hown : s.vm.findClass "java/lang/Record" = some m.cls := findClass_of_methodNamed Bd.named
  have hnm := (name_of_methodNamed Bd.named Bd.method).1
  have X0 : Stand p l e ({ frames := 1, cells := 0, slots := 0, locals := 12 } : Room) s m #[(.ref a)] below meth c s₁ [] 0 0 := Stand.of_body Bd
  have e0 : s₁.heap = h0 := by rw [← hh, Bd.state]; rfl
  have N0 := Fr.nil n0
  have KP0 : Keep h0 h0 [] := Keep.refl _ _
  refine ownFin (Q := own_rec_Q Z a h0 n0) ?_
  refine ownStep (fun _ k => castTop (own_rec_ef m a) k) ?_
  show ownGo p.tables e below (s₁.setTop (mkF m 0 #[.val (.ref a)] [])) _
  refine ownStep (fun _ k => XS.aloadN X0.here hx rfl (hb hby own_rec_d0) rfl rfl k) ?_
  show ownGo p.tables e below (s₁.setTop (mkF m 1 #[.val (.ref a)] [(.ref a)])) _
  obtain ⟨T1, X1, e1, st1⟩ := initO X0 hx hZ hown (hw _ ow85) (hw _ ow20) (hw _ ow21) e0 (g := (mkF m 1 #[.val (.ref a)] [(.ref a)])) rfl (by rw [hml]; rfl) rfl (hb hby own_rec_d1) (by decide) (W := 0) (by show 2 * 0 + _ ≤ _; exact Nat.le_of_eq rfl) (by decide)
  refine ownStep st1 ?_
  show ownGo p.tables e below (T1.setTop (mkF m 4 #[.val (.ref a)] [])) _
  exact ownRet X1 (v := none) Bd.notSynchronized (fun _ => rfl) (fun _ hr => X1.returnOut hx Bd.returns (hb hby own_rec_d4) hr) (by rw [e1]; exact ⟨rfl, N0, rfl⟩) (by decide) (by decide)
theorem own_equ_d0 : decode jdk_42_method_66_code 0 = .ok (.aload_n 0, 1) := by decide +kernel
theorem own_equ_d1 : decode jdk_42_method_66_code 1 = .ok (.aload_n 1, 1) := by decide +kernel
theorem own_equ_d2 : decode jdk_42_method_66_code 2 = .ok (.if_acmp .ne 5, 3) := by decide +kernel
theorem own_equ_d5 : decode jdk_42_method_66_code 5 = .ok (.iconst 1, 1) := by decide +kernel
theorem own_equ_d6 : decode jdk_42_method_66_code 6 = .ok (.ireturn, 1) := by decide +kernel
theorem own_equ_pn : plainName "java/lang/String" = true := by first | (simp [plainName, overriddenIn]; done) | decide +kernel
theorem own_equ_ef (m : MethodId) (x0 : Addr) (x1 : Addr) : entryFrame m #[(.ref x0), (.ref x1)] 3 = mkF m 0 #[.val (.ref x0), .val (.ref x1), .unset] [] := by first | (simp [entryFrame, mkF, argsToLocals, Value.category]; done) | rfl
def own_equ_Q (Z : State) (a : Addr) (h0 : Heap) (n0 : Nat) (vv_ : Option Value) (hh_ : Heap) (LL_ : List Loc) : Prop := vv_ = some (.int (1 : Int32)) ∧ Fr n0 LL_ ∧ hh_ = h0
set_option maxRecDepth 65536 in
set_option maxHeartbeats 40000000 in
theorem own_equ (l : Launch) (Z : State) (a0 : Array Value) (hw : ∀ d ∈ tables_1, d.before a0 Z = true) (ws : List Jvm.Cond) (a : Addr) (h0 : Heap) (n0 : Nat) (Z0 : n0 ≤ h0.size) :
    MetFree l (⟨"java/lang/String", "equals", "(Ljava/lang/Object;)Z"⟩ : MethodName) (head1 (Jvm.Cond.code (⟨"java/lang/String", "equals", "(Ljava/lang/Object;)Z"⟩ : MethodName) jdk_42_method_66_code 3 (some .boolean) :: ws) ({ frames := 0, cells := 0, slots := 0, locals := 0 } : Room)) (fun aa_ UU_ => aa_ = #[(.ref a), (.ref a)] ∧ Z.Warmed39 UU_.vm ∧ UU_.heap = h0) (fun _ _ _ _ _ => True) (fun _ UU_ oo_ UV_ => ∃ vv_ LL_, oo_ = .returned vv_ ∧ own_equ_Q Z a h0 n0 vv_ UV_.heap LL_ ∧ FrameEnd UU_ oo_ UV_ LL_ ({ frames := 0, cells := 0, slots := 0, locals := 0 } : Room).cells ({ frames := 0, cells := 0, slots := 0, locals := 0 } : Room).slots) := by
  refine MetFree.of_bodySF (plainFor_of_name own_equ_pn) hisR ?_
  intro p e s m args below meth c s₁ Bd hml0 hP hK
  obtain ⟨rfl, hZ, hh⟩ := hP
  have hx := Bd.exec
  have hby := Bd.bytes
  have hml : c.maxLocals = 3 := hml0
  have hown : s.vm.findClass "java/lang/String" = some m.cls := findClass_of_methodNamed Bd.named
  have hnm := (name_of_methodNamed Bd.named Bd.method).1
  have X0 : Stand p l e ({ frames := 0, cells := 0, slots := 0, locals := 0 } : Room) s m #[(.ref a), (.ref a)] below meth c s₁ [] 0 0 := Stand.of_body Bd
  have e0 : s₁.heap = h0 := by rw [← hh, Bd.state]; rfl
  have N0 := Fr.nil n0
  have KP0 : Keep h0 h0 [] := Keep.refl _ _
  refine ownFin (Q := own_equ_Q Z a h0 n0) ?_
  refine ownStep (fun _ k => castTop (own_equ_ef m a a) k) ?_
  show ownGo p.tables e below (s₁.setTop (mkF m 0 #[.val (.ref a), .val (.ref a), .unset] [])) _
  refine ownStep (fun _ k => XS.aloadN X0.here hx rfl (hb hby own_equ_d0) rfl rfl k) ?_
  refine ownStep (fun _ k => XS.aloadN X0.here hx rfl (hb hby own_equ_d1) rfl rfl k) ?_
  show ownGo p.tables e below (s₁.setTop (mkF m 2 #[.val (.ref a), .val (.ref a), .unset] [(.ref a), (.ref a)])) _
  refine ownStep (fun _ k => Jvm.RoadKit.acmp (g := (mkF m 2 #[.val (.ref a), .val (.ref a), .unset] [(.ref a), (.ref a)])) X0 hx rfl rfl rfl (pc0 := 2) (pc' := 5) (same := true) rfl (hb hby own_equ_d2) rfl (decide_eq_true rfl) (by decide) (by decide) k) ?_
  refine ownStep (fun _ k => XS.iconst X0.here hx rfl (hb hby own_equ_d5) k) ?_
  show ownGo p.tables e below (s₁.setTop (mkF m 6 #[.val (.ref a), .val (.ref a), .unset] [(.int (1 : Int32))])) _
  exact ownRet X0 (v := some (.int (1 : Int32))) Bd.notSynchronized (fun h => by rw [Bd.returns] at h; cases h) (fun _ hr => retN X0 hx (t := .boolean) Bd.returns (by simp) (hb hby own_equ_d6) hr) (by rw [e0]; exact ⟨rfl, N0, rfl⟩) (by decide) (by decide)
theorem own_fdJ_d0 : decode jdk_29_method_49_code 0 = .ok (.lload_n 0, 1) := by decide +kernel
theorem own_fdJ_d1 : decode jdk_29_method_49_code 1 = .ok (.lload_n 2, 1) := by decide +kernel
theorem own_fdJ_d2 : decode jdk_29_method_49_code 2 = .ok (.ldiv, 1) := by decide +kernel
theorem own_fdJ_d3 : decode jdk_29_method_49_code 3 = .ok (.lstore 4, 2) := by decide +kernel
theorem own_fdJ_d5 : decode jdk_29_method_49_code 5 = .ok (.lload_n 0, 1) := by decide +kernel
theorem own_fdJ_d6 : decode jdk_29_method_49_code 6 = .ok (.lload_n 2, 1) := by decide +kernel
theorem own_fdJ_d7 : decode jdk_29_method_49_code 7 = .ok (.lxor, 1) := by decide +kernel
theorem own_fdJ_d8 : decode jdk_29_method_49_code 8 = .ok (.lconst 0, 1) := by decide +kernel
theorem own_fdJ_d9 : decode jdk_29_method_49_code 9 = .ok (.lcmp, 1) := by decide +kernel
theorem own_fdJ_d10 : decode jdk_29_method_49_code 10 = .ok (.ifCond .ge 17, 3) := by decide +kernel
theorem own_fdJ_d13 : decode jdk_29_method_49_code 13 = .ok (.lload 4, 2) := by decide +kernel
theorem own_fdJ_d15 : decode jdk_29_method_49_code 15 = .ok (.lload_n 2, 1) := by decide +kernel
theorem own_fdJ_d16 : decode jdk_29_method_49_code 16 = .ok (.lmul, 1) := by decide +kernel
theorem own_fdJ_d17 : decode jdk_29_method_49_code 17 = .ok (.lload_n 0, 1) := by decide +kernel
theorem own_fdJ_d18 : decode jdk_29_method_49_code 18 = .ok (.lcmp, 1) := by decide +kernel
theorem own_fdJ_d19 : decode jdk_29_method_49_code 19 = .ok (.ifCond .eq 8, 3) := by decide +kernel
theorem own_fdJ_d22 : decode jdk_29_method_49_code 22 = .ok (.lload 4, 2) := by decide +kernel
theorem own_fdJ_d24 : decode jdk_29_method_49_code 24 = .ok (.lconst 1, 1) := by decide +kernel
theorem own_fdJ_d25 : decode jdk_29_method_49_code 25 = .ok (.lsub, 1) := by decide +kernel
theorem own_fdJ_d26 : decode jdk_29_method_49_code 26 = .ok (.lreturn, 1) := by decide +kernel
theorem own_fdJ_d27 : decode jdk_29_method_49_code 27 = .ok (.lload 4, 2) := by decide +kernel
theorem own_fdJ_d29 : decode jdk_29_method_49_code 29 = .ok (.lreturn, 1) := by decide +kernel
theorem own_fdJ_ef (m : MethodId) (x0 : Int64) (x1 : Int64) : entryFrame m #[(.long x0), (.long x1)] 6 = mkF m 0 #[.val (.long x0), .second, .val (.long x1), .second, .unset, .unset] [] := by first | (simp [entryFrame, mkF, argsToLocals, Value.category]; done) | rfl
def own_fdJ_Q (Z : State) (x : Int64) (yy : Int64) (h0 : Heap) (n0 : Nat) (vv_ : Option Value) (hh_ : Heap) (LL_ : List Loc) : Prop := ∃ r : Int64, vv_ = some (.long r) ∧ Fr n0 LL_ ∧ hh_ = h0 ∧ (r.toInt = x.toInt / 1000)
set_option maxRecDepth 65536 in
set_option maxHeartbeats 40000000 in
theorem own_fdJ (l : Launch) (Z : State) (a0 : Array Value) (hw : ∀ d ∈ tables_1, d.before a0 Z = true) (ws : List Jvm.Cond) (x : Int64) (yy : Int64) (h0 : Heap) (n0 : Nat) (Z0 : n0 ≤ h0.size) (hy : yy.toInt = 1000) :
    MetFree l (⟨"java/lang/Math", "floorDiv", "(JJ)J"⟩ : MethodName) (head1 (Jvm.Cond.code (⟨"java/lang/Math", "floorDiv", "(JJ)J"⟩ : MethodName) jdk_29_method_49_code 6 (some .long) :: ws) ({ frames := 0, cells := 0, slots := 0, locals := 0 } : Room)) (fun aa_ UU_ => aa_ = #[(.long x), (.long yy)] ∧ Z.Warmed39 UU_.vm ∧ UU_.heap = h0) (fun _ _ _ _ _ => True) (fun _ UU_ oo_ UV_ => ∃ vv_ LL_, oo_ = .returned vv_ ∧ own_fdJ_Q Z x yy h0 n0 vv_ UV_.heap LL_ ∧ FrameEnd UU_ oo_ UV_ LL_ ({ frames := 0, cells := 0, slots := 0, locals := 0 } : Room).cells ({ frames := 0, cells := 0, slots := 0, locals := 0 } : Room).slots) := by
  refine MetFree.of_bodySF (Jvm.Free.JP.mathPlain rfl (by decide +kernel)) hisR ?_
  intro p e s m args below meth c s₁ Bd hml0 hP hK
  obtain ⟨rfl, hZ, hh⟩ := hP
  have hx := Bd.exec
  have hby := Bd.bytes
  have hml : c.maxLocals = 6 := hml0
  have hown : s.vm.findClass "java/lang/Math" = some m.cls := findClass_of_methodNamed Bd.named
  have hnm := (name_of_methodNamed Bd.named Bd.method).1
  have X0 : Stand p l e ({ frames := 0, cells := 0, slots := 0, locals := 0 } : Room) s m #[(.long x), (.long yy)] below meth c s₁ [] 0 0 := Stand.of_body Bd
  have e0 : s₁.heap = h0 := by rw [← hh, Bd.state]; rfl
  have N0 := Fr.nil n0
  have KP0 : Keep h0 h0 [] := Keep.refl _ _
  refine ownFin (Q := own_fdJ_Q Z x yy h0 n0) ?_
  refine ownStep (fun _ k => castTop (own_fdJ_ef m x yy) k) ?_
  show ownGo p.tables e below (s₁.setTop (mkF m 0 #[.val (.long x), .second, .val (.long yy), .second, .unset, .unset] [])) _
  refine ownStep (fun _ k => XS.lloadN X0.here hx rfl (hb hby own_fdJ_d0) rfl  k) ?_
  refine ownStep (fun _ k => XS.lloadN X0.here hx rfl (hb hby own_fdJ_d1) rfl  k) ?_
  refine ownStep (fun _ k => XS.ldiv X0.here hx rfl (hb hby own_fdJ_d2) rfl (own_y0 hy) k) ?_
  refine ownStep (fun _ k => XS.lstore X0.here hx rfl (hb hby own_fdJ_d3) rfl (l' := #[.val (.long x), .second, .val (.long yy), .second, .val (.long (x / yy)), .second]) rfl k) ?_
  refine ownStep (fun _ k => XS.lloadN X0.here hx rfl (hb hby own_fdJ_d5) rfl  k) ?_
  refine ownStep (fun _ k => XS.lloadN X0.here hx rfl (hb hby own_fdJ_d6) rfl  k) ?_
  refine ownStep (fun _ k => XS.lxor X0.here hx rfl (hb hby own_fdJ_d7) rfl k) ?_
  refine ownStep (fun _ k => XS.lconst X0.here hx rfl (hb hby own_fdJ_d8) k) ?_
  refine ownStep (fun _ k => XS.lcmp X0.here hx rfl (hb hby own_fdJ_d9) rfl k) ?_
  show ownGo p.tables e below (s₁.setTop (mkF m 10 #[.val (.long x), .second, .val (.long yy), .second, .val (.long (x / yy)), .second] [(.int (lcmpW (x ^^^ yy) (0 : Int64)))])) _
  by_cases hc10 : (lcmpW (x ^^^ yy) (0 : Int64)) < (0 : Int32)
  · skip
    refine ownStep (fun _ k => XS.ifNo X0.here hx rfl (hb hby own_fdJ_d10) rfl ((if0 _ _).trans (tlt (hc10 : (lcmpW (x ^^^ yy) (0 : Int64)) < (0 : Int32))).2.1) k) ?_
    refine ownStep (fun _ k => XS.lload X0.here hx rfl (hb hby own_fdJ_d13) rfl  k) ?_
    refine ownStep (fun _ k => XS.lloadN X0.here hx rfl (hb hby own_fdJ_d15) rfl  k) ?_
    refine ownStep (fun _ k => XS.lmul X0.here hx rfl (hb hby own_fdJ_d16) rfl k) ?_
    refine ownStep (fun _ k => XS.lloadN X0.here hx rfl (hb hby own_fdJ_d17) rfl  k) ?_
    refine ownStep (fun _ k => XS.lcmp X0.here hx rfl (hb hby own_fdJ_d18) rfl k) ?_
    show ownGo p.tables e below (s₁.setTop (mkF m 19 #[.val (.long x), .second, .val (.long yy), .second, .val (.long (x / yy)), .second] [(.int (lcmpW ((x / yy) * yy) x))])) _
    by_cases hc19 : (lcmpW ((x / yy) * yy) x) = (0 : Int32)
    · skip
      refine ownStep (fun _ k => XS.ifYes X0.here hx rfl (pc0 := 19) (pc' := 27) rfl (hb hby own_fdJ_d19) rfl ((if0 _ _).trans (teq (hc19 : (lcmpW ((x / yy) * yy) x) = (0 : Int32))).1) (by decide) (by decide) k) ?_
      refine ownStep (fun _ k => XS.lload X0.here hx rfl (hb hby own_fdJ_d27) rfl  k) ?_
      show ownGo p.tables e below (s₁.setTop (mkF m 29 #[.val (.long x), .second, .val (.long yy), .second, .val (.long (x / yy)), .second] [(.long (x / yy))])) _
      exact ownRet X0 (v := some (.long (x / yy))) Bd.notSynchronized (fun h => by rw [Bd.returns] at h; cases h) (fun _ hr => retOut X0 hx (t := .long) Bd.returns rfl (Or.inr (Or.inl ⟨rfl, rfl, _, rfl⟩)) (hb hby own_fdJ_d29) hr) (by rw [e0]; exact ⟨(x / yy), rfl, N0, rfl, (by first | exact own_fd1 hy hc10 hc19 | exact own_fd2 hy hc10 | exact own_fd3 hy hc10 hc19)⟩) (by decide) (by decide)
    · skip
      refine ownStep (fun _ k => XS.ifNo X0.here hx rfl (hb hby own_fdJ_d19) rfl ((if0 _ _).trans (feq (hc19 : ¬ (lcmpW ((x / yy) * yy) x) = (0 : Int32))).1) k) ?_
      refine ownStep (fun _ k => XS.lload X0.here hx rfl (hb hby own_fdJ_d22) rfl  k) ?_
      refine ownStep (fun _ k => XS.lconst X0.here hx rfl (hb hby own_fdJ_d24) k) ?_
      refine ownStep (fun _ k => XS.lsub X0.here hx rfl (hb hby own_fdJ_d25) rfl k) ?_
      show ownGo p.tables e below (s₁.setTop (mkF m 26 #[.val (.long x), .second, .val (.long yy), .second, .val (.long (x / yy)), .second] [(.long ((x / yy) - (1 : Int64)))])) _
      exact ownRet X0 (v := some (.long ((x / yy) - (1 : Int64)))) Bd.notSynchronized (fun h => by rw [Bd.returns] at h; cases h) (fun _ hr => retOut X0 hx (t := .long) Bd.returns rfl (Or.inr (Or.inl ⟨rfl, rfl, _, rfl⟩)) (hb hby own_fdJ_d26) hr) (by rw [e0]; exact ⟨((x / yy) - (1 : Int64)), rfl, N0, rfl, (by first | exact own_fd1 hy hc10 hc19 | exact own_fd2 hy hc10 | exact own_fd3 hy hc10 hc19)⟩) (by decide) (by decide)
  · skip
    refine ownStep (fun _ k => XS.ifYes X0.here hx rfl (pc0 := 10) (pc' := 27) rfl (hb hby own_fdJ_d10) rfl ((if0 _ _).trans (flt (hc10 : ¬ (lcmpW (x ^^^ yy) (0 : Int64)) < (0 : Int32))).2.1) (by decide) (by decide) k) ?_
    refine ownStep (fun _ k => XS.lload X0.here hx rfl (hb hby own_fdJ_d27) rfl  k) ?_
    show ownGo p.tables e below (s₁.setTop (mkF m 29 #[.val (.long x), .second, .val (.long yy), .second, .val (.long (x / yy)), .second] [(.long (x / yy))])) _
    exact ownRet X0 (v := some (.long (x / yy))) Bd.notSynchronized (fun h => by rw [Bd.returns] at h; cases h) (fun _ hr => retOut X0 hx (t := .long) Bd.returns rfl (Or.inr (Or.inl ⟨rfl, rfl, _, rfl⟩)) (hb hby own_fdJ_d29) hr) (by rw [e0]; exact ⟨(x / yy), rfl, N0, rfl, (by first | exact own_fd1 hy hc10 hc19 | exact own_fd2 hy hc10 | exact own_fd3 hy hc10 hc19)⟩) (by decide) (by decide)
theorem own_fmJ_d0 : decode jdk_29_method_52_code 0 = .ok (.lload_n 0, 1) := by decide +kernel
theorem own_fmJ_d1 : decode jdk_29_method_52_code 1 = .ok (.lload_n 2, 1) := by decide +kernel
theorem own_fmJ_d2 : decode jdk_29_method_52_code 2 = .ok (.lrem, 1) := by decide +kernel
theorem own_fmJ_d3 : decode jdk_29_method_52_code 3 = .ok (.lstore 4, 2) := by decide +kernel
theorem own_fmJ_d5 : decode jdk_29_method_52_code 5 = .ok (.lload_n 0, 1) := by decide +kernel
theorem own_fmJ_d6 : decode jdk_29_method_52_code 6 = .ok (.lload_n 2, 1) := by decide +kernel
theorem own_fmJ_d7 : decode jdk_29_method_52_code 7 = .ok (.lxor, 1) := by decide +kernel
theorem own_fmJ_d8 : decode jdk_29_method_52_code 8 = .ok (.lconst 0, 1) := by decide +kernel
theorem own_fmJ_d9 : decode jdk_29_method_52_code 9 = .ok (.lcmp, 1) := by decide +kernel
theorem own_fmJ_d10 : decode jdk_29_method_52_code 10 = .ok (.ifCond .ge 15, 3) := by decide +kernel
theorem own_fmJ_d13 : decode jdk_29_method_52_code 13 = .ok (.lload 4, 2) := by decide +kernel
theorem own_fmJ_d15 : decode jdk_29_method_52_code 15 = .ok (.lconst 0, 1) := by decide +kernel
theorem own_fmJ_d16 : decode jdk_29_method_52_code 16 = .ok (.lcmp, 1) := by decide +kernel
theorem own_fmJ_d17 : decode jdk_29_method_52_code 17 = .ok (.ifCond .eq 8, 3) := by decide +kernel
theorem own_fmJ_d20 : decode jdk_29_method_52_code 20 = .ok (.lload 4, 2) := by decide +kernel
theorem own_fmJ_d22 : decode jdk_29_method_52_code 22 = .ok (.lload_n 2, 1) := by decide +kernel
theorem own_fmJ_d23 : decode jdk_29_method_52_code 23 = .ok (.ladd, 1) := by decide +kernel
theorem own_fmJ_d24 : decode jdk_29_method_52_code 24 = .ok (.lreturn, 1) := by decide +kernel
theorem own_fmJ_d25 : decode jdk_29_method_52_code 25 = .ok (.lload 4, 2) := by decide +kernel
theorem own_fmJ_d27 : decode jdk_29_method_52_code 27 = .ok (.lreturn, 1) := by decide +kernel
theorem own_fmJ_ef (m : MethodId) (x0 : Int64) (x1 : Int64) : entryFrame m #[(.long x0), (.long x1)] 6 = mkF m 0 #[.val (.long x0), .second, .val (.long x1), .second, .unset, .unset] [] := by first | (simp [entryFrame, mkF, argsToLocals, Value.category]; done) | rfl
def own_fmJ_Q (Z : State) (x : Int64) (yy : Int64) (h0 : Heap) (n0 : Nat) (vv_ : Option Value) (hh_ : Heap) (LL_ : List Loc) : Prop := ∃ r : Int64, vv_ = some (.long r) ∧ Fr n0 LL_ ∧ hh_ = h0 ∧ (r.toInt = x.toInt % 1000)
set_option maxRecDepth 65536 in
set_option maxHeartbeats 40000000 in
theorem own_fmJ (l : Launch) (Z : State) (a0 : Array Value) (hw : ∀ d ∈ tables_1, d.before a0 Z = true) (ws : List Jvm.Cond) (x : Int64) (yy : Int64) (h0 : Heap) (n0 : Nat) (Z0 : n0 ≤ h0.size) (hy : yy.toInt = 1000) :
    MetFree l (⟨"java/lang/Math", "floorMod", "(JJ)J"⟩ : MethodName) (head1 (Jvm.Cond.code (⟨"java/lang/Math", "floorMod", "(JJ)J"⟩ : MethodName) jdk_29_method_52_code 6 (some .long) :: ws) ({ frames := 0, cells := 0, slots := 0, locals := 0 } : Room)) (fun aa_ UU_ => aa_ = #[(.long x), (.long yy)] ∧ Z.Warmed39 UU_.vm ∧ UU_.heap = h0) (fun _ _ _ _ _ => True) (fun _ UU_ oo_ UV_ => ∃ vv_ LL_, oo_ = .returned vv_ ∧ own_fmJ_Q Z x yy h0 n0 vv_ UV_.heap LL_ ∧ FrameEnd UU_ oo_ UV_ LL_ ({ frames := 0, cells := 0, slots := 0, locals := 0 } : Room).cells ({ frames := 0, cells := 0, slots := 0, locals := 0 } : Room).slots) := by
  refine MetFree.of_bodySF (Jvm.Free.JP.mathPlain rfl (by decide +kernel)) hisR ?_
  intro p e s m args below meth c s₁ Bd hml0 hP hK
  obtain ⟨rfl, hZ, hh⟩ := hP
  have hx := Bd.exec
  have hby := Bd.bytes
  have hml : c.maxLocals = 6 := hml0
  have hown : s.vm.findClass "java/lang/Math" = some m.cls := findClass_of_methodNamed Bd.named
  have hnm := (name_of_methodNamed Bd.named Bd.method).1
  have X0 : Stand p l e ({ frames := 0, cells := 0, slots := 0, locals := 0 } : Room) s m #[(.long x), (.long yy)] below meth c s₁ [] 0 0 := Stand.of_body Bd
  have e0 : s₁.heap = h0 := by rw [← hh, Bd.state]; rfl
  have N0 := Fr.nil n0
  have KP0 : Keep h0 h0 [] := Keep.refl _ _
  refine ownFin (Q := own_fmJ_Q Z x yy h0 n0) ?_
  refine ownStep (fun _ k => castTop (own_fmJ_ef m x yy) k) ?_
  show ownGo p.tables e below (s₁.setTop (mkF m 0 #[.val (.long x), .second, .val (.long yy), .second, .unset, .unset] [])) _
  refine ownStep (fun _ k => XS.lloadN X0.here hx rfl (hb hby own_fmJ_d0) rfl  k) ?_
  refine ownStep (fun _ k => XS.lloadN X0.here hx rfl (hb hby own_fmJ_d1) rfl  k) ?_
  refine ownStep (fun _ k => XS.lrem X0.here hx rfl (hb hby own_fmJ_d2) rfl (own_y0 hy) k) ?_
  refine ownStep (fun _ k => XS.lstore X0.here hx rfl (hb hby own_fmJ_d3) rfl (l' := #[.val (.long x), .second, .val (.long yy), .second, .val (.long (x - (x / yy) * yy)), .second]) rfl k) ?_
  refine ownStep (fun _ k => XS.lloadN X0.here hx rfl (hb hby own_fmJ_d5) rfl  k) ?_
  refine ownStep (fun _ k => XS.lloadN X0.here hx rfl (hb hby own_fmJ_d6) rfl  k) ?_
  refine ownStep (fun _ k => XS.lxor X0.here hx rfl (hb hby own_fmJ_d7) rfl k) ?_
  refine ownStep (fun _ k => XS.lconst X0.here hx rfl (hb hby own_fmJ_d8) k) ?_
  refine ownStep (fun _ k => XS.lcmp X0.here hx rfl (hb hby own_fmJ_d9) rfl k) ?_
  show ownGo p.tables e below (s₁.setTop (mkF m 10 #[.val (.long x), .second, .val (.long yy), .second, .val (.long (x - (x / yy) * yy)), .second] [(.int (lcmpW (x ^^^ yy) (0 : Int64)))])) _
  by_cases hc10 : (lcmpW (x ^^^ yy) (0 : Int64)) < (0 : Int32)
  · skip
    refine ownStep (fun _ k => XS.ifNo X0.here hx rfl (hb hby own_fmJ_d10) rfl ((if0 _ _).trans (tlt (hc10 : (lcmpW (x ^^^ yy) (0 : Int64)) < (0 : Int32))).2.1) k) ?_
    refine ownStep (fun _ k => XS.lload X0.here hx rfl (hb hby own_fmJ_d13) rfl  k) ?_
    refine ownStep (fun _ k => XS.lconst X0.here hx rfl (hb hby own_fmJ_d15) k) ?_
    refine ownStep (fun _ k => XS.lcmp X0.here hx rfl (hb hby own_fmJ_d16) rfl k) ?_
    show ownGo p.tables e below (s₁.setTop (mkF m 17 #[.val (.long x), .second, .val (.long yy), .second, .val (.long (x - (x / yy) * yy)), .second] [(.int (lcmpW (x - (x / yy) * yy) (0 : Int64)))])) _
    by_cases hc17 : (lcmpW (x - (x / yy) * yy) (0 : Int64)) = (0 : Int32)
    · skip
      refine ownStep (fun _ k => XS.ifYes X0.here hx rfl (pc0 := 17) (pc' := 25) rfl (hb hby own_fmJ_d17) rfl ((if0 _ _).trans (teq (hc17 : (lcmpW (x - (x / yy) * yy) (0 : Int64)) = (0 : Int32))).1) (by decide) (by decide) k) ?_
      refine ownStep (fun _ k => XS.lload X0.here hx rfl (hb hby own_fmJ_d25) rfl  k) ?_
      show ownGo p.tables e below (s₁.setTop (mkF m 27 #[.val (.long x), .second, .val (.long yy), .second, .val (.long (x - (x / yy) * yy)), .second] [(.long (x - (x / yy) * yy))])) _
      exact ownRet X0 (v := some (.long (x - (x / yy) * yy))) Bd.notSynchronized (fun h => by rw [Bd.returns] at h; cases h) (fun _ hr => retOut X0 hx (t := .long) Bd.returns rfl (Or.inr (Or.inl ⟨rfl, rfl, _, rfl⟩)) (hb hby own_fmJ_d27) hr) (by rw [e0]; exact ⟨(x - (x / yy) * yy), rfl, N0, rfl, (by first | exact own_fm1 hy hc10 hc17 | exact own_fm2 hy hc10 | exact own_fm3 hy hc10 hc17)⟩) (by decide) (by decide)
    · skip
      refine ownStep (fun _ k => XS.ifNo X0.here hx rfl (hb hby own_fmJ_d17) rfl ((if0 _ _).trans (feq (hc17 : ¬ (lcmpW (x - (x / yy) * yy) (0 : Int64)) = (0 : Int32))).1) k) ?_
      refine ownStep (fun _ k => XS.lload X0.here hx rfl (hb hby own_fmJ_d20) rfl  k) ?_
      refine ownStep (fun _ k => XS.lloadN X0.here hx rfl (hb hby own_fmJ_d22) rfl  k) ?_
      refine ownStep (fun _ k => XS.ladd X0.here hx rfl (hb hby own_fmJ_d23) rfl k) ?_
      show ownGo p.tables e below (s₁.setTop (mkF m 24 #[.val (.long x), .second, .val (.long yy), .second, .val (.long (x - (x / yy) * yy)), .second] [(.long ((x - (x / yy) * yy) + yy))])) _
      exact ownRet X0 (v := some (.long ((x - (x / yy) * yy) + yy))) Bd.notSynchronized (fun h => by rw [Bd.returns] at h; cases h) (fun _ hr => retOut X0 hx (t := .long) Bd.returns rfl (Or.inr (Or.inl ⟨rfl, rfl, _, rfl⟩)) (hb hby own_fmJ_d24) hr) (by rw [e0]; exact ⟨((x - (x / yy) * yy) + yy), rfl, N0, rfl, (by first | exact own_fm1 hy hc10 hc17 | exact own_fm2 hy hc10 | exact own_fm3 hy hc10 hc17)⟩) (by decide) (by decide)
  · skip
    refine ownStep (fun _ k => XS.ifYes X0.here hx rfl (pc0 := 10) (pc' := 25) rfl (hb hby own_fmJ_d10) rfl ((if0 _ _).trans (flt (hc10 : ¬ (lcmpW (x ^^^ yy) (0 : Int64)) < (0 : Int32))).2.1) (by decide) (by decide) k) ?_
    refine ownStep (fun _ k => XS.lload X0.here hx rfl (hb hby own_fmJ_d25) rfl  k) ?_
    show ownGo p.tables e below (s₁.setTop (mkF m 27 #[.val (.long x), .second, .val (.long yy), .second, .val (.long (x - (x / yy) * yy)), .second] [(.long (x - (x / yy) * yy))])) _
    exact ownRet X0 (v := some (.long (x - (x / yy) * yy))) Bd.notSynchronized (fun h => by rw [Bd.returns] at h; cases h) (fun _ hr => retOut X0 hx (t := .long) Bd.returns rfl (Or.inr (Or.inl ⟨rfl, rfl, _, rfl⟩)) (hb hby own_fmJ_d27) hr) (by rw [e0]; exact ⟨(x - (x / yy) * yy), rfl, N0, rfl, (by first | exact own_fm1 hy hc10 hc17 | exact own_fm2 hy hc10 | exact own_fm3 hy hc10 hc17)⟩) (by decide) (by decide)
theorem own_fdI_d0 : decode jdk_29_method_48_code 0 = .ok (.lload_n 0, 1) := by decide +kernel
theorem own_fdI_d1 : decode jdk_29_method_48_code 1 = .ok (.iload_n 2, 1) := by decide +kernel
theorem own_fdI_d2 : decode jdk_29_method_48_code 2 = .ok (.i2l, 1) := by decide +kernel
theorem own_fdI_d3 : decode jdk_29_method_48_code 3 = .ok (.invokestatic 143, 3) := by decide +kernel
theorem own_fdI_d6 : decode jdk_29_method_48_code 6 = .ok (.lreturn, 1) := by decide +kernel
theorem own_fdI_pd0 : parseMethodDescriptor "(JJ)J" = some ⟨[.long, .long], some .long⟩ := by decide +kernel
theorem own_fdI_ef (m : MethodId) (x0 : Int64) (x1 : Int32) : entryFrame m #[(.long x0), (.int x1)] 3 = mkF m 0 #[.val (.long x0), .second, .val (.int x1)] [] := by first | (simp [entryFrame, mkF, argsToLocals, Value.category]; done) | rfl
def own_fdI_Q (Z : State) (x : Int64) (h0 : Heap) (n0 : Nat) (vv_ : Option Value) (hh_ : Heap) (LL_ : List Loc) : Prop := ∃ r : Int64, vv_ = some (.long r) ∧ Fr n0 LL_ ∧ hh_ = h0 ∧ (r.toInt = x.toInt / 1000)
set_option maxRecDepth 65536 in
set_option maxHeartbeats 40000000 in
theorem own_fdI (l : Launch) (Z : State) (a0 : Array Value) (hw : ∀ d ∈ tables_1, d.before a0 Z = true) (ws : List Jvm.Cond) (x : Int64) (h0 : Heap) (n0 : Nat) (Z0 : n0 ≤ h0.size) :
    MetFree l (⟨"java/lang/Math", "floorDiv", "(JI)J"⟩ : MethodName) (head1 (Jvm.Cond.code (⟨"java/lang/Math", "floorDiv", "(JI)J"⟩ : MethodName) jdk_29_method_48_code 3 (some .long) :: ws) ({ frames := 1, cells := 0, slots := 0, locals := 17 } : Room)) (fun aa_ UU_ => aa_ = #[(.long x), (.int (1000 : Int32))] ∧ Z.Warmed39 UU_.vm ∧ UU_.heap = h0) (fun _ _ _ _ _ => True) (fun _ UU_ oo_ UV_ => ∃ vv_ LL_, oo_ = .returned vv_ ∧ own_fdI_Q Z x h0 n0 vv_ UV_.heap LL_ ∧ FrameEnd UU_ oo_ UV_ LL_ ({ frames := 1, cells := 0, slots := 0, locals := 17 } : Room).cells ({ frames := 1, cells := 0, slots := 0, locals := 17 } : Room).slots) := by
  refine MetFree.of_bodySF (Jvm.Free.JP.mathPlain rfl (by decide +kernel)) hisR ?_
  intro p e s m args below meth c s₁ Bd hml0 hP hK
  obtain ⟨rfl, hZ, hh⟩ := hP
  have hx := Bd.exec
  have hby := Bd.bytes
  have hml : c.maxLocals = 3 := hml0
  have hown : s.vm.findClass "java/lang/Math" = some m.cls := findClass_of_methodNamed Bd.named
  have hnm := (name_of_methodNamed Bd.named Bd.method).1
  have X0 : Stand p l e ({ frames := 1, cells := 0, slots := 0, locals := 17 } : Room) s m #[(.long x), (.int (1000 : Int32))] below meth c s₁ [] 0 0 := Stand.of_body Bd
  have e0 : s₁.heap = h0 := by rw [← hh, Bd.state]; rfl
  have N0 := Fr.nil n0
  have KP0 : Keep h0 h0 [] := Keep.refl _ _
  refine ownFin (Q := own_fdI_Q Z x h0 n0) ?_
  refine ownStep (fun _ k => castTop (own_fdI_ef m x (1000 : Int32)) k) ?_
  show ownGo p.tables e below (s₁.setTop (mkF m 0 #[.val (.long x), .second, .val (.int (1000 : Int32))] [])) _
  refine ownStep (fun _ k => XS.lloadN X0.here hx rfl (hb hby own_fdI_d0) rfl  k) ?_
  refine ownStep (fun _ k => XS.iloadN X0.here hx rfl (hb hby own_fdI_d1) rfl  k) ?_
  refine ownStep (fun _ k => XS.i2l X0.here hx rfl (hb hby own_fdI_d2) rfl k) ?_
  show ownGo p.tables e below (s₁.setTop (mkF m 3 #[.val (.long x), .second, .val (.int (1000 : Int32))] [(.long ((1000 : Int32).toInt64)), (.long x)])) _
  have Zs2 : n0 ≤ h0.size := Nat.le_trans Z0 KP0.1
  obtain ⟨_, _, ⟨T1, L1, k1, n1⟩, -, X1, ⟨Lc1, hQ1, l1, y1, z1⟩, st1⟩ := Jvm.LawKit.callS X0 hx (y := (⟨"java/lang/Math", "floorDiv", "(JJ)J"⟩ : MethodName)) hown (mvT hZ (hw _ ow201)) (mvT hZ (hw _ ow202)) (mvT hZ (hw _ ow199)) (mvT hZ (hw _ ow203)) (by decide) (backOf (W := 0) (own_fdJ l Z a0 hw [] x ((1000 : Int32).toInt64) h0 n0 Zs2 (by decide)) hZ (hw _ ow203) (hw _ ow199) (by decide) (by decide)) (g := (mkF m 3 #[.val (.long x), .second, .val (.int (1000 : Int32))] [(.long ((1000 : Int32).toInt64)), (.long x)])) rfl (by rw [hml]; rfl) (argsL := [(.long x), (.long ((1000 : Int32).toInt64))]) (rest := []) (lenOf own_fdI_pd0 rfl) rfl (by show 2 * 0 + _ ≤ _; exact Nat.le_of_eq rfl) (hb hby own_fdI_d3) (fun _ _ => ⟨rfl, e0, (by decide : 0 + 0 ≤ _), (by decide : 0 + 0 ≤ _)⟩)
  dsimp only [Pt.U, Pt.locs, Pt.cells, Pt.slots] at X1 l1 y1 z1 st1 hQ1
  obtain rfl : k1 = 0 := y1
  obtain rfl : n1 = 0 := z1
  obtain ⟨rr, rfl, N1q, R1, P3⟩ := hQ1
  have N1 : Fr n0 L1 := l1 ▸ Fr.app N0 N1q
  refine ownStep (fun _ k => st1 _ k) ?_
  show ownGo p.tables e below (T1.setTop (mkF m 6 #[.val (.long x), .second, .val (.int (1000 : Int32))] [(.long rr)])) _
  exact ownRet X1 (v := some (.long rr)) Bd.notSynchronized (fun h => by rw [Bd.returns] at h; cases h) (fun _ hr => retOut X1 hx (t := .long) Bd.returns rfl (Or.inr (Or.inl ⟨rfl, rfl, _, rfl⟩)) (hb hby own_fdI_d6) hr) (by rw [R1]; exact ⟨rr, rfl, N1, rfl, P3⟩) (by decide) (by decide)
theorem own_fmI_d0 : decode jdk_29_method_51_code 0 = .ok (.lload_n 0, 1) := by decide +kernel
theorem own_fmI_d1 : decode jdk_29_method_51_code 1 = .ok (.iload_n 2, 1) := by decide +kernel
theorem own_fmI_d2 : decode jdk_29_method_51_code 2 = .ok (.i2l, 1) := by decide +kernel
theorem own_fmI_d3 : decode jdk_29_method_51_code 3 = .ok (.invokestatic 146, 3) := by decide +kernel
theorem own_fmI_d6 : decode jdk_29_method_51_code 6 = .ok (.l2i, 1) := by decide +kernel
theorem own_fmI_d7 : decode jdk_29_method_51_code 7 = .ok (.ireturn, 1) := by decide +kernel
theorem own_fmI_pd0 : parseMethodDescriptor "(JJ)J" = some ⟨[.long, .long], some .long⟩ := by decide +kernel
theorem own_fmI_ef (m : MethodId) (x0 : Int64) (x1 : Int32) : entryFrame m #[(.long x0), (.int x1)] 3 = mkF m 0 #[.val (.long x0), .second, .val (.int x1)] [] := by first | (simp [entryFrame, mkF, argsToLocals, Value.category]; done) | rfl
def own_fmI_Q (Z : State) (x : Int64) (h0 : Heap) (n0 : Nat) (vv_ : Option Value) (hh_ : Heap) (LL_ : List Loc) : Prop := ∃ r : Int32, vv_ = some (.int r) ∧ Fr n0 LL_ ∧ hh_ = h0 ∧ (r.toInt = x.toInt % 1000)
set_option maxRecDepth 65536 in
set_option maxHeartbeats 40000000 in
theorem own_fmI (l : Launch) (Z : State) (a0 : Array Value) (hw : ∀ d ∈ tables_1, d.before a0 Z = true) (ws : List Jvm.Cond) (x : Int64) (h0 : Heap) (n0 : Nat) (Z0 : n0 ≤ h0.size) :
    MetFree l (⟨"java/lang/Math", "floorMod", "(JI)I"⟩ : MethodName) (head1 (Jvm.Cond.code (⟨"java/lang/Math", "floorMod", "(JI)I"⟩ : MethodName) jdk_29_method_51_code 3 (some .int) :: ws) ({ frames := 1, cells := 0, slots := 0, locals := 17 } : Room)) (fun aa_ UU_ => aa_ = #[(.long x), (.int (1000 : Int32))] ∧ Z.Warmed39 UU_.vm ∧ UU_.heap = h0) (fun _ _ _ _ _ => True) (fun _ UU_ oo_ UV_ => ∃ vv_ LL_, oo_ = .returned vv_ ∧ own_fmI_Q Z x h0 n0 vv_ UV_.heap LL_ ∧ FrameEnd UU_ oo_ UV_ LL_ ({ frames := 1, cells := 0, slots := 0, locals := 17 } : Room).cells ({ frames := 1, cells := 0, slots := 0, locals := 17 } : Room).slots) := by
  refine MetFree.of_bodySF (Jvm.Free.JP.mathPlain rfl (by decide +kernel)) hisR ?_
  intro p e s m args below meth c s₁ Bd hml0 hP hK
  obtain ⟨rfl, hZ, hh⟩ := hP
  have hx := Bd.exec
  have hby := Bd.bytes
  have hml : c.maxLocals = 3 := hml0
  have hown : s.vm.findClass "java/lang/Math" = some m.cls := findClass_of_methodNamed Bd.named
  have hnm := (name_of_methodNamed Bd.named Bd.method).1
  have X0 : Stand p l e ({ frames := 1, cells := 0, slots := 0, locals := 17 } : Room) s m #[(.long x), (.int (1000 : Int32))] below meth c s₁ [] 0 0 := Stand.of_body Bd
  have e0 : s₁.heap = h0 := by rw [← hh, Bd.state]; rfl
  have N0 := Fr.nil n0
  have KP0 : Keep h0 h0 [] := Keep.refl _ _
  refine ownFin (Q := own_fmI_Q Z x h0 n0) ?_
  refine ownStep (fun _ k => castTop (own_fmI_ef m x (1000 : Int32)) k) ?_
  show ownGo p.tables e below (s₁.setTop (mkF m 0 #[.val (.long x), .second, .val (.int (1000 : Int32))] [])) _
  refine ownStep (fun _ k => XS.lloadN X0.here hx rfl (hb hby own_fmI_d0) rfl  k) ?_
  refine ownStep (fun _ k => XS.iloadN X0.here hx rfl (hb hby own_fmI_d1) rfl  k) ?_
  refine ownStep (fun _ k => XS.i2l X0.here hx rfl (hb hby own_fmI_d2) rfl k) ?_
  show ownGo p.tables e below (s₁.setTop (mkF m 3 #[.val (.long x), .second, .val (.int (1000 : Int32))] [(.long ((1000 : Int32).toInt64)), (.long x)])) _
  have Zs2 : n0 ≤ h0.size := Nat.le_trans Z0 KP0.1
  obtain ⟨_, _, ⟨T1, L1, k1, n1⟩, -, X1, ⟨Lc1, hQ1, l1, y1, z1⟩, st1⟩ := Jvm.LawKit.callS X0 hx (y := (⟨"java/lang/Math", "floorMod", "(JJ)J"⟩ : MethodName)) hown (mvT hZ (hw _ ow207)) (mvT hZ (hw _ ow208)) (mvT hZ (hw _ ow199)) (mvT hZ (hw _ ow209)) (by decide) (backOf (W := 0) (own_fmJ l Z a0 hw [] x ((1000 : Int32).toInt64) h0 n0 Zs2 (by decide)) hZ (hw _ ow209) (hw _ ow199) (by decide) (by decide)) (g := (mkF m 3 #[.val (.long x), .second, .val (.int (1000 : Int32))] [(.long ((1000 : Int32).toInt64)), (.long x)])) rfl (by rw [hml]; rfl) (argsL := [(.long x), (.long ((1000 : Int32).toInt64))]) (rest := []) (lenOf own_fmI_pd0 rfl) rfl (by show 2 * 0 + _ ≤ _; exact Nat.le_of_eq rfl) (hb hby own_fmI_d3) (fun _ _ => ⟨rfl, e0, (by decide : 0 + 0 ≤ _), (by decide : 0 + 0 ≤ _)⟩)
  dsimp only [Pt.U, Pt.locs, Pt.cells, Pt.slots] at X1 l1 y1 z1 st1 hQ1
  obtain rfl : k1 = 0 := y1
  obtain rfl : n1 = 0 := z1
  obtain ⟨rr, rfl, N1q, R1, P3⟩ := hQ1
  have N1 : Fr n0 L1 := l1 ▸ Fr.app N0 N1q
  refine ownStep (fun _ k => st1 _ k) ?_
  refine ownStep (fun _ k => XS.l2i X1.here hx rfl (hb hby own_fmI_d6) rfl k) ?_
  show ownGo p.tables e below (T1.setTop (mkF m 7 #[.val (.long x), .second, .val (.int (1000 : Int32))] [(.int (rr.toInt32))])) _
  exact ownRet X1 (v := some (.int (rr.toInt32))) Bd.notSynchronized (fun h => by rw [Bd.returns] at h; cases h) (fun _ hr => retI X1 hx Bd.returns (hb hby own_fmI_d7) hr) (by rw [R1]; exact ⟨(rr.toInt32), rfl, N1, rfl, (own_fmi P3)⟩) (by decide) (by decide)
theorem own_abs_d0 : decode jdk_29_method_61_code 0 = .ok (.lload_n 0, 1) := by decide +kernel
theorem own_abs_d1 : decode jdk_29_method_61_code 1 = .ok (.lconst 0, 1) := by decide +kernel
theorem own_abs_d2 : decode jdk_29_method_61_code 2 = .ok (.lcmp, 1) := by decide +kernel
theorem own_abs_d3 : decode jdk_29_method_61_code 3 = .ok (.ifCond .ge 8, 3) := by decide +kernel
theorem own_abs_d6 : decode jdk_29_method_61_code 6 = .ok (.lload_n 0, 1) := by decide +kernel
theorem own_abs_d7 : decode jdk_29_method_61_code 7 = .ok (.lneg, 1) := by decide +kernel
theorem own_abs_d8 : decode jdk_29_method_61_code 8 = .ok (.goto 4, 3) := by decide +kernel
theorem own_abs_d11 : decode jdk_29_method_61_code 11 = .ok (.lload_n 0, 1) := by decide +kernel
theorem own_abs_d12 : decode jdk_29_method_61_code 12 = .ok (.lreturn, 1) := by decide +kernel
theorem own_abs_ef (m : MethodId) (x0 : Int64) : entryFrame m #[(.long x0)] 2 = mkF m 0 #[.val (.long x0), .second] [] := by first | (simp [entryFrame, mkF, argsToLocals, Value.category]; done) | rfl
def own_abs_Q (Z : State) (x : Int64) (h0 : Heap) (n0 : Nat) (vv_ : Option Value) (hh_ : Heap) (LL_ : List Loc) : Prop := ∃ r : Int64, vv_ = some (.long r) ∧ Fr n0 LL_ ∧ hh_ = h0
set_option maxRecDepth 65536 in
set_option maxHeartbeats 40000000 in
theorem own_abs (l : Launch) (Z : State) (a0 : Array Value) (hw : ∀ d ∈ tables_1, d.before a0 Z = true) (ws : List Jvm.Cond) (x : Int64) (h0 : Heap) (n0 : Nat) (Z0 : n0 ≤ h0.size) :
    MetFree l (⟨"java/lang/Math", "abs", "(J)J"⟩ : MethodName) (head1 (Jvm.Cond.code (⟨"java/lang/Math", "abs", "(J)J"⟩ : MethodName) jdk_29_method_61_code 2 (some .long) :: ws) ({ frames := 0, cells := 0, slots := 0, locals := 0 } : Room)) (fun aa_ UU_ => aa_ = #[(.long x)] ∧ Z.Warmed39 UU_.vm ∧ UU_.heap = h0) (fun _ _ _ _ _ => True) (fun _ UU_ oo_ UV_ => ∃ vv_ LL_, oo_ = .returned vv_ ∧ own_abs_Q Z x h0 n0 vv_ UV_.heap LL_ ∧ FrameEnd UU_ oo_ UV_ LL_ ({ frames := 0, cells := 0, slots := 0, locals := 0 } : Room).cells ({ frames := 0, cells := 0, slots := 0, locals := 0 } : Room).slots) := by
  refine MetFree.of_bodySF (Jvm.Free.JP.mathPlain rfl (by decide +kernel)) hisR ?_
  intro p e s m args below meth c s₁ Bd hml0 hP hK
  obtain ⟨rfl, hZ, hh⟩ := hP
  have hx := Bd.exec
  have hby := Bd.bytes
  have hml : c.maxLocals = 2 := hml0
  have hown : s.vm.findClass "java/lang/Math" = some m.cls := findClass_of_methodNamed Bd.named
  have hnm := (name_of_methodNamed Bd.named Bd.method).1
  have X0 : Stand p l e ({ frames := 0, cells := 0, slots := 0, locals := 0 } : Room) s m #[(.long x)] below meth c s₁ [] 0 0 := Stand.of_body Bd
  have e0 : s₁.heap = h0 := by rw [← hh, Bd.state]; rfl
  have N0 := Fr.nil n0
  have KP0 : Keep h0 h0 [] := Keep.refl _ _
  refine ownFin (Q := own_abs_Q Z x h0 n0) ?_
  refine ownStep (fun _ k => castTop (own_abs_ef m x) k) ?_
  show ownGo p.tables e below (s₁.setTop (mkF m 0 #[.val (.long x), .second] [])) _
  refine ownStep (fun _ k => XS.lloadN X0.here hx rfl (hb hby own_abs_d0) rfl  k) ?_
  refine ownStep (fun _ k => XS.lconst X0.here hx rfl (hb hby own_abs_d1) k) ?_
  refine ownStep (fun _ k => XS.lcmp X0.here hx rfl (hb hby own_abs_d2) rfl k) ?_
  show ownGo p.tables e below (s₁.setTop (mkF m 3 #[.val (.long x), .second] [(.int (lcmpW x (0 : Int64)))])) _
  by_cases hc3 : (lcmpW x (0 : Int64)) < (0 : Int32)
  · skip
    refine ownStep (fun _ k => XS.ifNo X0.here hx rfl (hb hby own_abs_d3) rfl ((if0 _ _).trans (tlt (hc3 : (lcmpW x (0 : Int64)) < (0 : Int32))).2.1) k) ?_
    refine ownStep (fun _ k => XS.lloadN X0.here hx rfl (hb hby own_abs_d6) rfl  k) ?_
    refine ownStep (fun _ k => XS.lneg X0.here hx rfl (hb hby own_abs_d7) rfl k) ?_
    refine ownStep (fun _ k => XS.goto X0.here hx rfl (pc0 := 8) (pc' := 12) rfl (hb hby own_abs_d8) (by decide) (by decide) k) ?_
    show ownGo p.tables e below (s₁.setTop (mkF m 12 #[.val (.long x), .second] [(.long (-x))])) _
    exact ownRet X0 (v := some (.long (-x))) Bd.notSynchronized (fun h => by rw [Bd.returns] at h; cases h) (fun _ hr => retOut X0 hx (t := .long) Bd.returns rfl (Or.inr (Or.inl ⟨rfl, rfl, _, rfl⟩)) (hb hby own_abs_d12) hr) (by rw [e0]; exact ⟨(-x), rfl, N0, rfl⟩) (by decide) (by decide)
  · skip
    refine ownStep (fun _ k => XS.ifYes X0.here hx rfl (pc0 := 3) (pc' := 11) rfl (hb hby own_abs_d3) rfl ((if0 _ _).trans (flt (hc3 : ¬ (lcmpW x (0 : Int64)) < (0 : Int32))).2.1) (by decide) (by decide) k) ?_
    refine ownStep (fun _ k => XS.lloadN X0.here hx rfl (hb hby own_abs_d11) rfl  k) ?_
    show ownGo p.tables e below (s₁.setTop (mkF m 12 #[.val (.long x), .second] [(.long x)])) _
    exact ownRet X0 (v := some (.long x)) Bd.notSynchronized (fun h => by rw [Bd.returns] at h; cases h) (fun _ hr => retOut X0 hx (t := .long) Bd.returns rfl (Or.inr (Or.inl ⟨rfl, rfl, _, rfl⟩)) (hb hby own_abs_d12) hr) (by rw [e0]; exact ⟨x, rfl, N0, rfl⟩) (by decide) (by decide)
theorem own_muJ_d0 : decode jdk_29_method_30_code 0 = .ok (.lload_n 0, 1) := by decide +kernel
theorem own_muJ_d1 : decode jdk_29_method_30_code 1 = .ok (.lload_n 2, 1) := by decide +kernel
theorem own_muJ_d2 : decode jdk_29_method_30_code 2 = .ok (.lmul, 1) := by decide +kernel
theorem own_muJ_d3 : decode jdk_29_method_30_code 3 = .ok (.lstore 4, 2) := by decide +kernel
theorem own_muJ_d5 : decode jdk_29_method_30_code 5 = .ok (.lload_n 0, 1) := by decide +kernel
theorem own_muJ_d6 : decode jdk_29_method_30_code 6 = .ok (.invokestatic 122, 3) := by decide +kernel
theorem own_muJ_d9 : decode jdk_29_method_30_code 9 = .ok (.lstore 6, 2) := by decide +kernel
theorem own_muJ_d11 : decode jdk_29_method_30_code 11 = .ok (.lload_n 2, 1) := by decide +kernel
theorem own_muJ_d12 : decode jdk_29_method_30_code 12 = .ok (.invokestatic 122, 3) := by decide +kernel
theorem own_muJ_d15 : decode jdk_29_method_30_code 15 = .ok (.lstore 8, 2) := by decide +kernel
theorem own_muJ_d17 : decode jdk_29_method_30_code 17 = .ok (.lload 6, 2) := by decide +kernel
theorem own_muJ_d19 : decode jdk_29_method_30_code 19 = .ok (.lload 8, 2) := by decide +kernel
theorem own_muJ_d21 : decode jdk_29_method_30_code 21 = .ok (.lor, 1) := by decide +kernel
theorem own_muJ_d22 : decode jdk_29_method_30_code 22 = .ok (.bipush 31, 2) := by decide +kernel
theorem own_muJ_d24 : decode jdk_29_method_30_code 24 = .ok (.lushr, 1) := by decide +kernel
theorem own_muJ_d25 : decode jdk_29_method_30_code 25 = .ok (.lconst 0, 1) := by decide +kernel
theorem own_muJ_d26 : decode jdk_29_method_30_code 26 = .ok (.lcmp, 1) := by decide +kernel
theorem own_muJ_d27 : decode jdk_29_method_30_code 27 = .ok (.ifCond .eq 44, 3) := by decide +kernel
theorem own_muJ_d30 : decode jdk_29_method_30_code 30 = .ok (.lload_n 2, 1) := by decide +kernel
theorem own_muJ_d31 : decode jdk_29_method_30_code 31 = .ok (.lconst 0, 1) := by decide +kernel
theorem own_muJ_d32 : decode jdk_29_method_30_code 32 = .ok (.lcmp, 1) := by decide +kernel
theorem own_muJ_d33 : decode jdk_29_method_30_code 33 = .ok (.ifCond .eq 12, 3) := by decide +kernel
theorem own_muJ_d36 : decode jdk_29_method_30_code 36 = .ok (.lload 4, 2) := by decide +kernel
theorem own_muJ_d38 : decode jdk_29_method_30_code 38 = .ok (.lload_n 2, 1) := by decide +kernel
theorem own_muJ_d39 : decode jdk_29_method_30_code 39 = .ok (.ldiv, 1) := by decide +kernel
theorem own_muJ_d40 : decode jdk_29_method_30_code 40 = .ok (.lload_n 0, 1) := by decide +kernel
theorem own_muJ_d41 : decode jdk_29_method_30_code 41 = .ok (.lcmp, 1) := by decide +kernel
theorem own_muJ_d42 : decode jdk_29_method_30_code 42 = .ok (.ifCond .ne 19, 3) := by decide +kernel
theorem own_muJ_d45 : decode jdk_29_method_30_code 45 = .ok (.lload_n 0, 1) := by decide +kernel
theorem own_muJ_d46 : decode jdk_29_method_30_code 46 = .ok (.ldc2_w 128, 3) := by decide +kernel
theorem own_muJ_d49 : decode jdk_29_method_30_code 49 = .ok (.lcmp, 1) := by decide +kernel
theorem own_muJ_d50 : decode jdk_29_method_30_code 50 = .ok (.ifCond .ne 21, 3) := by decide +kernel
theorem own_muJ_d71 : decode jdk_29_method_30_code 71 = .ok (.lload 4, 2) := by decide +kernel
theorem own_muJ_d73 : decode jdk_29_method_30_code 73 = .ok (.lreturn, 1) := by decide +kernel
theorem own_muJ_pd0 : parseMethodDescriptor "(J)J" = some ⟨[.long], some .long⟩ := by decide +kernel
theorem own_muJ_ef (m : MethodId) (x0 : Int64) (x1 : Int64) : entryFrame m #[(.long x0), (.long x1)] 10 = mkF m 0 #[.val (.long x0), .second, .val (.long x1), .second, .unset, .unset, .unset, .unset, .unset, .unset] [] := by first | (simp [entryFrame, mkF, argsToLocals, Value.category]; done) | rfl
def own_muJ_Q (Z : State) (x : Int64) (yy : Int64) (h0 : Heap) (n0 : Nat) (vv_ : Option Value) (hh_ : Heap) (LL_ : List Loc) : Prop := vv_ = some (.long (x * yy)) ∧ Fr n0 LL_ ∧ hh_ = h0
set_option maxRecDepth 65536 in
set_option maxHeartbeats 40000000 in
theorem own_muJ (l : Launch) (Z : State) (a0 : Array Value) (hw : ∀ d ∈ tables_1, d.before a0 Z = true) (ws : List Jvm.Cond) (x : Int64) (yy : Int64) (h0 : Heap) (n0 : Nat) (Z0 : n0 ≤ h0.size) (hy : yy.toInt = 1000) (hov : own_ov x) :
    MetFree l (⟨"java/lang/Math", "multiplyExact", "(JJ)J"⟩ : MethodName) (head1 (Jvm.Cond.code (⟨"java/lang/Math", "multiplyExact", "(JJ)J"⟩ : MethodName) jdk_29_method_30_code 10 (some .long) :: ws) ({ frames := 1, cells := 0, slots := 0, locals := 13 } : Room)) (fun aa_ UU_ => aa_ = #[(.long x), (.long yy)] ∧ Z.Warmed39 UU_.vm ∧ UU_.heap = h0) (fun _ _ _ _ _ => True) (fun _ UU_ oo_ UV_ => ∃ vv_ LL_, oo_ = .returned vv_ ∧ own_muJ_Q Z x yy h0 n0 vv_ UV_.heap LL_ ∧ FrameEnd UU_ oo_ UV_ LL_ ({ frames := 1, cells := 0, slots := 0, locals := 13 } : Room).cells ({ frames := 1, cells := 0, slots := 0, locals := 13 } : Room).slots) := by
  refine MetFree.of_bodySF (Jvm.Free.JP.mathPlain rfl (by decide +kernel)) hisR ?_
  intro p e s m args below meth c s₁ Bd hml0 hP hK
  obtain ⟨rfl, hZ, hh⟩ := hP
  have hx := Bd.exec
  have hby := Bd.bytes
  have hml : c.maxLocals = 10 := hml0
  have hown : s.vm.findClass "java/lang/Math" = some m.cls := findClass_of_methodNamed Bd.named
  have hnm := (name_of_methodNamed Bd.named Bd.method).1
  have X0 : Stand p l e ({ frames := 1, cells := 0, slots := 0, locals := 13 } : Room) s m #[(.long x), (.long yy)] below meth c s₁ [] 0 0 := Stand.of_body Bd
  have e0 : s₁.heap = h0 := by rw [← hh, Bd.state]; rfl
  have N0 := Fr.nil n0
  have KP0 : Keep h0 h0 [] := Keep.refl _ _
  refine ownFin (Q := own_muJ_Q Z x yy h0 n0) ?_
  refine ownStep (fun _ k => castTop (own_muJ_ef m x yy) k) ?_
  show ownGo p.tables e below (s₁.setTop (mkF m 0 #[.val (.long x), .second, .val (.long yy), .second, .unset, .unset, .unset, .unset, .unset, .unset] [])) _
  refine ownStep (fun _ k => XS.lloadN X0.here hx rfl (hb hby own_muJ_d0) rfl  k) ?_
  refine ownStep (fun _ k => XS.lloadN X0.here hx rfl (hb hby own_muJ_d1) rfl  k) ?_
  refine ownStep (fun _ k => XS.lmul X0.here hx rfl (hb hby own_muJ_d2) rfl k) ?_
  refine ownStep (fun _ k => XS.lstore X0.here hx rfl (hb hby own_muJ_d3) rfl (l' := #[.val (.long x), .second, .val (.long yy), .second, .val (.long (x * yy)), .second, .unset, .unset, .unset, .unset]) rfl k) ?_
  refine ownStep (fun _ k => XS.lloadN X0.here hx rfl (hb hby own_muJ_d5) rfl  k) ?_
  show ownGo p.tables e below (s₁.setTop (mkF m 6 #[.val (.long x), .second, .val (.long yy), .second, .val (.long (x * yy)), .second, .unset, .unset, .unset, .unset] [(.long x)])) _
  have Zs2 : n0 ≤ h0.size := Nat.le_trans Z0 KP0.1
  obtain ⟨_, _, ⟨T1, L1, k1, n1⟩, -, X1, ⟨Lc1, hQ1, l1, y1, z1⟩, st1⟩ := Jvm.LawKit.callS X0 hx (y := (⟨"java/lang/Math", "abs", "(J)J"⟩ : MethodName)) hown (mvT hZ (hw _ ow270)) (mvT hZ (hw _ ow271)) (mvT hZ (hw _ ow199)) (mvT hZ (hw _ ow272)) (by decide) (backOf (W := 0) (own_abs l Z a0 hw [] x h0 n0 Zs2 ) hZ (hw _ ow272) (hw _ ow199) (by decide) (by decide)) (g := (mkF m 6 #[.val (.long x), .second, .val (.long yy), .second, .val (.long (x * yy)), .second, .unset, .unset, .unset, .unset] [(.long x)])) rfl (by rw [hml]; rfl) (argsL := [(.long x)]) (rest := []) (lenOf own_muJ_pd0 rfl) rfl (by show 2 * 0 + _ ≤ _; exact Nat.le_of_eq rfl) (hb hby own_muJ_d6) (fun _ _ => ⟨rfl, e0, (by decide : 0 + 0 ≤ _), (by decide : 0 + 0 ≤ _)⟩)
  dsimp only [Pt.U, Pt.locs, Pt.cells, Pt.slots] at X1 l1 y1 z1 st1 hQ1
  obtain rfl : k1 = 0 := y1
  obtain rfl : n1 = 0 := z1
  obtain ⟨r_1, rfl, N1q, R1⟩ := hQ1
  have N1 : Fr n0 L1 := l1 ▸ Fr.app N0 N1q
  refine ownStep (fun _ k => st1 _ k) ?_
  refine ownStep (fun _ k => XS.lstore X1.here hx rfl (hb hby own_muJ_d9) rfl (l' := #[.val (.long x), .second, .val (.long yy), .second, .val (.long (x * yy)), .second, .val (.long r_1), .second, .unset, .unset]) rfl k) ?_
  refine ownStep (fun _ k => XS.lloadN X1.here hx rfl (hb hby own_muJ_d11) rfl  k) ?_
  show ownGo p.tables e below (T1.setTop (mkF m 12 #[.val (.long x), .second, .val (.long yy), .second, .val (.long (x * yy)), .second, .val (.long r_1), .second, .unset, .unset] [(.long yy)])) _
  have Zs4 : n0 ≤ h0.size := Nat.le_trans Z0 KP0.1
  obtain ⟨_, _, ⟨T3, L3, k3, n3⟩, -, X3, ⟨Lc3, hQ3, l3, y3, z3⟩, st3⟩ := Jvm.LawKit.callS X1 hx (y := (⟨"java/lang/Math", "abs", "(J)J"⟩ : MethodName)) hown (mvT hZ (hw _ ow270)) (mvT hZ (hw _ ow271)) (mvT hZ (hw _ ow199)) (mvT hZ (hw _ ow272)) (by decide) (backOf (W := 0) (own_abs l Z a0 hw [] yy h0 n0 Zs4 ) hZ (hw _ ow272) (hw _ ow199) (by decide) (by decide)) (g := (mkF m 12 #[.val (.long x), .second, .val (.long yy), .second, .val (.long (x * yy)), .second, .val (.long r_1), .second, .unset, .unset] [(.long yy)])) rfl (by rw [hml]; rfl) (argsL := [(.long yy)]) (rest := []) (lenOf own_muJ_pd0 rfl) rfl (by show 2 * 0 + _ ≤ _; exact Nat.le_of_eq rfl) (hb hby own_muJ_d12) (fun _ _ => ⟨rfl, R1, (by decide : 0 + 0 ≤ _), (by decide : 0 + 0 ≤ _)⟩)
  dsimp only [Pt.U, Pt.locs, Pt.cells, Pt.slots] at X3 l3 y3 z3 st3 hQ3
  obtain rfl : k3 = 0 := y3
  obtain rfl : n3 = 0 := z3
  obtain ⟨r_3, rfl, N3q, R3⟩ := hQ3
  have N3 : Fr n0 L3 := l3 ▸ Fr.app N1 N3q
  refine ownStep (fun _ k => st3 _ k) ?_
  refine ownStep (fun _ k => XS.lstore X3.here hx rfl (hb hby own_muJ_d15) rfl (l' := #[.val (.long x), .second, .val (.long yy), .second, .val (.long (x * yy)), .second, .val (.long r_1), .second, .val (.long r_3), .second]) rfl k) ?_
  refine ownStep (fun _ k => XS.lload X3.here hx rfl (hb hby own_muJ_d17) rfl  k) ?_
  refine ownStep (fun _ k => XS.lload X3.here hx rfl (hb hby own_muJ_d19) rfl  k) ?_
  refine ownStep (fun _ k => XS.lor X3.here hx rfl (hb hby own_muJ_d21) rfl k) ?_
  refine ownStep (fun _ k => XS.bipush X3.here hx rfl (hb hby own_muJ_d22) k) ?_
  refine ownStep (fun _ k => XS.lushr X3.here hx rfl (hb hby own_muJ_d24) rfl k) ?_
  refine ownStep (fun _ k => XS.lconst X3.here hx rfl (hb hby own_muJ_d25) k) ?_
  refine ownStep (fun _ k => XS.lcmp X3.here hx rfl (hb hby own_muJ_d26) rfl k) ?_
  show ownGo p.tables e below (T3.setTop (mkF m 27 #[.val (.long x), .second, .val (.long yy), .second, .val (.long (x * yy)), .second, .val (.long r_1), .second, .val (.long r_3), .second] [(.int (lcmpW (((r_1 ||| r_3).toUInt64 >>> ((31 : Int32) &&& 0x3f).toInt64.toUInt64).toInt64) (0 : Int64)))])) _
  by_cases hc27 : (lcmpW (((r_1 ||| r_3).toUInt64 >>> ((31 : Int32) &&& 0x3f).toInt64.toUInt64).toInt64) (0 : Int64)) = (0 : Int32)
  · skip
    refine ownStep (fun _ k => XS.ifYes X3.here hx rfl (pc0 := 27) (pc' := 71) rfl (hb hby own_muJ_d27) rfl ((if0 _ _).trans (teq (hc27 : (lcmpW (((r_1 ||| r_3).toUInt64 >>> ((31 : Int32) &&& 0x3f).toInt64.toUInt64).toInt64) (0 : Int64)) = (0 : Int32))).1) (by decide) (by decide) k) ?_
    refine ownStep (fun _ k => XS.lload X3.here hx rfl (hb hby own_muJ_d71) rfl  k) ?_
    show ownGo p.tables e below (T3.setTop (mkF m 73 #[.val (.long x), .second, .val (.long yy), .second, .val (.long (x * yy)), .second, .val (.long r_1), .second, .val (.long r_3), .second] [(.long (x * yy))])) _
    exact ownRet X3 (v := some (.long (x * yy))) Bd.notSynchronized (fun h => by rw [Bd.returns] at h; cases h) (fun _ hr => retOut X3 hx (t := .long) Bd.returns rfl (Or.inr (Or.inl ⟨rfl, rfl, _, rfl⟩)) (hb hby own_muJ_d73) hr) (by rw [R3]; exact ⟨rfl, N3, rfl⟩) (by decide) (by decide)
  · skip
    refine ownStep (fun _ k => XS.ifNo X3.here hx rfl (hb hby own_muJ_d27) rfl ((if0 _ _).trans (feq (hc27 : ¬ (lcmpW (((r_1 ||| r_3).toUInt64 >>> ((31 : Int32) &&& 0x3f).toInt64.toUInt64).toInt64) (0 : Int64)) = (0 : Int32))).1) k) ?_
    refine ownStep (fun _ k => XS.lloadN X3.here hx rfl (hb hby own_muJ_d30) rfl  k) ?_
    refine ownStep (fun _ k => XS.lconst X3.here hx rfl (hb hby own_muJ_d31) k) ?_
    refine ownStep (fun _ k => XS.lcmp X3.here hx rfl (hb hby own_muJ_d32) rfl k) ?_
    refine ownStep (fun _ k => XS.ifNo X3.here hx rfl (hb hby own_muJ_d33) rfl ((if0 _ _).trans (feq (own_mz hy : ¬ (lcmpW yy (0 : Int64)) = (0 : Int32))).1) k) ?_
    refine ownStep (fun _ k => XS.lload X3.here hx rfl (hb hby own_muJ_d36) rfl  k) ?_
    refine ownStep (fun _ k => XS.lloadN X3.here hx rfl (hb hby own_muJ_d38) rfl  k) ?_
    refine ownStep (fun _ k => XS.ldiv X3.here hx rfl (hb hby own_muJ_d39) rfl (own_y0 hy) k) ?_
    refine ownStep (fun _ k => XS.lloadN X3.here hx rfl (hb hby own_muJ_d40) rfl  k) ?_
    show ownGo p.tables e below (T3.setTop (mkF m 41 #[.val (.long x), .second, .val (.long yy), .second, .val (.long (x * yy)), .second, .val (.long r_1), .second, .val (.long r_3), .second] [(.long x), (.long ((x * yy) / yy))])) _
    refine ownStep (fun _ k => XS.lcmp X3.here hx rfl (hb hby own_muJ_d41) rfl k) ?_
    refine ownStep (fun _ k => XS.ifNo X3.here hx rfl (hb hby own_muJ_d42) rfl ((if0 _ _).trans (teq (own_md hy hov : (lcmpW ((x * yy) / yy) x) = (0 : Int32))).2) k) ?_
    refine ownStep (fun _ k => XS.lloadN X3.here hx rfl (hb hby own_muJ_d45) rfl  k) ?_
    show ownGo p.tables e below (T3.setTop (mkF m 46 #[.val (.long x), .second, .val (.long yy), .second, .val (.long (x * yy)), .second, .val (.long r_1), .second, .val (.long r_3), .second] [(.long x)])) _
    refine ownStep (X3.ldc2Long hx hown (mvT hZ (hw _ ow380)) (g := (mkF m 46 #[.val (.long x), .second, .val (.long yy), .second, .val (.long (x * yy)), .second, .val (.long r_1), .second, .val (.long r_3), .second] [(.long x)])) rfl (hb hby own_muJ_d46)) ?_
    refine ownStep (fun _ k => XS.lcmp X3.here hx rfl (hb hby own_muJ_d49) rfl k) ?_
    refine ownStep (fun _ k => XS.ifYes X3.here hx rfl (pc0 := 50) (pc' := 71) rfl (hb hby own_muJ_d50) rfl ((if0 _ _).trans (feq (own_mn hov : ¬ (lcmpW x (-9223372036854775808 : Int64)) = (0 : Int32))).2) (by decide) (by decide) k) ?_
    refine ownStep (fun _ k => XS.lload X3.here hx rfl (hb hby own_muJ_d71) rfl  k) ?_
    show ownGo p.tables e below (T3.setTop (mkF m 73 #[.val (.long x), .second, .val (.long yy), .second, .val (.long (x * yy)), .second, .val (.long r_1), .second, .val (.long r_3), .second] [(.long (x * yy))])) _
    exact ownRet X3 (v := some (.long (x * yy))) Bd.notSynchronized (fun h => by rw [Bd.returns] at h; cases h) (fun _ hr => retOut X3 hx (t := .long) Bd.returns rfl (Or.inr (Or.inl ⟨rfl, rfl, _, rfl⟩)) (hb hby own_muJ_d73) hr) (by rw [R3]; exact ⟨rfl, N3, rfl⟩) (by decide) (by decide)
theorem own_muI_d0 : decode jdk_29_method_29_code 0 = .ok (.lload_n 0, 1) := by decide +kernel
theorem own_muI_d1 : decode jdk_29_method_29_code 1 = .ok (.iload_n 2, 1) := by decide +kernel
theorem own_muI_d2 : decode jdk_29_method_29_code 2 = .ok (.i2l, 1) := by decide +kernel
theorem own_muI_d3 : decode jdk_29_method_29_code 3 = .ok (.invokestatic 118, 3) := by decide +kernel
theorem own_muI_d6 : decode jdk_29_method_29_code 6 = .ok (.lreturn, 1) := by decide +kernel
theorem own_muI_pd0 : parseMethodDescriptor "(JJ)J" = some ⟨[.long, .long], some .long⟩ := by decide +kernel
theorem own_muI_ef (m : MethodId) (x0 : Int64) (x1 : Int32) : entryFrame m #[(.long x0), (.int x1)] 3 = mkF m 0 #[.val (.long x0), .second, .val (.int x1)] [] := by first | (simp [entryFrame, mkF, argsToLocals, Value.category]; done) | rfl
def own_muI_Q (Z : State) (x : Int64) (h0 : Heap) (n0 : Nat) (vv_ : Option Value) (hh_ : Heap) (LL_ : List Loc) : Prop := ∃ r : Int64, vv_ = some (.long r) ∧ Fr n0 LL_ ∧ hh_ = h0 ∧ (r.toInt = x.toInt * 1000)
set_option maxRecDepth 65536 in
set_option maxHeartbeats 40000000 in
theorem own_muI (l : Launch) (Z : State) (a0 : Array Value) (hw : ∀ d ∈ tables_1, d.before a0 Z = true) (ws : List Jvm.Cond) (x : Int64) (h0 : Heap) (n0 : Nat) (Z0 : n0 ≤ h0.size) (hov : own_ov x) :
    MetFree l (⟨"java/lang/Math", "multiplyExact", "(JI)J"⟩ : MethodName) (head1 (Jvm.Cond.code (⟨"java/lang/Math", "multiplyExact", "(JI)J"⟩ : MethodName) jdk_29_method_29_code 3 (some .long) :: ws) ({ frames := 2, cells := 0, slots := 0, locals := 34 } : Room)) (fun aa_ UU_ => aa_ = #[(.long x), (.int (1000 : Int32))] ∧ Z.Warmed39 UU_.vm ∧ UU_.heap = h0) (fun _ _ _ _ _ => True) (fun _ UU_ oo_ UV_ => ∃ vv_ LL_, oo_ = .returned vv_ ∧ own_muI_Q Z x h0 n0 vv_ UV_.heap LL_ ∧ FrameEnd UU_ oo_ UV_ LL_ ({ frames := 2, cells := 0, slots := 0, locals := 34 } : Room).cells ({ frames := 2, cells := 0, slots := 0, locals := 34 } : Room).slots) := by
  refine MetFree.of_bodySF (Jvm.Free.JP.mathPlain rfl (by decide +kernel)) hisR ?_
  intro p e s m args below meth c s₁ Bd hml0 hP hK
  obtain ⟨rfl, hZ, hh⟩ := hP
  have hx := Bd.exec
  have hby := Bd.bytes
  have hml : c.maxLocals = 3 := hml0
  have hown : s.vm.findClass "java/lang/Math" = some m.cls := findClass_of_methodNamed Bd.named
  have hnm := (name_of_methodNamed Bd.named Bd.method).1
  have X0 : Stand p l e ({ frames := 2, cells := 0, slots := 0, locals := 34 } : Room) s m #[(.long x), (.int (1000 : Int32))] below meth c s₁ [] 0 0 := Stand.of_body Bd
  have e0 : s₁.heap = h0 := by rw [← hh, Bd.state]; rfl
  have N0 := Fr.nil n0
  have KP0 : Keep h0 h0 [] := Keep.refl _ _
  refine ownFin (Q := own_muI_Q Z x h0 n0) ?_
  refine ownStep (fun _ k => castTop (own_muI_ef m x (1000 : Int32)) k) ?_
  show ownGo p.tables e below (s₁.setTop (mkF m 0 #[.val (.long x), .second, .val (.int (1000 : Int32))] [])) _
  refine ownStep (fun _ k => XS.lloadN X0.here hx rfl (hb hby own_muI_d0) rfl  k) ?_
  refine ownStep (fun _ k => XS.iloadN X0.here hx rfl (hb hby own_muI_d1) rfl  k) ?_
  refine ownStep (fun _ k => XS.i2l X0.here hx rfl (hb hby own_muI_d2) rfl k) ?_
  show ownGo p.tables e below (s₁.setTop (mkF m 3 #[.val (.long x), .second, .val (.int (1000 : Int32))] [(.long ((1000 : Int32).toInt64)), (.long x)])) _
  have Zs2 : n0 ≤ h0.size := Nat.le_trans Z0 KP0.1
  obtain ⟨_, _, ⟨T1, L1, k1, n1⟩, -, X1, ⟨Lc1, hQ1, l1, y1, z1⟩, st1⟩ := Jvm.LawKit.callS X0 hx (y := (⟨"java/lang/Math", "multiplyExact", "(JJ)J"⟩ : MethodName)) hown (mvT hZ (hw _ ow267)) (mvT hZ (hw _ ow268)) (mvT hZ (hw _ ow199)) (mvT hZ (hw _ ow269)) (by decide) (backOf (W := 0) (own_muJ l Z a0 hw [] x ((1000 : Int32).toInt64) h0 n0 Zs2 (by decide) hov) hZ (hw _ ow269) (hw _ ow199) (by decide) (by decide)) (g := (mkF m 3 #[.val (.long x), .second, .val (.int (1000 : Int32))] [(.long ((1000 : Int32).toInt64)), (.long x)])) rfl (by rw [hml]; rfl) (argsL := [(.long x), (.long ((1000 : Int32).toInt64))]) (rest := []) (lenOf own_muI_pd0 rfl) rfl (by show 2 * 0 + _ ≤ _; exact Nat.le_of_eq rfl) (hb hby own_muI_d3) (fun _ _ => ⟨rfl, e0, (by decide : 0 + 0 ≤ _), (by decide : 0 + 0 ≤ _)⟩)
  dsimp only [Pt.U, Pt.locs, Pt.cells, Pt.slots] at X1 l1 y1 z1 st1 hQ1
  obtain rfl : k1 = 0 := y1
  obtain rfl : n1 = 0 := z1
  obtain ⟨rfl, N1q, R1⟩ := hQ1
  have N1 : Fr n0 L1 := l1 ▸ Fr.app N0 N1q
  refine ownStep (fun _ k => st1 _ k) ?_
  show ownGo p.tables e below (T1.setTop (mkF m 6 #[.val (.long x), .second, .val (.int (1000 : Int32))] [(.long (x * ((1000 : Int32).toInt64)))])) _
  exact ownRet X1 (v := some (.long (x * ((1000 : Int32).toInt64)))) Bd.notSynchronized (fun h => by rw [Bd.returns] at h; cases h) (fun _ hr => retOut X1 hx (t := .long) Bd.returns rfl (Or.inr (Or.inl ⟨rfl, rfl, _, rfl⟩)) (hb hby own_muI_d6) hr) (by rw [R1]; exact ⟨(x * ((1000 : Int32).toInt64)), rfl, N1, rfl, (own_mv (by decide) hov)⟩) (by decide) (by decide)
theorem own_adJ_d0 : decode jdk_29_method_25_code 0 = .ok (.lload_n 0, 1) := by decide +kernel
theorem own_adJ_d1 : decode jdk_29_method_25_code 1 = .ok (.lload_n 2, 1) := by decide +kernel
theorem own_adJ_d2 : decode jdk_29_method_25_code 2 = .ok (.ladd, 1) := by decide +kernel
theorem own_adJ_d3 : decode jdk_29_method_25_code 3 = .ok (.lstore 4, 2) := by decide +kernel
theorem own_adJ_d5 : decode jdk_29_method_25_code 5 = .ok (.lload_n 0, 1) := by decide +kernel
theorem own_adJ_d6 : decode jdk_29_method_25_code 6 = .ok (.lload 4, 2) := by decide +kernel
theorem own_adJ_d8 : decode jdk_29_method_25_code 8 = .ok (.lxor, 1) := by decide +kernel
theorem own_adJ_d9 : decode jdk_29_method_25_code 9 = .ok (.lload_n 2, 1) := by decide +kernel
theorem own_adJ_d10 : decode jdk_29_method_25_code 10 = .ok (.lload 4, 2) := by decide +kernel
theorem own_adJ_d12 : decode jdk_29_method_25_code 12 = .ok (.lxor, 1) := by decide +kernel
theorem own_adJ_d13 : decode jdk_29_method_25_code 13 = .ok (.land, 1) := by decide +kernel
theorem own_adJ_d14 : decode jdk_29_method_25_code 14 = .ok (.lconst 0, 1) := by decide +kernel
theorem own_adJ_d15 : decode jdk_29_method_25_code 15 = .ok (.lcmp, 1) := by decide +kernel
theorem own_adJ_d16 : decode jdk_29_method_25_code 16 = .ok (.ifCond .ge 13, 3) := by decide +kernel
theorem own_adJ_d29 : decode jdk_29_method_25_code 29 = .ok (.lload 4, 2) := by decide +kernel
theorem own_adJ_d31 : decode jdk_29_method_25_code 31 = .ok (.lreturn, 1) := by decide +kernel
theorem own_adJ_ef (m : MethodId) (x0 : Int64) (x1 : Int64) : entryFrame m #[(.long x0), (.long x1)] 6 = mkF m 0 #[.val (.long x0), .second, .val (.long x1), .second, .unset, .unset] [] := by first | (simp [entryFrame, mkF, argsToLocals, Value.category]; done) | rfl
def own_adJ_Q (Z : State) (x : Int64) (y : Int64) (h0 : Heap) (n0 : Nat) (vv_ : Option Value) (hh_ : Heap) (LL_ : List Loc) : Prop := vv_ = some (.long (x + y)) ∧ Fr n0 LL_ ∧ hh_ = h0
set_option maxRecDepth 65536 in
set_option maxHeartbeats 40000000 in
theorem own_adJ (l : Launch) (Z : State) (a0 : Array Value) (hw : ∀ d ∈ tables_1, d.before a0 Z = true) (ws : List Jvm.Cond) (x : Int64) (y : Int64) (h0 : Heap) (n0 : Nat) (Z0 : n0 ≤ h0.size) (hov : -9223372036854775808 ≤ x.toInt + y.toInt ∧ x.toInt + y.toInt < 9223372036854775808) :
    MetFree l (⟨"java/lang/Math", "addExact", "(JJ)J"⟩ : MethodName) (head1 (Jvm.Cond.code (⟨"java/lang/Math", "addExact", "(JJ)J"⟩ : MethodName) jdk_29_method_25_code 6 (some .long) :: ws) ({ frames := 0, cells := 0, slots := 0, locals := 0 } : Room)) (fun aa_ UU_ => aa_ = #[(.long x), (.long y)] ∧ Z.Warmed39 UU_.vm ∧ UU_.heap = h0) (fun _ _ _ _ _ => True) (fun _ UU_ oo_ UV_ => ∃ vv_ LL_, oo_ = .returned vv_ ∧ own_adJ_Q Z x y h0 n0 vv_ UV_.heap LL_ ∧ FrameEnd UU_ oo_ UV_ LL_ ({ frames := 0, cells := 0, slots := 0, locals := 0 } : Room).cells ({ frames := 0, cells := 0, slots := 0, locals := 0 } : Room).slots) := by
  refine MetFree.of_bodySF (Jvm.Free.JP.mathPlain rfl (by decide +kernel)) hisR ?_
  intro p e s m args below meth c s₁ Bd hml0 hP hK
  obtain ⟨rfl, hZ, hh⟩ := hP
  have hx := Bd.exec
  have hby := Bd.bytes
  have hml : c.maxLocals = 6 := hml0
  have hown : s.vm.findClass "java/lang/Math" = some m.cls := findClass_of_methodNamed Bd.named
  have hnm := (name_of_methodNamed Bd.named Bd.method).1
  have X0 : Stand p l e ({ frames := 0, cells := 0, slots := 0, locals := 0 } : Room) s m #[(.long x), (.long y)] below meth c s₁ [] 0 0 := Stand.of_body Bd
  have e0 : s₁.heap = h0 := by rw [← hh, Bd.state]; rfl
  have N0 := Fr.nil n0
  have KP0 : Keep h0 h0 [] := Keep.refl _ _
  refine ownFin (Q := own_adJ_Q Z x y h0 n0) ?_
  refine ownStep (fun _ k => castTop (own_adJ_ef m x y) k) ?_
  show ownGo p.tables e below (s₁.setTop (mkF m 0 #[.val (.long x), .second, .val (.long y), .second, .unset, .unset] [])) _
  refine ownStep (fun _ k => XS.lloadN X0.here hx rfl (hb hby own_adJ_d0) rfl  k) ?_
  refine ownStep (fun _ k => XS.lloadN X0.here hx rfl (hb hby own_adJ_d1) rfl  k) ?_
  refine ownStep (fun _ k => XS.ladd X0.here hx rfl (hb hby own_adJ_d2) rfl k) ?_
  refine ownStep (fun _ k => XS.lstore X0.here hx rfl (hb hby own_adJ_d3) rfl (l' := #[.val (.long x), .second, .val (.long y), .second, .val (.long (x + y)), .second]) rfl k) ?_
  refine ownStep (fun _ k => XS.lloadN X0.here hx rfl (hb hby own_adJ_d5) rfl  k) ?_
  refine ownStep (fun _ k => XS.lload X0.here hx rfl (hb hby own_adJ_d6) rfl  k) ?_
  refine ownStep (fun _ k => XS.lxor X0.here hx rfl (hb hby own_adJ_d8) rfl k) ?_
  refine ownStep (fun _ k => XS.lloadN X0.here hx rfl (hb hby own_adJ_d9) rfl  k) ?_
  refine ownStep (fun _ k => XS.lload X0.here hx rfl (hb hby own_adJ_d10) rfl  k) ?_
  show ownGo p.tables e below (s₁.setTop (mkF m 12 #[.val (.long x), .second, .val (.long y), .second, .val (.long (x + y)), .second] [(.long (x + y)), (.long y), (.long (x ^^^ (x + y)))])) _
  refine ownStep (fun _ k => XS.lxor X0.here hx rfl (hb hby own_adJ_d12) rfl k) ?_
  refine ownStep (fun _ k => XS.land X0.here hx rfl (hb hby own_adJ_d13) rfl k) ?_
  refine ownStep (fun _ k => XS.lconst X0.here hx rfl (hb hby own_adJ_d14) k) ?_
  refine ownStep (fun _ k => XS.lcmp X0.here hx rfl (hb hby own_adJ_d15) rfl k) ?_
  refine ownStep (fun _ k => XS.ifYes X0.here hx rfl (pc0 := 16) (pc' := 29) rfl (hb hby own_adJ_d16) rfl ((if0 _ _).trans (flt (own_ax hov : ¬ (lcmpW ((x ^^^ (x + y)) &&& (y ^^^ (x + y))) (0 : Int64)) < (0 : Int32))).2.1) (by decide) (by decide) k) ?_
  refine ownStep (fun _ k => XS.lload X0.here hx rfl (hb hby own_adJ_d29) rfl  k) ?_
  show ownGo p.tables e below (s₁.setTop (mkF m 31 #[.val (.long x), .second, .val (.long y), .second, .val (.long (x + y)), .second] [(.long (x + y))])) _
  exact ownRet X0 (v := some (.long (x + y))) Bd.notSynchronized (fun h => by rw [Bd.returns] at h; cases h) (fun _ hr => retOut X0 hx (t := .long) Bd.returns rfl (Or.inr (Or.inl ⟨rfl, rfl, _, rfl⟩)) (hb hby own_adJ_d31) hr) (by rw [e0]; exact ⟨rfl, N0, rfl⟩) (by decide) (by decide)
theorem own_ini_d0 : decode jdk_2320_method_9_code 0 = .ok (.aload_n 0, 1) := by decide +kernel
theorem own_ini_d1 : decode jdk_2320_method_9_code 1 = .ok (.invokespecial 137, 3) := by decide +kernel
theorem own_ini_d4 : decode jdk_2320_method_9_code 4 = .ok (.aload_n 0, 1) := by decide +kernel
theorem own_ini_d5 : decode jdk_2320_method_9_code 5 = .ok (.lload_n 1, 1) := by decide +kernel
theorem own_ini_d6 : decode jdk_2320_method_9_code 6 = .ok (.putfield 140, 3) := by decide +kernel
theorem own_ini_d9 : decode jdk_2320_method_9_code 9 = .ok (.aload_n 0, 1) := by decide +kernel
theorem own_ini_d10 : decode jdk_2320_method_9_code 10 = .ok (.iload_n 3, 1) := by decide +kernel
theorem own_ini_d11 : decode jdk_2320_method_9_code 11 = .ok (.putfield 144, 3) := by decide +kernel
theorem own_ini_d14 : decode jdk_2320_method_9_code 14 = .ok (.return_, 1) := by decide +kernel
theorem own_ini_pn : plainName "java/time/Instant" = true := by first | (simp [plainName, overriddenIn]; done) | decide +kernel
theorem own_ini_ef (m : MethodId) (x0 : Addr) (x1 : Int64) (x2 : Int32) : entryFrame m #[(.ref x0), (.long x1), (.int x2)] 4 = mkF m 0 #[.val (.ref x0), .val (.long x1), .second, .val (.int x2)] [] := by first | (simp [entryFrame, mkF, argsToLocals, Value.category]; done) | rfl
def own_ini_Q (Z : State) (a : Addr) (q : Int64) (r : Int32) (h0 : Heap) (n0 : Nat) (vv_ : Option Value) (hh_ : Heap) (LL_ : List Loc) : Prop := vv_ = none ∧ Fr n0 LL_ ∧ Keep h0 hh_ [a] ∧ (Fld Z hh_ a "java/time/Instant" "seconds" "J" (.long q)) ∧ (Fld Z hh_ a "java/time/Instant" "nanos" "I" (.int r))
set_option maxRecDepth 65536 in
set_option maxHeartbeats 40000000 in
theorem own_ini (l : Launch) (Z : State) (a0 : Array Value) (hw : ∀ d ∈ tables_1, d.before a0 Z = true) (ws : List Jvm.Cond) (a : Addr) (q : Int64) (r : Int32) (h0 : Heap) (n0 : Nat) (Z0 : n0 ≤ h0.size) (E : Exa Z h0 a "java/time/Instant") (g : n0 ≤ a) (Ga : Fld Z h0 a "java/time/Instant" "seconds" "J" (.long (0 : Int64))) (Gb : Fld Z h0 a "java/time/Instant" "nanos" "I" (.int (0 : Int32))) :
    MetFree l (⟨"java/time/Instant", "<init>", "(JI)V"⟩ : MethodName) (head1 (Jvm.Cond.code (⟨"java/time/Instant", "<init>", "(JI)V"⟩ : MethodName) jdk_2320_method_9_code 4 none :: ws) ({ frames := 1, cells := 0, slots := 0, locals := 12 } : Room)) (fun aa_ UU_ => aa_ = #[(.ref a), (.long q), (.int r)] ∧ Z.Warmed39 UU_.vm ∧ UU_.heap = h0) (fun _ _ _ _ _ => True) (fun _ UU_ oo_ UV_ => ∃ vv_ LL_, oo_ = .returned vv_ ∧ own_ini_Q Z a q r h0 n0 vv_ UV_.heap LL_ ∧ FrameEnd UU_ oo_ UV_ LL_ ({ frames := 1, cells := 0, slots := 0, locals := 12 } : Room).cells ({ frames := 1, cells := 0, slots := 0, locals := 12 } : Room).slots) := by
  refine MetFree.of_bodySF (plainFor_of_name own_ini_pn) hisR ?_
  intro p e s m args below meth c s₁ Bd hml0 hP hK
  obtain ⟨rfl, hZ, hh⟩ := hP
  have hx := Bd.exec
  have hby := Bd.bytes
  have hml : c.maxLocals = 4 := hml0
  have hown : s.vm.findClass "java/time/Instant" = some m.cls := findClass_of_methodNamed Bd.named
  have hnm := (name_of_methodNamed Bd.named Bd.method).1
  have X0 : Stand p l e ({ frames := 1, cells := 0, slots := 0, locals := 12 } : Room) s m #[(.ref a), (.long q), (.int r)] below meth c s₁ [] 0 0 := Stand.of_body Bd
  have e0 : s₁.heap = h0 := by rw [← hh, Bd.state]; rfl
  have N0 := Fr.nil n0
  have KP0 : Keep h0 h0 [a] := Keep.refl _ _
  refine ownFin (Q := own_ini_Q Z a q r h0 n0) ?_
  refine ownStep (fun _ k => castTop (own_ini_ef m a q r) k) ?_
  show ownGo p.tables e below (s₁.setTop (mkF m 0 #[.val (.ref a), .val (.long q), .second, .val (.int r)] [])) _
  refine ownStep (fun _ k => XS.aloadN X0.here hx rfl (hb hby own_ini_d0) rfl rfl k) ?_
  show ownGo p.tables e below (s₁.setTop (mkF m 1 #[.val (.ref a), .val (.long q), .second, .val (.int r)] [(.ref a)])) _
  obtain ⟨T1, X1, e1, st1⟩ := initO X0 hx hZ hown (hw _ ow222) (hw _ ow20) (hw _ ow21) e0 (g := (mkF m 1 #[.val (.ref a), .val (.long q), .second, .val (.int r)] [(.ref a)])) rfl (by rw [hml]; rfl) rfl (hb hby own_ini_d1) (by decide) (W := 0) (by show 2 * 0 + _ ≤ _; exact Nat.le_of_eq rfl) (by decide)
  refine ownStep st1 ?_
  refine ownStep (fun _ k => XS.aloadN X1.here hx rfl (hb hby own_ini_d4) rfl rfl k) ?_
  refine ownStep (fun _ k => XS.lloadN X1.here hx rfl (hb hby own_ini_d5) rfl  k) ?_
  show ownGo p.tables e below (T1.setTop (mkF m 6 #[.val (.ref a), .val (.long q), .second, .val (.int r)] [(.long q), (.ref a)])) _
  obtain ⟨T2, h2, X2, e2, W2, st2⟩ := putF X1 hx hZ hown (host := "") (Or.inl (hw _ ow223)) Via.refl e1 Ga E (Or.inr ⟨(hw _ ow224), rfl, hnm⟩) (hw _ ow217) (ty := .long) (by decide) rfl rfl (g := (mkF m 6 #[.val (.ref a), .val (.long q), .second, .val (.int r)] [(.long q), (.ref a)])) rfl rfl (hb hby own_ini_d6)
  have N3 := Fr.snoc X2 N0 g
  have KP4 : Keep h0 h2 [a] := KP0.wr W2 (Or.inl (List.mem_of_getElem? (i := 0) rfl))
  have F5 : Fld Z h2 a "java/time/Instant" "seconds" "J" (.long q) := Ga.same W2
  refine ownStep st2 ?_
  refine ownStep (fun _ k => XS.aloadN X2.here hx rfl (hb hby own_ini_d9) rfl rfl k) ?_
  refine ownStep (fun _ k => XS.iloadN X2.here hx rfl (hb hby own_ini_d10) rfl  k) ?_
  show ownGo p.tables e below (T2.setTop (mkF m 11 #[.val (.ref a), .val (.long q), .second, .val (.int r)] [(.int r), (.ref a)])) _
  have Q6 := (Gb.other W2 (.inr (ownNe (.inr (hw _ ow226)) (.inr (hw _ ow224)))))
  have Q7 := (E.wr W2)
  obtain ⟨T8, h8, X8, e8, W8, st8⟩ := putF X2 hx hZ hown (host := "") (Or.inl (hw _ ow225)) Via.refl e2 Q6 Q7 (Or.inr ⟨(hw _ ow226), rfl, hnm⟩) (hw _ ow217) (ty := .int) (by decide) rfl rfl (g := (mkF m 11 #[.val (.ref a), .val (.long q), .second, .val (.int r)] [(.int r), (.ref a)])) rfl rfl (hb hby own_ini_d11)
  have N9 := Fr.snoc X8 N3 g
  have KP10 : Keep h0 h8 [a] := KP4.wr W8 (Or.inl (List.mem_of_getElem? (i := 0) rfl))
  have F11 : Fld Z h8 a "java/time/Instant" "nanos" "I" (.int r) := Q6.same W8
  refine ownStep st8 ?_
  show ownGo p.tables e below (T8.setTop (mkF m 14 #[.val (.ref a), .val (.long q), .second, .val (.int r)] [])) _
  have Q12 := (F5.other W8 (.inr (ownNe (.inr (hw _ ow224)) (.inr (hw _ ow226)))))
  exact ownRet X8 (v := none) Bd.notSynchronized (fun _ => rfl) (fun _ hr => X8.returnOut hx Bd.returns (hb hby own_ini_d14) hr) (by rw [e8]; exact ⟨rfl, N9, KP10, Q12, F11⟩) (by decide) (by decide)
theorem own_timz {Z : State} {h : Heap} {a : Addr} {t q : Int64} {r : Int32} (F : Tim Z h a (0 : Int64)) (hz : q = (0 : Int64) ∧ r = (0 : Int32)) (hI : own_inst t q r) : Tim Z h a t := by
  have e : t = (0 : Int64) := by
    obtain ⟨rfl, rfl⟩ := hz
    have a1 := hI.1
    have a2 := hI.2
    have e0 : (0 : Int64).toInt = 0 := by decide
    have e1 : (0 : Int32).toInt = 0 := by decide
    rw [e0] at a1
    rw [e1] at a2
    exact Int64.toInt_inj.mp (by rw [e0]; omega)
  rw [e]; exact F
theorem own_cre_d0 : decode jdk_2320_method_8_code 0 = .ok (.lload_n 0, 1) := by decide +kernel
theorem own_cre_d1 : decode jdk_2320_method_8_code 1 = .ok (.iload_n 2, 1) := by decide +kernel
theorem own_cre_d2 : decode jdk_2320_method_8_code 2 = .ok (.i2l, 1) := by decide +kernel
theorem own_cre_d3 : decode jdk_2320_method_8_code 3 = .ok (.lor, 1) := by decide +kernel
theorem own_cre_d4 : decode jdk_2320_method_8_code 4 = .ok (.lconst 0, 1) := by decide +kernel
theorem own_cre_d5 : decode jdk_2320_method_8_code 5 = .ok (.lcmp, 1) := by decide +kernel
theorem own_cre_d6 : decode jdk_2320_method_8_code 6 = .ok (.ifCond .ne 7, 3) := by decide +kernel
theorem own_cre_d9 : decode jdk_2320_method_8_code 9 = .ok (.getstatic 121, 3) := by decide +kernel
theorem own_cre_d12 : decode jdk_2320_method_8_code 12 = .ok (.areturn, 1) := by decide +kernel
theorem own_cre_d13 : decode jdk_2320_method_8_code 13 = .ok (.lload_n 0, 1) := by decide +kernel
theorem own_cre_d14 : decode jdk_2320_method_8_code 14 = .ok (.ldc2_w 125, 3) := by decide +kernel
theorem own_cre_d17 : decode jdk_2320_method_8_code 17 = .ok (.lcmp, 1) := by decide +kernel
theorem own_cre_d18 : decode jdk_2320_method_8_code 18 = .ok (.ifCond .lt 11, 3) := by decide +kernel
theorem own_cre_d21 : decode jdk_2320_method_8_code 21 = .ok (.lload_n 0, 1) := by decide +kernel
theorem own_cre_d22 : decode jdk_2320_method_8_code 22 = .ok (.ldc2_w 127, 3) := by decide +kernel
theorem own_cre_d25 : decode jdk_2320_method_8_code 25 = .ok (.lcmp, 1) := by decide +kernel
theorem own_cre_d26 : decode jdk_2320_method_8_code 26 = .ok (.ifCond .le 13, 3) := by decide +kernel
theorem own_cre_d39 : decode jdk_2320_method_8_code 39 = .ok (.new 21, 3) := by decide +kernel
theorem own_cre_d42 : decode jdk_2320_method_8_code 42 = .ok (.dup, 1) := by decide +kernel
theorem own_cre_d43 : decode jdk_2320_method_8_code 43 = .ok (.lload_n 0, 1) := by decide +kernel
theorem own_cre_d44 : decode jdk_2320_method_8_code 44 = .ok (.iload_n 2, 1) := by decide +kernel
theorem own_cre_d45 : decode jdk_2320_method_8_code 45 = .ok (.invokespecial 134, 3) := by decide +kernel
theorem own_cre_d48 : decode jdk_2320_method_8_code 48 = .ok (.areturn, 1) := by decide +kernel
theorem own_cre_pn : plainName "java/time/Instant" = true := by first | (simp [plainName, overriddenIn]; done) | decide +kernel
theorem own_cre_pd0 : parseMethodDescriptor "(JI)V" = some ⟨[.long, .int], none⟩ := by decide +kernel
theorem own_cre_ef (m : MethodId) (x0 : Int64) (x1 : Int32) : entryFrame m #[(.long x0), (.int x1)] 3 = mkF m 0 #[.val (.long x0), .second, .val (.int x1)] [] := by first | (simp [entryFrame, mkF, argsToLocals, Value.category]; done) | rfl
def own_cre_Q (Z : State) (ep : Addr) (t : Int64) (q : Int64) (r : Int32) (h0 : Heap) (n0 : Nat) (vv_ : Option Value) (hh_ : Heap) (LL_ : List Loc) : Prop := ∃ o : Addr, vv_ = some (.ref o) ∧ Fr n0 LL_ ∧ Ext h0 hh_ ∧ (Tim Z hh_ o t)
set_option maxRecDepth 65536 in
set_option maxHeartbeats 40000000 in
theorem own_cre (l : Launch) (Z : State) (a0 : Array Value) (hw : ∀ d ∈ tables_1, d.before a0 Z = true) (ws : List Jvm.Cond) (ep : Addr) (t : Int64) (q : Int64) (r : Int32) (h0 : Heap) (n0 : Nat) (Z0 : n0 ≤ h0.size) (hOld : Old Z n0 h0) (Sep : Sta Z Z.heap "java/time/Instant" "EPOCH" "Ljava/time/Instant;" (.ref ep)) (Tep : Tim Z Z.heap ep (0 : Int64)) (Eep : Exa Z Z.heap ep "java/time/Instant") (hI : own_inst t q r) :
    MetFree l (⟨"java/time/Instant", "create", "(JI)Ljava/time/Instant;"⟩ : MethodName) (head1 (Jvm.Cond.code (⟨"java/time/Instant", "create", "(JI)Ljava/time/Instant;"⟩ : MethodName) jdk_2320_method_8_code 3 (some (.object "java/time/Instant")) :: ws) ({ frames := 2, cells := 1, slots := 2, locals := 28 } : Room)) (fun aa_ UU_ => aa_ = #[(.long q), (.int r)] ∧ Z.Warmed39 UU_.vm ∧ UU_.heap = h0) (fun _ _ _ _ _ => True) (fun _ UU_ oo_ UV_ => ∃ vv_ LL_, oo_ = .returned vv_ ∧ own_cre_Q Z ep t q r h0 n0 vv_ UV_.heap LL_ ∧ FrameEnd UU_ oo_ UV_ LL_ ({ frames := 2, cells := 1, slots := 2, locals := 28 } : Room).cells ({ frames := 2, cells := 1, slots := 2, locals := 28 } : Room).slots) := by
  refine MetFree.of_bodySF (plainFor_of_name own_cre_pn) hisR ?_
  intro p e s m args below meth c s₁ Bd hml0 hP hK
  obtain ⟨rfl, hZ, hh⟩ := hP
  have hx := Bd.exec
  have hby := Bd.bytes
  have hml : c.maxLocals = 3 := hml0
  have hown : s.vm.findClass "java/time/Instant" = some m.cls := findClass_of_methodNamed Bd.named
  have hnm := (name_of_methodNamed Bd.named Bd.method).1
  have X0 : Stand p l e ({ frames := 2, cells := 1, slots := 2, locals := 28 } : Room) s m #[(.long q), (.int r)] below meth c s₁ [] 0 0 := Stand.of_body Bd
  have e0 : s₁.heap = h0 := by rw [← hh, Bd.state]; rfl
  have N0 := Fr.nil n0
  have KP0 : Keep h0 h0 [] := Keep.refl _ _
  refine ownFin (Q := own_cre_Q Z ep t q r h0 n0) ?_
  refine ownStep (fun _ k => castTop (own_cre_ef m q r) k) ?_
  show ownGo p.tables e below (s₁.setTop (mkF m 0 #[.val (.long q), .second, .val (.int r)] [])) _
  refine ownStep (fun _ k => XS.lloadN X0.here hx rfl (hb hby own_cre_d0) rfl  k) ?_
  refine ownStep (fun _ k => XS.iloadN X0.here hx rfl (hb hby own_cre_d1) rfl  k) ?_
  refine ownStep (fun _ k => XS.i2l X0.here hx rfl (hb hby own_cre_d2) rfl k) ?_
  refine ownStep (fun _ k => XS.lor X0.here hx rfl (hb hby own_cre_d3) rfl k) ?_
  refine ownStep (fun _ k => XS.lconst X0.here hx rfl (hb hby own_cre_d4) k) ?_
  refine ownStep (fun _ k => XS.lcmp X0.here hx rfl (hb hby own_cre_d5) rfl k) ?_
  show ownGo p.tables e below (s₁.setTop (mkF m 6 #[.val (.long q), .second, .val (.int r)] [(.int (lcmpW (q ||| (r.toInt64)) (0 : Int64)))])) _
  by_cases hc6 : (lcmpW (q ||| (r.toInt64)) (0 : Int64)) = (0 : Int32)
  · skip
    refine ownStep (fun _ k => XS.ifNo X0.here hx rfl (hb hby own_cre_d6) rfl ((if0 _ _).trans (teq (hc6 : (lcmpW (q ||| (r.toInt64)) (0 : Int64)) = (0 : Int32))).2) k) ?_
    show ownGo p.tables e below (s₁.setTop (mkF m 9 #[.val (.long q), .second, .val (.int r)] [])) _
    have Q1 := Sep.ext hOld.2
    obtain ⟨T2, X2, e2, st2⟩ := getS2 X0 hx hZ hown (host := "") (Or.inl (hw _ ow386)) Via.refl e0 Q1 (g := (mkF m 9 #[.val (.long q), .second, .val (.int r)] [])) rfl (hb hby own_cre_d9)
    refine ownStep st2 ?_
    show ownGo p.tables e below (T2.setTop (mkF m 12 #[.val (.long q), .second, .val (.int r)] [(.ref ep)])) _
    have hz := own_or0 hc6
    have Te := Tep.ext hOld.2
    exact ownRet X2 (v := some (.ref ep)) Bd.notSynchronized (fun h => by rw [Bd.returns] at h; cases h) (fun _ hr => retOut X2 hx (t := (.object "java/time/Instant")) Bd.returns rfl (Or.inr (Or.inr (Or.inr (Or.inr ⟨rfl, rfl, rfl⟩)))) (hb hby own_cre_d12) hr) (by rw [e2]; exact ⟨ep, rfl, N0, (own_extOf KP0), (own_timz Te hz hI)⟩) (by decide) (by decide)
  · skip
    refine ownStep (fun _ k => XS.ifYes X0.here hx rfl (pc0 := 6) (pc' := 13) rfl (hb hby own_cre_d6) rfl ((if0 _ _).trans (feq (hc6 : ¬ (lcmpW (q ||| (r.toInt64)) (0 : Int64)) = (0 : Int32))).2) (by decide) (by decide) k) ?_
    refine ownStep (fun _ k => XS.lloadN X0.here hx rfl (hb hby own_cre_d13) rfl  k) ?_
    show ownGo p.tables e below (s₁.setTop (mkF m 14 #[.val (.long q), .second, .val (.int r)] [(.long q)])) _
    refine ownStep (X0.ldc2Long hx hown (mvT hZ (hw _ ow214)) (g := (mkF m 14 #[.val (.long q), .second, .val (.int r)] [(.long q)])) rfl (hb hby own_cre_d14)) ?_
    refine ownStep (fun _ k => XS.lcmp X0.here hx rfl (hb hby own_cre_d17) rfl k) ?_
    refine ownStep (fun _ k => XS.ifNo X0.here hx rfl (hb hby own_cre_d18) rfl ((if0 _ _).trans (flt (own_lo hI : ¬ (lcmpW q (-31557014167219200 : Int64)) < (0 : Int32))).1) k) ?_
    refine ownStep (fun _ k => XS.lloadN X0.here hx rfl (hb hby own_cre_d21) rfl  k) ?_
    show ownGo p.tables e below (s₁.setTop (mkF m 22 #[.val (.long q), .second, .val (.int r)] [(.long q)])) _
    refine ownStep (X0.ldc2Long hx hown (mvT hZ (hw _ ow215)) (g := (mkF m 22 #[.val (.long q), .second, .val (.int r)] [(.long q)])) rfl (hb hby own_cre_d22)) ?_
    refine ownStep (fun _ k => XS.lcmp X0.here hx rfl (hb hby own_cre_d25) rfl k) ?_
    refine ownStep (fun _ k => XS.ifYes X0.here hx rfl (pc0 := 26) (pc' := 39) rfl (hb hby own_cre_d26) rfl ((if0 _ _).trans (flt (own_hi hI : ¬ (0 : Int32) < (lcmpW q (31556889864403199 : Int64)))).2.2.2) (by decide) (by decide) k) ?_
    show ownGo p.tables e below (s₁.setTop (mkF m 39 #[.val (.long q), .second, .val (.int r)] [])) _
    obtain ⟨T3, h3, X3, e3, E3, A3, D3, U3, st3⟩ := newO X0 hx hZ hown (hw _ ow216) (hw _ ow217) (hw _ ow62) e0 (g := (mkF m 39 #[.val (.long q), .second, .val (.int r)] [])) rfl (hb hby own_cre_d39) (by decide) (by decide)
    obtain ⟨b3, g3⟩ : ∃ z, z = h0.size := ⟨_, rfl⟩
    rw [← g3] at A3 D3 U3 st3
    have gh_b3 : h0.size ≤ b3 := Nat.le_trans KP0.1 (Nat.le_of_eq g3.symm)
    have gn_b3 : n0 ≤ b3 := Nat.le_trans Z0 gh_b3
    have KP4 : Keep h0 h3 [] := KP0.ext E3
    have F5 : Fld Z h3 b3 "java/time/Instant" "seconds" "J" (.long (0 : Int64)) := D3 (Or.inr (hw _ ow224)) (ty := .long) (by decide)
    have F6 : Fld Z h3 b3 "java/time/Instant" "nanos" "I" (.int (0 : Int32)) := D3 (Or.inr (hw _ ow226)) (ty := .int) (by decide)
    refine ownStep st3 ?_
    refine ownStep (fun _ k => XS.dup X3.here hx rfl (hb hby own_cre_d42) rfl rfl k) ?_
    refine ownStep (fun _ k => XS.lloadN X3.here hx rfl (hb hby own_cre_d43) rfl  k) ?_
    refine ownStep (fun _ k => XS.iloadN X3.here hx rfl (hb hby own_cre_d44) rfl  k) ?_
    show ownGo p.tables e below (T3.setTop (mkF m 45 #[.val (.long q), .second, .val (.int r)] [(.int r), (.long q), (.ref b3), (.ref b3)])) _
    have Zs8 : n0 ≤ h3.size := Nat.le_trans Z0 KP4.1
    obtain ⟨_, _, ⟨T7, L7, k7, n7⟩, -, X7, ⟨Lc7, hQ7, l7, y7, z7⟩, st7⟩ := X3.specialBack hx (y := (⟨"java/time/Instant", "<init>", "(JI)V"⟩ : MethodName)) rfl hown (mvT hZ (hw _ ow218)) (mvT hZ (hw _ ow219)) (mvT hZ (hw _ ow221)) (by decide) (backOf (W := 1) (own_ini l Z a0 hw [] b3 q r h3 n0 Zs8 A3 gn_b3 F5 F6) hZ (hw _ ow221) (hw _ ow62) (by decide) (by decide)) (g := (mkF m 45 #[.val (.long q), .second, .val (.int r)] [(.int r), (.long q), (.ref b3), (.ref b3)])) rfl (by rw [hml]; rfl) (Steps.refl _) (a := b3) (argsL := [(.long q), (.int r)]) (rest := [(.ref b3)]) (lenOf own_cre_pd0 rfl) rfl (by show 2 * 0 + _ ≤ _; exact Nat.le_of_eq rfl) (hb hby own_cre_d45) (fun _ _ => ⟨rfl, e3, (by decide : 1 + 0 ≤ _), (by decide : 2 + 0 ≤ _)⟩)
    dsimp only [Pt.U, Pt.locs, Pt.cells, Pt.slots] at X7 l7 y7 z7 st7 hQ7
    obtain rfl : k7 = 1 := y7
    obtain rfl : n7 = 2 := z7
    obtain ⟨rfl, N7q, R7, P9, P10⟩ := hQ7
    have N7 : Fr n0 L7 := l7 ▸ Fr.app N0 N7q
    refine ownStep (fun _ k => st7.trans k) ?_
    have KP11 : Keep h0 T7.heap [] := KP4.trans R7 (allS (Or.inr gh_b3) all0)
    show ownGo p.tables e below (T7.setTop (mkF m 48 #[.val (.long q), .second, .val (.int r)] [(.ref b3)])) _
    have Q12 := (A3.keep R7)
    exact ownRet X7 (v := some (.ref b3)) Bd.notSynchronized (fun h => by rw [Bd.returns] at h; cases h) (fun _ hr => retOut X7 hx (t := (.object "java/time/Instant")) Bd.returns rfl (Or.inr (Or.inr (Or.inr (Or.inr ⟨rfl, rfl, rfl⟩)))) (hb hby own_cre_d48) hr) (⟨b3, rfl, N7, (own_extOf KP11), ⟨Q12, q, r, P9, P10, hI⟩⟩) (by decide) (by decide)
theorem own_ofe_d0 : decode jdk_2320_method_5_code 0 = .ok (.lload_n 0, 1) := by decide +kernel
theorem own_ofe_d1 : decode jdk_2320_method_5_code 1 = .ok (.sipush 1000, 3) := by decide +kernel
theorem own_ofe_d4 : decode jdk_2320_method_5_code 4 = .ok (.invokestatic 40, 3) := by decide +kernel
theorem own_ofe_d7 : decode jdk_2320_method_5_code 7 = .ok (.lstore_n 2, 1) := by decide +kernel
theorem own_ofe_d8 : decode jdk_2320_method_5_code 8 = .ok (.lload_n 0, 1) := by decide +kernel
theorem own_ofe_d9 : decode jdk_2320_method_5_code 9 = .ok (.sipush 1000, 3) := by decide +kernel
theorem own_ofe_d12 : decode jdk_2320_method_5_code 12 = .ok (.invokestatic 43, 3) := by decide +kernel
theorem own_ofe_d15 : decode jdk_2320_method_5_code 15 = .ok (.istore 4, 2) := by decide +kernel
theorem own_ofe_d17 : decode jdk_2320_method_5_code 17 = .ok (.lload_n 2, 1) := by decide +kernel
theorem own_ofe_d18 : decode jdk_2320_method_5_code 18 = .ok (.iload 4, 2) := by decide +kernel
theorem own_ofe_d20 : decode jdk_2320_method_5_code 20 = .ok (.ldc 46, 2) := by decide +kernel
theorem own_ofe_d22 : decode jdk_2320_method_5_code 22 = .ok (.imul, 1) := by decide +kernel
theorem own_ofe_d23 : decode jdk_2320_method_5_code 23 = .ok (.invokestatic 20, 3) := by decide +kernel
theorem own_ofe_d26 : decode jdk_2320_method_5_code 26 = .ok (.areturn, 1) := by decide +kernel
theorem own_ofe_pn : plainName "java/time/Instant" = true := by first | (simp [plainName, overriddenIn]; done) | decide +kernel
theorem own_ofe_pd0 : parseMethodDescriptor "(JI)J" = some ⟨[.long, .int], some .long⟩ := by decide +kernel
theorem own_ofe_pd1 : parseMethodDescriptor "(JI)I" = some ⟨[.long, .int], some .int⟩ := by decide +kernel
theorem own_ofe_pd2 : parseMethodDescriptor "(JI)Ljava/time/Instant;" = some ⟨[.long, .int], some (.object "java/time/Instant")⟩ := by decide +kernel
theorem own_ofe_ef (m : MethodId) (x0 : Int64) : entryFrame m #[(.long x0)] 5 = mkF m 0 #[.val (.long x0), .second, .unset, .unset, .unset] [] := by first | (simp [entryFrame, mkF, argsToLocals, Value.category]; done) | rfl
def own_ofe_Q (Z : State) (ep : Addr) (t : Int64) (h0 : Heap) (n0 : Nat) (vv_ : Option Value) (hh_ : Heap) (LL_ : List Loc) : Prop := ∃ o : Addr, vv_ = some (.ref o) ∧ Fr n0 LL_ ∧ Ext h0 hh_ ∧ (Tim Z hh_ o t)
set_option maxRecDepth 65536 in
set_option maxHeartbeats 40000000 in
theorem own_ofe (l : Launch) (Z : State) (a0 : Array Value) (hw : ∀ d ∈ tables_1, d.before a0 Z = true) (ws : List Jvm.Cond) (ep : Addr) (t : Int64) (h0 : Heap) (n0 : Nat) (Z0 : n0 ≤ h0.size) (hOld : Old Z n0 h0) (Sep : Sta Z Z.heap "java/time/Instant" "EPOCH" "Ljava/time/Instant;" (.ref ep)) (Tep : Tim Z Z.heap ep (0 : Int64)) (Eep : Exa Z Z.heap ep "java/time/Instant") :
    MetFree l (⟨"java/time/Instant", "ofEpochMilli", "(J)Ljava/time/Instant;"⟩ : MethodName) (head1 (Jvm.Cond.code (⟨"java/time/Instant", "ofEpochMilli", "(J)Ljava/time/Instant;"⟩ : MethodName) jdk_2320_method_5_code 5 (some (.object "java/time/Instant")) :: ws) ({ frames := 3, cells := 1, slots := 2, locals := 42 } : Room)) (fun aa_ UU_ => aa_ = #[(.long t)] ∧ Z.Warmed39 UU_.vm ∧ UU_.heap = h0) (fun _ _ _ _ _ => True) (fun _ UU_ oo_ UV_ => ∃ vv_ LL_, oo_ = .returned vv_ ∧ own_ofe_Q Z ep t h0 n0 vv_ UV_.heap LL_ ∧ FrameEnd UU_ oo_ UV_ LL_ ({ frames := 3, cells := 1, slots := 2, locals := 42 } : Room).cells ({ frames := 3, cells := 1, slots := 2, locals := 42 } : Room).slots) := by
  refine MetFree.of_bodySF (plainFor_of_name own_ofe_pn) hisR ?_
  intro p e s m args below meth c s₁ Bd hml0 hP hK
  obtain ⟨rfl, hZ, hh⟩ := hP
  have hx := Bd.exec
  have hby := Bd.bytes
  have hml : c.maxLocals = 5 := hml0
  have hown : s.vm.findClass "java/time/Instant" = some m.cls := findClass_of_methodNamed Bd.named
  have hnm := (name_of_methodNamed Bd.named Bd.method).1
  have X0 : Stand p l e ({ frames := 3, cells := 1, slots := 2, locals := 42 } : Room) s m #[(.long t)] below meth c s₁ [] 0 0 := Stand.of_body Bd
  have e0 : s₁.heap = h0 := by rw [← hh, Bd.state]; rfl
  have N0 := Fr.nil n0
  have KP0 : Keep h0 h0 [] := Keep.refl _ _
  refine ownFin (Q := own_ofe_Q Z ep t h0 n0) ?_
  refine ownStep (fun _ k => castTop (own_ofe_ef m t) k) ?_
  show ownGo p.tables e below (s₁.setTop (mkF m 0 #[.val (.long t), .second, .unset, .unset, .unset] [])) _
  refine ownStep (fun _ k => XS.lloadN X0.here hx rfl (hb hby own_ofe_d0) rfl  k) ?_
  refine ownStep (fun _ k => XS.sipush X0.here hx rfl (hb hby own_ofe_d1) k) ?_
  show ownGo p.tables e below (s₁.setTop (mkF m 4 #[.val (.long t), .second, .unset, .unset, .unset] [(.int (1000 : Int32)), (.long t)])) _
  have Zs2 : n0 ≤ h0.size := Nat.le_trans Z0 KP0.1
  obtain ⟨_, _, ⟨T1, L1, k1, n1⟩, -, X1, ⟨Lc1, hQ1, l1, y1, z1⟩, st1⟩ := Jvm.LawKit.callS X0 hx (y := (⟨"java/lang/Math", "floorDiv", "(JI)J"⟩ : MethodName)) hown (mvT hZ (hw _ ow197)) (mvT hZ (hw _ ow198)) (mvT hZ (hw _ ow199)) (mvT hZ (hw _ ow200)) (by decide) (backOf (W := 0) (own_fdI l Z a0 hw [] t h0 n0 Zs2 ) hZ (hw _ ow200) (hw _ ow199) (by decide) (by decide)) (g := (mkF m 4 #[.val (.long t), .second, .unset, .unset, .unset] [(.int (1000 : Int32)), (.long t)])) rfl (by rw [hml]; rfl) (argsL := [(.long t), (.int (1000 : Int32))]) (rest := []) (lenOf own_ofe_pd0 rfl) rfl (by show 2 * 0 + _ ≤ _; exact Nat.le_of_eq rfl) (hb hby own_ofe_d4) (fun _ _ => ⟨rfl, e0, (by decide : 0 + 0 ≤ _), (by decide : 0 + 0 ≤ _)⟩)
  dsimp only [Pt.U, Pt.locs, Pt.cells, Pt.slots] at X1 l1 y1 z1 st1 hQ1
  obtain rfl : k1 = 0 := y1
  obtain rfl : n1 = 0 := z1
  obtain ⟨qr, rfl, N1q, R1, P3⟩ := hQ1
  have N1 : Fr n0 L1 := l1 ▸ Fr.app N0 N1q
  refine ownStep (fun _ k => st1 _ k) ?_
  refine ownStep (fun _ k => XS.lstoreN X1.here hx rfl (hb hby own_ofe_d7) rfl (l' := #[.val (.long t), .second, .val (.long qr), .second, .unset]) rfl k) ?_
  refine ownStep (fun _ k => XS.lloadN X1.here hx rfl (hb hby own_ofe_d8) rfl  k) ?_
  refine ownStep (fun _ k => XS.sipush X1.here hx rfl (hb hby own_ofe_d9) k) ?_
  show ownGo p.tables e below (T1.setTop (mkF m 12 #[.val (.long t), .second, .val (.long qr), .second, .unset] [(.int (1000 : Int32)), (.long t)])) _
  have Zs5 : n0 ≤ h0.size := Nat.le_trans Z0 KP0.1
  obtain ⟨_, _, ⟨T4, L4, k4, n4⟩, -, X4, ⟨Lc4, hQ4, l4, y4, z4⟩, st4⟩ := Jvm.LawKit.callS X1 hx (y := (⟨"java/lang/Math", "floorMod", "(JI)I"⟩ : MethodName)) hown (mvT hZ (hw _ ow204)) (mvT hZ (hw _ ow205)) (mvT hZ (hw _ ow199)) (mvT hZ (hw _ ow206)) (by decide) (backOf (W := 0) (own_fmI l Z a0 hw [] t h0 n0 Zs5 ) hZ (hw _ ow206) (hw _ ow199) (by decide) (by decide)) (g := (mkF m 12 #[.val (.long t), .second, .val (.long qr), .second, .unset] [(.int (1000 : Int32)), (.long t)])) rfl (by rw [hml]; rfl) (argsL := [(.long t), (.int (1000 : Int32))]) (rest := []) (lenOf own_ofe_pd1 rfl) rfl (by show 2 * 0 + _ ≤ _; exact Nat.le_of_eq rfl) (hb hby own_ofe_d12) (fun _ _ => ⟨rfl, R1, (by decide : 0 + 0 ≤ _), (by decide : 0 + 0 ≤ _)⟩)
  dsimp only [Pt.U, Pt.locs, Pt.cells, Pt.slots] at X4 l4 y4 z4 st4 hQ4
  obtain rfl : k4 = 0 := y4
  obtain rfl : n4 = 0 := z4
  obtain ⟨mr, rfl, N4q, R4, P6⟩ := hQ4
  have N4 : Fr n0 L4 := l4 ▸ Fr.app N1 N4q
  refine ownStep (fun _ k => st4 _ k) ?_
  refine ownStep (fun _ k => XS.istore X4.here hx rfl (hb hby own_ofe_d15) rfl (l' := #[.val (.long t), .second, .val (.long qr), .second, .val (.int mr)]) rfl k) ?_
  refine ownStep (fun _ k => XS.lloadN X4.here hx rfl (hb hby own_ofe_d17) rfl  k) ?_
  refine ownStep (fun _ k => XS.iload X4.here hx rfl (hb hby own_ofe_d18) rfl  k) ?_
  show ownGo p.tables e below (T4.setTop (mkF m 20 #[.val (.long t), .second, .val (.long qr), .second, .val (.int mr)] [(.int mr), (.long qr)])) _
  refine ownStep (X4.ldcInt hx hown (mvT hZ (hw _ ow210)) (g := (mkF m 20 #[.val (.long t), .second, .val (.long qr), .second, .val (.int mr)] [(.int mr), (.long qr)])) rfl (hb hby own_ofe_d20)) ?_
  refine ownStep (fun _ k => XS.imul X4.here hx rfl (hb hby own_ofe_d22) rfl k) ?_
  show ownGo p.tables e below (T4.setTop (mkF m 23 #[.val (.long t), .second, .val (.long qr), .second, .val (.int mr)] [(.int (mr * (1000000 : Int32))), (.long qr)])) _
  have hI := own_mk (m := mr) P3 P6
  have Zs8 : n0 ≤ h0.size := Nat.le_trans Z0 KP0.1
  obtain ⟨_, _, ⟨T7, L7, k7, n7⟩, -, X7, ⟨Lc7, hQ7, l7, y7, z7⟩, st7⟩ := Jvm.LawKit.callS X4 hx (y := (⟨"java/time/Instant", "create", "(JI)Ljava/time/Instant;"⟩ : MethodName)) hown (mvT hZ (hw _ ow211)) (mvT hZ (hw _ ow212)) (mvT hZ (hw _ ow62)) (mvT hZ (hw _ ow213)) (by decide) (backOf (W := 0) (own_cre l Z a0 hw [] ep t qr (mr * (1000000 : Int32)) h0 n0 Zs8 hOld Sep Tep Eep hI) hZ (hw _ ow213) (hw _ ow62) (by decide) (by decide)) (g := (mkF m 23 #[.val (.long t), .second, .val (.long qr), .second, .val (.int mr)] [(.int (mr * (1000000 : Int32))), (.long qr)])) rfl (by rw [hml]; rfl) (argsL := [(.long qr), (.int (mr * (1000000 : Int32)))]) (rest := []) (lenOf own_ofe_pd2 rfl) rfl (by show 2 * 0 + _ ≤ _; exact Nat.le_of_eq rfl) (hb hby own_ofe_d23) (fun _ _ => ⟨rfl, R4, (by decide : 0 + 1 ≤ _), (by decide : 0 + 2 ≤ _)⟩)
  dsimp only [Pt.U, Pt.locs, Pt.cells, Pt.slots] at X7 l7 y7 z7 st7 hQ7
  obtain rfl : k7 = 1 := y7
  obtain rfl : n7 = 2 := z7
  obtain ⟨oi, rfl, N7q, R7, P9⟩ := hQ7
  have N7 : Fr n0 L7 := l7 ▸ Fr.app N4 N7q
  refine ownStep (fun _ k => st7 _ k) ?_
  have KP10 : Keep h0 T7.heap [] := KP0.ext R7
  show ownGo p.tables e below (T7.setTop (mkF m 26 #[.val (.long t), .second, .val (.long qr), .second, .val (.int mr)] [(.ref oi)])) _
  exact ownRet X7 (v := some (.ref oi)) Bd.notSynchronized (fun h => by rw [Bd.returns] at h; cases h) (fun _ hr => retOut X7 hx (t := (.object "java/time/Instant")) Bd.returns rfl (Or.inr (Or.inr (Or.inr (Or.inr ⟨rfl, rfl, rfl⟩)))) (hb hby own_ofe_d26) hr) (⟨oi, rfl, N7, (own_extOf KP10), P9⟩) (by decide) (by decide)
theorem own_tem_d0 : decode jdk_2320_method_40_code 0 = .ok (.aload_n 0, 1) := by decide +kernel
theorem own_tem_d1 : decode jdk_2320_method_40_code 1 = .ok (.getfield 140, 3) := by decide +kernel
theorem own_tem_d4 : decode jdk_2320_method_40_code 4 = .ok (.lconst 0, 1) := by decide +kernel
theorem own_tem_d5 : decode jdk_2320_method_40_code 5 = .ok (.lcmp, 1) := by decide +kernel
theorem own_tem_d6 : decode jdk_2320_method_40_code 6 = .ok (.ifCond .ge 42, 3) := by decide +kernel
theorem own_tem_d9 : decode jdk_2320_method_40_code 9 = .ok (.aload_n 0, 1) := by decide +kernel
theorem own_tem_d10 : decode jdk_2320_method_40_code 10 = .ok (.getfield 144, 3) := by decide +kernel
theorem own_tem_d13 : decode jdk_2320_method_40_code 13 = .ok (.ifCond .le 35, 3) := by decide +kernel
theorem own_tem_d16 : decode jdk_2320_method_40_code 16 = .ok (.aload_n 0, 1) := by decide +kernel
theorem own_tem_d17 : decode jdk_2320_method_40_code 17 = .ok (.getfield 140, 3) := by decide +kernel
theorem own_tem_d20 : decode jdk_2320_method_40_code 20 = .ok (.lconst 1, 1) := by decide +kernel
theorem own_tem_d21 : decode jdk_2320_method_40_code 21 = .ok (.ladd, 1) := by decide +kernel
theorem own_tem_d22 : decode jdk_2320_method_40_code 22 = .ok (.sipush 1000, 3) := by decide +kernel
theorem own_tem_d25 : decode jdk_2320_method_40_code 25 = .ok (.invokestatic 270, 3) := by decide +kernel
theorem own_tem_d28 : decode jdk_2320_method_40_code 28 = .ok (.lstore_n 1, 1) := by decide +kernel
theorem own_tem_d29 : decode jdk_2320_method_40_code 29 = .ok (.aload_n 0, 1) := by decide +kernel
theorem own_tem_d30 : decode jdk_2320_method_40_code 30 = .ok (.getfield 144, 3) := by decide +kernel
theorem own_tem_d33 : decode jdk_2320_method_40_code 33 = .ok (.ldc 46, 2) := by decide +kernel
theorem own_tem_d35 : decode jdk_2320_method_40_code 35 = .ok (.idiv, 1) := by decide +kernel
theorem own_tem_d36 : decode jdk_2320_method_40_code 36 = .ok (.sipush 1000, 3) := by decide +kernel
theorem own_tem_d39 : decode jdk_2320_method_40_code 39 = .ok (.isub, 1) := by decide +kernel
theorem own_tem_d40 : decode jdk_2320_method_40_code 40 = .ok (.i2l, 1) := by decide +kernel
theorem own_tem_d41 : decode jdk_2320_method_40_code 41 = .ok (.lstore_n 3, 1) := by decide +kernel
theorem own_tem_d42 : decode jdk_2320_method_40_code 42 = .ok (.lload_n 1, 1) := by decide +kernel
theorem own_tem_d43 : decode jdk_2320_method_40_code 43 = .ok (.lload_n 3, 1) := by decide +kernel
theorem own_tem_d44 : decode jdk_2320_method_40_code 44 = .ok (.invokestatic 34, 3) := by decide +kernel
theorem own_tem_d47 : decode jdk_2320_method_40_code 47 = .ok (.lreturn, 1) := by decide +kernel
theorem own_tem_d48 : decode jdk_2320_method_40_code 48 = .ok (.aload_n 0, 1) := by decide +kernel
theorem own_tem_d49 : decode jdk_2320_method_40_code 49 = .ok (.getfield 140, 3) := by decide +kernel
theorem own_tem_d52 : decode jdk_2320_method_40_code 52 = .ok (.sipush 1000, 3) := by decide +kernel
theorem own_tem_d55 : decode jdk_2320_method_40_code 55 = .ok (.invokestatic 270, 3) := by decide +kernel
theorem own_tem_d58 : decode jdk_2320_method_40_code 58 = .ok (.lstore_n 1, 1) := by decide +kernel
theorem own_tem_d59 : decode jdk_2320_method_40_code 59 = .ok (.lload_n 1, 1) := by decide +kernel
theorem own_tem_d60 : decode jdk_2320_method_40_code 60 = .ok (.aload_n 0, 1) := by decide +kernel
theorem own_tem_d61 : decode jdk_2320_method_40_code 61 = .ok (.getfield 144, 3) := by decide +kernel
theorem own_tem_d64 : decode jdk_2320_method_40_code 64 = .ok (.ldc 46, 2) := by decide +kernel
theorem own_tem_d66 : decode jdk_2320_method_40_code 66 = .ok (.idiv, 1) := by decide +kernel
theorem own_tem_d67 : decode jdk_2320_method_40_code 67 = .ok (.i2l, 1) := by decide +kernel
theorem own_tem_d68 : decode jdk_2320_method_40_code 68 = .ok (.invokestatic 34, 3) := by decide +kernel
theorem own_tem_d71 : decode jdk_2320_method_40_code 71 = .ok (.lreturn, 1) := by decide +kernel
theorem own_tem_pn : plainName "java/time/Instant" = true := by first | (simp [plainName, overriddenIn]; done) | decide +kernel
theorem own_tem_pd0 : parseMethodDescriptor "(JI)J" = some ⟨[.long, .int], some .long⟩ := by decide +kernel
theorem own_tem_pd1 : parseMethodDescriptor "(JJ)J" = some ⟨[.long, .long], some .long⟩ := by decide +kernel
theorem own_tem_ef (m : MethodId) (x0 : Addr) : entryFrame m #[(.ref x0)] 5 = mkF m 0 #[.val (.ref x0), .unset, .unset, .unset, .unset] [] := by first | (simp [entryFrame, mkF, argsToLocals, Value.category]; done) | rfl
def own_tem_Q (Z : State) (a : Addr) (t : Int64) (h0 : Heap) (n0 : Nat) (vv_ : Option Value) (hh_ : Heap) (LL_ : List Loc) : Prop := vv_ = some (.long t) ∧ Fr n0 LL_ ∧ hh_ = h0
set_option maxRecDepth 65536 in
set_option maxHeartbeats 40000000 in
theorem own_tem (l : Launch) (Z : State) (a0 : Array Value) (hw : ∀ d ∈ tables_1, d.before a0 Z = true) (ws : List Jvm.Cond) (a : Addr) (t : Int64) (h0 : Heap) (n0 : Nat) (Z0 : n0 ≤ h0.size) (hT : Tim Z h0 a t) :
    MetFree l (⟨"java/time/Instant", "toEpochMilli", "()J"⟩ : MethodName) (head1 (Jvm.Cond.code (⟨"java/time/Instant", "toEpochMilli", "()J"⟩ : MethodName) jdk_2320_method_40_code 5 (some .long) :: ws) ({ frames := 3, cells := 0, slots := 0, locals := 48 } : Room)) (fun aa_ UU_ => aa_ = #[(.ref a)] ∧ Z.Warmed39 UU_.vm ∧ UU_.heap = h0) (fun _ _ _ _ _ => True) (fun _ UU_ oo_ UV_ => ∃ vv_ LL_, oo_ = .returned vv_ ∧ own_tem_Q Z a t h0 n0 vv_ UV_.heap LL_ ∧ FrameEnd UU_ oo_ UV_ LL_ ({ frames := 3, cells := 0, slots := 0, locals := 48 } : Room).cells ({ frames := 3, cells := 0, slots := 0, locals := 48 } : Room).slots) := by
  refine MetFree.of_bodySF (plainFor_of_name own_tem_pn) hisR ?_
  intro p e s m args below meth c s₁ Bd hml0 hP hK
  obtain ⟨rfl, hZ, hh⟩ := hP
  have hx := Bd.exec
  have hby := Bd.bytes
  have hml : c.maxLocals = 5 := hml0
  have hown : s.vm.findClass "java/time/Instant" = some m.cls := findClass_of_methodNamed Bd.named
  have hnm := (name_of_methodNamed Bd.named Bd.method).1
  have X0 : Stand p l e ({ frames := 3, cells := 0, slots := 0, locals := 48 } : Room) s m #[(.ref a)] below meth c s₁ [] 0 0 := Stand.of_body Bd
  have e0 : s₁.heap = h0 := by rw [← hh, Bd.state]; rfl
  have N0 := Fr.nil n0
  have KP0 : Keep h0 h0 [] := Keep.refl _ _
  refine ownFin (Q := own_tem_Q Z a t h0 n0) ?_
  refine ownStep (fun _ k => castTop (own_tem_ef m a) k) ?_
  show ownGo p.tables e below (s₁.setTop (mkF m 0 #[.val (.ref a), .unset, .unset, .unset, .unset] [])) _
  obtain ⟨Et, q, r, Fs, Fn, hI⟩ := hT
  refine ownStep (fun _ k => XS.aloadN X0.here hx rfl (hb hby own_tem_d0) rfl rfl k) ?_
  show ownGo p.tables e below (s₁.setTop (mkF m 1 #[.val (.ref a), .unset, .unset, .unset, .unset] [(.ref a)])) _
  obtain ⟨T1, X1, e1, st1⟩ := getF X0 hx hZ hown (host := "") (Or.inl (hw _ ow223)) Via.refl e0 Fs (g := (mkF m 1 #[.val (.ref a), .unset, .unset, .unset, .unset] [(.ref a)])) rfl rfl (hb hby own_tem_d1)
  refine ownStep st1 ?_
  refine ownStep (fun _ k => XS.lconst X1.here hx rfl (hb hby own_tem_d4) k) ?_
  refine ownStep (fun _ k => XS.lcmp X1.here hx rfl (hb hby own_tem_d5) rfl k) ?_
  show ownGo p.tables e below (T1.setTop (mkF m 6 #[.val (.ref a), .unset, .unset, .unset, .unset] [(.int (lcmpW q (0 : Int64)))])) _
  by_cases hc6 : (lcmpW q (0 : Int64)) < (0 : Int32)
  · skip
    refine ownStep (fun _ k => XS.ifNo X1.here hx rfl (hb hby own_tem_d6) rfl ((if0 _ _).trans (tlt (hc6 : (lcmpW q (0 : Int64)) < (0 : Int32))).2.1) k) ?_
    refine ownStep (fun _ k => XS.aloadN X1.here hx rfl (hb hby own_tem_d9) rfl rfl k) ?_
    show ownGo p.tables e below (T1.setTop (mkF m 10 #[.val (.ref a), .unset, .unset, .unset, .unset] [(.ref a)])) _
    obtain ⟨T2, X2, e2, st2⟩ := getF X1 hx hZ hown (host := "") (Or.inl (hw _ ow225)) Via.refl e1 Fn (g := (mkF m 10 #[.val (.ref a), .unset, .unset, .unset, .unset] [(.ref a)])) rfl rfl (hb hby own_tem_d10)
    refine ownStep st2 ?_
    show ownGo p.tables e below (T2.setTop (mkF m 13 #[.val (.ref a), .unset, .unset, .unset, .unset] [(.int r)])) _
    by_cases hc13 : (0 : Int32) < r
    · skip
      refine ownStep (fun _ k => XS.ifNo X2.here hx rfl (hb hby own_tem_d13) rfl ((if0 _ _).trans (tlt (hc13 : (0 : Int32) < r)).2.2.2) k) ?_
      refine ownStep (fun _ k => XS.aloadN X2.here hx rfl (hb hby own_tem_d16) rfl rfl k) ?_
      show ownGo p.tables e below (T2.setTop (mkF m 17 #[.val (.ref a), .unset, .unset, .unset, .unset] [(.ref a)])) _
      obtain ⟨T3, X3, e3, st3⟩ := getF X2 hx hZ hown (host := "") (Or.inl (hw _ ow223)) Via.refl e2 Fs (g := (mkF m 17 #[.val (.ref a), .unset, .unset, .unset, .unset] [(.ref a)])) rfl rfl (hb hby own_tem_d17)
      refine ownStep st3 ?_
      refine ownStep (fun _ k => XS.lconst X3.here hx rfl (hb hby own_tem_d20) k) ?_
      refine ownStep (fun _ k => XS.ladd X3.here hx rfl (hb hby own_tem_d21) rfl k) ?_
      refine ownStep (fun _ k => XS.sipush X3.here hx rfl (hb hby own_tem_d22) k) ?_
      show ownGo p.tables e below (T3.setTop (mkF m 25 #[.val (.ref a), .unset, .unset, .unset, .unset] [(.int (1000 : Int32)), (.long (q + (1 : Int64)))])) _
      have Zs5 : n0 ≤ h0.size := Nat.le_trans Z0 KP0.1
      obtain ⟨_, _, ⟨T4, L4, k4, n4⟩, -, X4, ⟨Lc4, hQ4, l4, y4, z4⟩, st4⟩ := Jvm.LawKit.callS X3 hx (y := (⟨"java/lang/Math", "multiplyExact", "(JI)J"⟩ : MethodName)) hown (mvT hZ (hw _ ow264)) (mvT hZ (hw _ ow265)) (mvT hZ (hw _ ow199)) (mvT hZ (hw _ ow266)) (by decide) (backOf (W := 0) (own_muI l Z a0 hw [] (q + (1 : Int64)) h0 n0 Zs5 (own_B1 hI hc6).2) hZ (hw _ ow266) (hw _ ow199) (by decide) (by decide)) (g := (mkF m 25 #[.val (.ref a), .unset, .unset, .unset, .unset] [(.int (1000 : Int32)), (.long (q + (1 : Int64)))])) rfl (by rw [hml]; rfl) (argsL := [(.long (q + (1 : Int64))), (.int (1000 : Int32))]) (rest := []) (lenOf own_tem_pd0 rfl) rfl (by show 2 * 0 + _ ≤ _; exact Nat.le_of_eq rfl) (hb hby own_tem_d25) (fun _ _ => ⟨rfl, e3, (by decide : 0 + 0 ≤ _), (by decide : 0 + 0 ≤ _)⟩)
      dsimp only [Pt.U, Pt.locs, Pt.cells, Pt.slots] at X4 l4 y4 z4 st4 hQ4
      obtain rfl : k4 = 0 := y4
      obtain rfl : n4 = 0 := z4
      obtain ⟨mm, rfl, N4q, R4, P6⟩ := hQ4
      have N4 : Fr n0 L4 := l4 ▸ Fr.app N0 N4q
      refine ownStep (fun _ k => st4 _ k) ?_
      refine ownStep (fun _ k => XS.lstoreN X4.here hx rfl (hb hby own_tem_d28) rfl (l' := #[.val (.ref a), .val (.long mm), .second, .unset, .unset]) rfl k) ?_
      refine ownStep (fun _ k => XS.aloadN X4.here hx rfl (hb hby own_tem_d29) rfl rfl k) ?_
      show ownGo p.tables e below (T4.setTop (mkF m 30 #[.val (.ref a), .val (.long mm), .second, .unset, .unset] [(.ref a)])) _
      obtain ⟨T7, X7, e7, st7⟩ := getF X4 hx hZ hown (host := "") (Or.inl (hw _ ow225)) Via.refl R4 Fn (g := (mkF m 30 #[.val (.ref a), .val (.long mm), .second, .unset, .unset] [(.ref a)])) rfl rfl (hb hby own_tem_d30)
      refine ownStep st7 ?_
      show ownGo p.tables e below (T7.setTop (mkF m 33 #[.val (.ref a), .val (.long mm), .second, .unset, .unset] [(.int r)])) _
      refine ownStep (X7.ldcInt hx hown (mvT hZ (hw _ ow210)) (g := (mkF m 33 #[.val (.ref a), .val (.long mm), .second, .unset, .unset] [(.int r)])) rfl (hb hby own_tem_d33)) ?_
      refine ownStep (fun _ k => XS.idiv X7.here hx rfl (hb hby own_tem_d35) rfl (by decide) k) ?_
      refine ownStep (fun _ k => XS.sipush X7.here hx rfl (hb hby own_tem_d36) k) ?_
      refine ownStep (fun _ k => XS.isub X7.here hx rfl (hb hby own_tem_d39) rfl k) ?_
      refine ownStep (fun _ k => XS.i2l X7.here hx rfl (hb hby own_tem_d40) rfl k) ?_
      refine ownStep (fun _ k => XS.lstoreN X7.here hx rfl (hb hby own_tem_d41) rfl (l' := #[.val (.ref a), .val (.long mm), .second, .val (.long (((r / (1000000 : Int32)) - (1000 : Int32)).toInt64)), .second]) rfl k) ?_
      refine ownStep (fun _ k => XS.lloadN X7.here hx rfl (hb hby own_tem_d42) rfl  k) ?_
      refine ownStep (fun _ k => XS.lloadN X7.here hx rfl (hb hby own_tem_d43) rfl  k) ?_
      show ownGo p.tables e below (T7.setTop (mkF m 44 #[.val (.ref a), .val (.long mm), .second, .val (.long (((r / (1000000 : Int32)) - (1000 : Int32)).toInt64)), .second] [(.long (((r / (1000000 : Int32)) - (1000 : Int32)).toInt64)), (.long mm)])) _
      have hs := own_B2 hI hc6 P6
      have Zs9 : n0 ≤ h0.size := Nat.le_trans Z0 KP0.1
      obtain ⟨_, _, ⟨T8, L8, k8, n8⟩, -, X8, ⟨Lc8, hQ8, l8, y8, z8⟩, st8⟩ := Jvm.LawKit.callS X7 hx (y := (⟨"java/lang/Math", "addExact", "(JJ)J"⟩ : MethodName)) hown (mvT hZ (hw _ ow273)) (mvT hZ (hw _ ow274)) (mvT hZ (hw _ ow199)) (mvT hZ (hw _ ow275)) (by decide) (backOf (W := 0) (own_adJ l Z a0 hw [] mm (((r / (1000000 : Int32)) - (1000 : Int32)).toInt64) h0 n0 Zs9 hs.1) hZ (hw _ ow275) (hw _ ow199) (by decide) (by decide)) (g := (mkF m 44 #[.val (.ref a), .val (.long mm), .second, .val (.long (((r / (1000000 : Int32)) - (1000 : Int32)).toInt64)), .second] [(.long (((r / (1000000 : Int32)) - (1000 : Int32)).toInt64)), (.long mm)])) rfl (by rw [hml]; rfl) (argsL := [(.long mm), (.long (((r / (1000000 : Int32)) - (1000 : Int32)).toInt64))]) (rest := []) (lenOf own_tem_pd1 rfl) rfl (by show 2 * 0 + _ ≤ _; exact Nat.le_of_eq rfl) (hb hby own_tem_d44) (fun _ _ => ⟨rfl, e7, (by decide : 0 + 0 ≤ _), (by decide : 0 + 0 ≤ _)⟩)
      dsimp only [Pt.U, Pt.locs, Pt.cells, Pt.slots] at X8 l8 y8 z8 st8 hQ8
      obtain rfl : k8 = 0 := y8
      obtain rfl : n8 = 0 := z8
      obtain ⟨rfl, N8q, R8⟩ := hQ8
      have N8 : Fr n0 L8 := l8 ▸ Fr.app N4 N8q
      refine ownStep (fun _ k => st8 _ k) ?_
      show ownGo p.tables e below (T8.setTop (mkF m 47 #[.val (.ref a), .val (.long mm), .second, .val (.long (((r / (1000000 : Int32)) - (1000 : Int32)).toInt64)), .second] [(.long (mm + (((r / (1000000 : Int32)) - (1000 : Int32)).toInt64)))])) _
      exact ownRet X8 (v := some (.long (mm + (((r / (1000000 : Int32)) - (1000 : Int32)).toInt64)))) Bd.notSynchronized (fun h => by rw [Bd.returns] at h; cases h) (fun _ hr => retOut X8 hx (t := .long) Bd.returns rfl (Or.inr (Or.inl ⟨rfl, rfl, _, rfl⟩)) (hb hby own_tem_d47) hr) (by rw [R8]; exact ⟨(by rw [hs.2]), N8, rfl⟩) (by decide) (by decide)
    · skip
      refine ownStep (fun _ k => XS.ifYes X2.here hx rfl (pc0 := 13) (pc' := 48) rfl (hb hby own_tem_d13) rfl ((if0 _ _).trans (flt (hc13 : ¬ (0 : Int32) < r)).2.2.2) (by decide) (by decide) k) ?_
      refine ownStep (fun _ k => XS.aloadN X2.here hx rfl (hb hby own_tem_d48) rfl rfl k) ?_
      show ownGo p.tables e below (T2.setTop (mkF m 49 #[.val (.ref a), .unset, .unset, .unset, .unset] [(.ref a)])) _
      obtain ⟨T10, X10, e10, st10⟩ := getF X2 hx hZ hown (host := "") (Or.inl (hw _ ow223)) Via.refl e2 Fs (g := (mkF m 49 #[.val (.ref a), .unset, .unset, .unset, .unset] [(.ref a)])) rfl rfl (hb hby own_tem_d49)
      refine ownStep st10 ?_
      refine ownStep (fun _ k => XS.sipush X10.here hx rfl (hb hby own_tem_d52) k) ?_
      show ownGo p.tables e below (T10.setTop (mkF m 55 #[.val (.ref a), .unset, .unset, .unset, .unset] [(.int (1000 : Int32)), (.long q)])) _
      have Zs12 : n0 ≤ h0.size := Nat.le_trans Z0 KP0.1
      obtain ⟨_, _, ⟨T11, L11, k11, n11⟩, -, X11, ⟨Lc11, hQ11, l11, y11, z11⟩, st11⟩ := Jvm.LawKit.callS X10 hx (y := (⟨"java/lang/Math", "multiplyExact", "(JI)J"⟩ : MethodName)) hown (mvT hZ (hw _ ow264)) (mvT hZ (hw _ ow265)) (mvT hZ (hw _ ow199)) (mvT hZ (hw _ ow266)) (by decide) (backOf (W := 0) (own_muI l Z a0 hw [] q h0 n0 Zs12 (by first | exact own_A1 hI (Or.inl hc6) | exact own_A1 hI (Or.inr hc13))) hZ (hw _ ow266) (hw _ ow199) (by decide) (by decide)) (g := (mkF m 55 #[.val (.ref a), .unset, .unset, .unset, .unset] [(.int (1000 : Int32)), (.long q)])) rfl (by rw [hml]; rfl) (argsL := [(.long q), (.int (1000 : Int32))]) (rest := []) (lenOf own_tem_pd0 rfl) rfl (by show 2 * 0 + _ ≤ _; exact Nat.le_of_eq rfl) (hb hby own_tem_d55) (fun _ _ => ⟨rfl, e10, (by decide : 0 + 0 ≤ _), (by decide : 0 + 0 ≤ _)⟩)
      dsimp only [Pt.U, Pt.locs, Pt.cells, Pt.slots] at X11 l11 y11 z11 st11 hQ11
      obtain rfl : k11 = 0 := y11
      obtain rfl : n11 = 0 := z11
      obtain ⟨mm, rfl, N11q, R11, P13⟩ := hQ11
      have N11 : Fr n0 L11 := l11 ▸ Fr.app N0 N11q
      refine ownStep (fun _ k => st11 _ k) ?_
      refine ownStep (fun _ k => XS.lstoreN X11.here hx rfl (hb hby own_tem_d58) rfl (l' := #[.val (.ref a), .val (.long mm), .second, .unset, .unset]) rfl k) ?_
      refine ownStep (fun _ k => XS.lloadN X11.here hx rfl (hb hby own_tem_d59) rfl  k) ?_
      refine ownStep (fun _ k => XS.aloadN X11.here hx rfl (hb hby own_tem_d60) rfl rfl k) ?_
      show ownGo p.tables e below (T11.setTop (mkF m 61 #[.val (.ref a), .val (.long mm), .second, .unset, .unset] [(.ref a), (.long mm)])) _
      obtain ⟨T14, X14, e14, st14⟩ := getF X11 hx hZ hown (host := "") (Or.inl (hw _ ow225)) Via.refl R11 Fn (g := (mkF m 61 #[.val (.ref a), .val (.long mm), .second, .unset, .unset] [(.ref a), (.long mm)])) rfl rfl (hb hby own_tem_d61)
      refine ownStep st14 ?_
      show ownGo p.tables e below (T14.setTop (mkF m 64 #[.val (.ref a), .val (.long mm), .second, .unset, .unset] [(.int r), (.long mm)])) _
      refine ownStep (X14.ldcInt hx hown (mvT hZ (hw _ ow210)) (g := (mkF m 64 #[.val (.ref a), .val (.long mm), .second, .unset, .unset] [(.int r), (.long mm)])) rfl (hb hby own_tem_d64)) ?_
      refine ownStep (fun _ k => XS.idiv X14.here hx rfl (hb hby own_tem_d66) rfl (by decide) k) ?_
      refine ownStep (fun _ k => XS.i2l X14.here hx rfl (hb hby own_tem_d67) rfl k) ?_
      show ownGo p.tables e below (T14.setTop (mkF m 68 #[.val (.ref a), .val (.long mm), .second, .unset, .unset] [(.long ((r / (1000000 : Int32)).toInt64)), (.long mm)])) _
      have hs := own_A2 hI P13
      have Zs16 : n0 ≤ h0.size := Nat.le_trans Z0 KP0.1
      obtain ⟨_, _, ⟨T15, L15, k15, n15⟩, -, X15, ⟨Lc15, hQ15, l15, y15, z15⟩, st15⟩ := Jvm.LawKit.callS X14 hx (y := (⟨"java/lang/Math", "addExact", "(JJ)J"⟩ : MethodName)) hown (mvT hZ (hw _ ow273)) (mvT hZ (hw _ ow274)) (mvT hZ (hw _ ow199)) (mvT hZ (hw _ ow275)) (by decide) (backOf (W := 0) (own_adJ l Z a0 hw [] mm ((r / (1000000 : Int32)).toInt64) h0 n0 Zs16 hs.1) hZ (hw _ ow275) (hw _ ow199) (by decide) (by decide)) (g := (mkF m 68 #[.val (.ref a), .val (.long mm), .second, .unset, .unset] [(.long ((r / (1000000 : Int32)).toInt64)), (.long mm)])) rfl (by rw [hml]; rfl) (argsL := [(.long mm), (.long ((r / (1000000 : Int32)).toInt64))]) (rest := []) (lenOf own_tem_pd1 rfl) rfl (by show 2 * 0 + _ ≤ _; exact Nat.le_of_eq rfl) (hb hby own_tem_d68) (fun _ _ => ⟨rfl, e14, (by decide : 0 + 0 ≤ _), (by decide : 0 + 0 ≤ _)⟩)
      dsimp only [Pt.U, Pt.locs, Pt.cells, Pt.slots] at X15 l15 y15 z15 st15 hQ15
      obtain rfl : k15 = 0 := y15
      obtain rfl : n15 = 0 := z15
      obtain ⟨rfl, N15q, R15⟩ := hQ15
      have N15 : Fr n0 L15 := l15 ▸ Fr.app N11 N15q
      refine ownStep (fun _ k => st15 _ k) ?_
      show ownGo p.tables e below (T15.setTop (mkF m 71 #[.val (.ref a), .val (.long mm), .second, .unset, .unset] [(.long (mm + ((r / (1000000 : Int32)).toInt64)))])) _
      exact ownRet X15 (v := some (.long (mm + ((r / (1000000 : Int32)).toInt64)))) Bd.notSynchronized (fun h => by rw [Bd.returns] at h; cases h) (fun _ hr => retOut X15 hx (t := .long) Bd.returns rfl (Or.inr (Or.inl ⟨rfl, rfl, _, rfl⟩)) (hb hby own_tem_d71) hr) (by rw [R15]; exact ⟨(by rw [hs.2]), N15, rfl⟩) (by decide) (by decide)
  · skip
    refine ownStep (fun _ k => XS.ifYes X1.here hx rfl (pc0 := 6) (pc' := 48) rfl (hb hby own_tem_d6) rfl ((if0 _ _).trans (flt (hc6 : ¬ (lcmpW q (0 : Int64)) < (0 : Int32))).2.1) (by decide) (by decide) k) ?_
    refine ownStep (fun _ k => XS.aloadN X1.here hx rfl (hb hby own_tem_d48) rfl rfl k) ?_
    show ownGo p.tables e below (T1.setTop (mkF m 49 #[.val (.ref a), .unset, .unset, .unset, .unset] [(.ref a)])) _
    obtain ⟨T17, X17, e17, st17⟩ := getF X1 hx hZ hown (host := "") (Or.inl (hw _ ow223)) Via.refl e1 Fs (g := (mkF m 49 #[.val (.ref a), .unset, .unset, .unset, .unset] [(.ref a)])) rfl rfl (hb hby own_tem_d49)
    refine ownStep st17 ?_
    refine ownStep (fun _ k => XS.sipush X17.here hx rfl (hb hby own_tem_d52) k) ?_
    show ownGo p.tables e below (T17.setTop (mkF m 55 #[.val (.ref a), .unset, .unset, .unset, .unset] [(.int (1000 : Int32)), (.long q)])) _
    have Zs19 : n0 ≤ h0.size := Nat.le_trans Z0 KP0.1
    obtain ⟨_, _, ⟨T18, L18, k18, n18⟩, -, X18, ⟨Lc18, hQ18, l18, y18, z18⟩, st18⟩ := Jvm.LawKit.callS X17 hx (y := (⟨"java/lang/Math", "multiplyExact", "(JI)J"⟩ : MethodName)) hown (mvT hZ (hw _ ow264)) (mvT hZ (hw _ ow265)) (mvT hZ (hw _ ow199)) (mvT hZ (hw _ ow266)) (by decide) (backOf (W := 0) (own_muI l Z a0 hw [] q h0 n0 Zs19 (by first | exact own_A1 hI (Or.inl hc6) | exact own_A1 hI (Or.inr hc13))) hZ (hw _ ow266) (hw _ ow199) (by decide) (by decide)) (g := (mkF m 55 #[.val (.ref a), .unset, .unset, .unset, .unset] [(.int (1000 : Int32)), (.long q)])) rfl (by rw [hml]; rfl) (argsL := [(.long q), (.int (1000 : Int32))]) (rest := []) (lenOf own_tem_pd0 rfl) rfl (by show 2 * 0 + _ ≤ _; exact Nat.le_of_eq rfl) (hb hby own_tem_d55) (fun _ _ => ⟨rfl, e17, (by decide : 0 + 0 ≤ _), (by decide : 0 + 0 ≤ _)⟩)
    dsimp only [Pt.U, Pt.locs, Pt.cells, Pt.slots] at X18 l18 y18 z18 st18 hQ18
    obtain rfl : k18 = 0 := y18
    obtain rfl : n18 = 0 := z18
    obtain ⟨mm, rfl, N18q, R18, P20⟩ := hQ18
    have N18 : Fr n0 L18 := l18 ▸ Fr.app N0 N18q
    refine ownStep (fun _ k => st18 _ k) ?_
    refine ownStep (fun _ k => XS.lstoreN X18.here hx rfl (hb hby own_tem_d58) rfl (l' := #[.val (.ref a), .val (.long mm), .second, .unset, .unset]) rfl k) ?_
    refine ownStep (fun _ k => XS.lloadN X18.here hx rfl (hb hby own_tem_d59) rfl  k) ?_
    refine ownStep (fun _ k => XS.aloadN X18.here hx rfl (hb hby own_tem_d60) rfl rfl k) ?_
    show ownGo p.tables e below (T18.setTop (mkF m 61 #[.val (.ref a), .val (.long mm), .second, .unset, .unset] [(.ref a), (.long mm)])) _
    obtain ⟨T21, X21, e21, st21⟩ := getF X18 hx hZ hown (host := "") (Or.inl (hw _ ow225)) Via.refl R18 Fn (g := (mkF m 61 #[.val (.ref a), .val (.long mm), .second, .unset, .unset] [(.ref a), (.long mm)])) rfl rfl (hb hby own_tem_d61)
    refine ownStep st21 ?_
    show ownGo p.tables e below (T21.setTop (mkF m 64 #[.val (.ref a), .val (.long mm), .second, .unset, .unset] [(.int r), (.long mm)])) _
    refine ownStep (X21.ldcInt hx hown (mvT hZ (hw _ ow210)) (g := (mkF m 64 #[.val (.ref a), .val (.long mm), .second, .unset, .unset] [(.int r), (.long mm)])) rfl (hb hby own_tem_d64)) ?_
    refine ownStep (fun _ k => XS.idiv X21.here hx rfl (hb hby own_tem_d66) rfl (by decide) k) ?_
    refine ownStep (fun _ k => XS.i2l X21.here hx rfl (hb hby own_tem_d67) rfl k) ?_
    show ownGo p.tables e below (T21.setTop (mkF m 68 #[.val (.ref a), .val (.long mm), .second, .unset, .unset] [(.long ((r / (1000000 : Int32)).toInt64)), (.long mm)])) _
    have hs := own_A2 hI P20
    have Zs23 : n0 ≤ h0.size := Nat.le_trans Z0 KP0.1
    obtain ⟨_, _, ⟨T22, L22, k22, n22⟩, -, X22, ⟨Lc22, hQ22, l22, y22, z22⟩, st22⟩ := Jvm.LawKit.callS X21 hx (y := (⟨"java/lang/Math", "addExact", "(JJ)J"⟩ : MethodName)) hown (mvT hZ (hw _ ow273)) (mvT hZ (hw _ ow274)) (mvT hZ (hw _ ow199)) (mvT hZ (hw _ ow275)) (by decide) (backOf (W := 0) (own_adJ l Z a0 hw [] mm ((r / (1000000 : Int32)).toInt64) h0 n0 Zs23 hs.1) hZ (hw _ ow275) (hw _ ow199) (by decide) (by decide)) (g := (mkF m 68 #[.val (.ref a), .val (.long mm), .second, .unset, .unset] [(.long ((r / (1000000 : Int32)).toInt64)), (.long mm)])) rfl (by rw [hml]; rfl) (argsL := [(.long mm), (.long ((r / (1000000 : Int32)).toInt64))]) (rest := []) (lenOf own_tem_pd1 rfl) rfl (by show 2 * 0 + _ ≤ _; exact Nat.le_of_eq rfl) (hb hby own_tem_d68) (fun _ _ => ⟨rfl, e21, (by decide : 0 + 0 ≤ _), (by decide : 0 + 0 ≤ _)⟩)
    dsimp only [Pt.U, Pt.locs, Pt.cells, Pt.slots] at X22 l22 y22 z22 st22 hQ22
    obtain rfl : k22 = 0 := y22
    obtain rfl : n22 = 0 := z22
    obtain ⟨rfl, N22q, R22⟩ := hQ22
    have N22 : Fr n0 L22 := l22 ▸ Fr.app N18 N22q
    refine ownStep (fun _ k => st22 _ k) ?_
    show ownGo p.tables e below (T22.setTop (mkF m 71 #[.val (.ref a), .val (.long mm), .second, .unset, .unset] [(.long (mm + ((r / (1000000 : Int32)).toInt64)))])) _
    exact ownRet X22 (v := some (.long (mm + ((r / (1000000 : Int32)).toInt64)))) Bd.notSynchronized (fun h => by rw [Bd.returns] at h; cases h) (fun _ hr => retOut X22 hx (t := .long) Bd.returns rfl (Or.inr (Or.inl ⟨rfl, rfl, _, rfl⟩)) (hb hby own_tem_d71) hr) (by rw [R22]; exact ⟨(by rw [hs.2]), N22, rfl⟩) (by decide) (by decide)
theorem own_odi_d0 : decode jdk_2648_method_3_code 0 = .ok (.aload_n 0, 1) := by decide +kernel
theorem own_odi_d1 : decode jdk_2648_method_3_code 1 = .ok (.invokespecial 1, 3) := by decide +kernel
theorem own_odi_d4 : decode jdk_2648_method_3_code 4 = .ok (.aload_n 0, 1) := by decide +kernel
theorem own_odi_d5 : decode jdk_2648_method_3_code 5 = .ok (.iconst 1, 1) := by decide +kernel
theorem own_odi_d6 : decode jdk_2648_method_3_code 6 = .ok (.putfield 7, 3) := by decide +kernel
theorem own_odi_d9 : decode jdk_2648_method_3_code 9 = .ok (.aload_n 0, 1) := by decide +kernel
theorem own_odi_d10 : decode jdk_2648_method_3_code 10 = .ok (.dload_n 1, 1) := by decide +kernel
theorem own_odi_d11 : decode jdk_2648_method_3_code 11 = .ok (.putfield 17, 3) := by decide +kernel
theorem own_odi_d14 : decode jdk_2648_method_3_code 14 = .ok (.return_, 1) := by decide +kernel
theorem own_odi_pn : plainName "java/util/OptionalDouble" = true := by first | (simp [plainName, overriddenIn]; done) | decide +kernel
theorem own_odi_ef (m : MethodId) (x0 : Addr) (x1 : UInt64) : entryFrame m #[(.ref x0), (.double x1)] 3 = mkF m 0 #[.val (.ref x0), .val (.double x1), .second] [] := by first | (simp [entryFrame, mkF, argsToLocals, Value.category]; done) | rfl
def own_odi_Q (Z : State) (a : Addr) (v : UInt64) (h0 : Heap) (n0 : Nat) (vv_ : Option Value) (hh_ : Heap) (LL_ : List Loc) : Prop := vv_ = none ∧ Fr n0 LL_ ∧ Keep h0 hh_ [a] ∧ (Fld Z hh_ a "java/util/OptionalDouble" "isPresent" "Z" (.int (1 : Int32))) ∧ (Fld Z hh_ a "java/util/OptionalDouble" "value" "D" (.double v))
set_option maxRecDepth 65536 in
set_option maxHeartbeats 40000000 in
theorem own_odi (l : Launch) (Z : State) (a0 : Array Value) (hw : ∀ d ∈ tables_1, d.before a0 Z = true) (ws : List Jvm.Cond) (a : Addr) (v : UInt64) (h0 : Heap) (n0 : Nat) (Z0 : n0 ≤ h0.size) (E : Exa Z h0 a "java/util/OptionalDouble") (g : n0 ≤ a) (Ga : Fld Z h0 a "java/util/OptionalDouble" "isPresent" "Z" (.int (0 : Int32))) (Gb : Fld Z h0 a "java/util/OptionalDouble" "value" "D" (.double 0)) :
    MetFree l (⟨"java/util/OptionalDouble", "<init>", "(D)V"⟩ : MethodName) (head1 (Jvm.Cond.code (⟨"java/util/OptionalDouble", "<init>", "(D)V"⟩ : MethodName) jdk_2648_method_3_code 3 none :: ws) ({ frames := 1, cells := 0, slots := 0, locals := 12 } : Room)) (fun aa_ UU_ => aa_ = #[(.ref a), (.double v)] ∧ Z.Warmed39 UU_.vm ∧ UU_.heap = h0) (fun _ _ _ _ _ => True) (fun _ UU_ oo_ UV_ => ∃ vv_ LL_, oo_ = .returned vv_ ∧ own_odi_Q Z a v h0 n0 vv_ UV_.heap LL_ ∧ FrameEnd UU_ oo_ UV_ LL_ ({ frames := 1, cells := 0, slots := 0, locals := 12 } : Room).cells ({ frames := 1, cells := 0, slots := 0, locals := 12 } : Room).slots) := by
  refine MetFree.of_bodySF (plainFor_of_name own_odi_pn) hisR ?_
  intro p e s m args below meth c s₁ Bd hml0 hP hK
  obtain ⟨rfl, hZ, hh⟩ := hP
  have hx := Bd.exec
  have hby := Bd.bytes
  have hml : c.maxLocals = 3 := hml0
  have hown : s.vm.findClass "java/util/OptionalDouble" = some m.cls := findClass_of_methodNamed Bd.named
  have hnm := (name_of_methodNamed Bd.named Bd.method).1
  have X0 : Stand p l e ({ frames := 1, cells := 0, slots := 0, locals := 12 } : Room) s m #[(.ref a), (.double v)] below meth c s₁ [] 0 0 := Stand.of_body Bd
  have e0 : s₁.heap = h0 := by rw [← hh, Bd.state]; rfl
  have N0 := Fr.nil n0
  have KP0 : Keep h0 h0 [a] := Keep.refl _ _
  refine ownFin (Q := own_odi_Q Z a v h0 n0) ?_
  refine ownStep (fun _ k => castTop (own_odi_ef m a v) k) ?_
  show ownGo p.tables e below (s₁.setTop (mkF m 0 #[.val (.ref a), .val (.double v), .second] [])) _
  refine ownStep (fun _ k => XS.aloadN X0.here hx rfl (hb hby own_odi_d0) rfl rfl k) ?_
  show ownGo p.tables e below (s₁.setTop (mkF m 1 #[.val (.ref a), .val (.double v), .second] [(.ref a)])) _
  obtain ⟨T1, X1, e1, st1⟩ := initO X0 hx hZ hown (hw _ ow362) (hw _ ow20) (hw _ ow21) e0 (g := (mkF m 1 #[.val (.ref a), .val (.double v), .second] [(.ref a)])) rfl (by rw [hml]; rfl) rfl (hb hby own_odi_d1) (by decide) (W := 0) (by show 2 * 0 + _ ≤ _; exact Nat.le_of_eq rfl) (by decide)
  refine ownStep st1 ?_
  refine ownStep (fun _ k => XS.aloadN X1.here hx rfl (hb hby own_odi_d4) rfl rfl k) ?_
  refine ownStep (fun _ k => XS.iconst X1.here hx rfl (hb hby own_odi_d5) k) ?_
  show ownGo p.tables e below (T1.setTop (mkF m 6 #[.val (.ref a), .val (.double v), .second] [(.int (1 : Int32)), (.ref a)])) _
  obtain ⟨T2, h2, X2, e2, W2, st2⟩ := putFN X1 hx hZ hown (hw _ ow296) Via.refl e1 Ga E (Or.inr ⟨(hw _ ow297), rfl, hnm⟩) (hw _ ow357) (ty := .boolean) (v' := (.int (1 : Int32))) (by decide) rfl rfl (g := (mkF m 6 #[.val (.ref a), .val (.double v), .second] [(.int (1 : Int32)), (.ref a)])) rfl rfl (hb hby own_odi_d6)
  have N3 := Fr.snoc X2 N0 g
  have KP4 : Keep h0 h2 [a] := KP0.wr W2 (Or.inl (List.mem_of_getElem? (i := 0) rfl))
  have F5 : Fld Z h2 a "java/util/OptionalDouble" "isPresent" "Z" (.int (1 : Int32)) := Ga.same W2
  refine ownStep st2 ?_
  refine ownStep (fun _ k => XS.aloadN X2.here hx rfl (hb hby own_odi_d9) rfl rfl k) ?_
  refine ownStep (fun _ k => XS.dloadN X2.here hx rfl (hb hby own_odi_d10) rfl k) ?_
  show ownGo p.tables e below (T2.setTop (mkF m 11 #[.val (.ref a), .val (.double v), .second] [(.double v), (.ref a)])) _
  have Q6 := (Gb.other W2 (.inr (ownNe (.inr (hw _ ow364)) (.inr (hw _ ow297)))))
  have Q7 := (E.wr W2)
  obtain ⟨T8, h8, X8, e8, W8, st8⟩ := putF X2 hx hZ hown (host := "") (Or.inl (hw _ ow363)) Via.refl e2 Q6 Q7 (Or.inr ⟨(hw _ ow364), rfl, hnm⟩) (hw _ ow357) (ty := .double) (by decide) rfl rfl (g := (mkF m 11 #[.val (.ref a), .val (.double v), .second] [(.double v), (.ref a)])) rfl rfl (hb hby own_odi_d11)
  have N9 := Fr.snoc X8 N3 g
  have KP10 : Keep h0 h8 [a] := KP4.wr W8 (Or.inl (List.mem_of_getElem? (i := 0) rfl))
  have F11 : Fld Z h8 a "java/util/OptionalDouble" "value" "D" (.double v) := Q6.same W8
  refine ownStep st8 ?_
  show ownGo p.tables e below (T8.setTop (mkF m 14 #[.val (.ref a), .val (.double v), .second] [])) _
  have Q12 := (F5.other W8 (.inr (ownNe (.inr (hw _ ow297)) (.inr (hw _ ow364)))))
  exact ownRet X8 (v := none) Bd.notSynchronized (fun _ => rfl) (fun _ hr => X8.returnOut hx Bd.returns (hb hby own_odi_d14) hr) (by rw [e8]; exact ⟨rfl, N9, KP10, Q12, F11⟩) (by decide) (by decide)
theorem own_odo_d0 : decode jdk_2648_method_4_code 0 = .ok (.new 8, 3) := by decide +kernel
theorem own_odo_d3 : decode jdk_2648_method_4_code 3 = .ok (.dup, 1) := by decide +kernel
theorem own_odo_d4 : decode jdk_2648_method_4_code 4 = .ok (.dload_n 0, 1) := by decide +kernel
theorem own_odo_d5 : decode jdk_2648_method_4_code 5 = .ok (.invokespecial 25, 3) := by decide +kernel
theorem own_odo_d8 : decode jdk_2648_method_4_code 8 = .ok (.areturn, 1) := by decide +kernel
theorem own_odo_pn : plainName "java/util/OptionalDouble" = true := by first | (simp [plainName, overriddenIn]; done) | decide +kernel
theorem own_odo_pd0 : parseMethodDescriptor "(D)V" = some ⟨[.double], none⟩ := by decide +kernel
theorem own_odo_ef (m : MethodId) (x0 : UInt64) : entryFrame m #[(.double x0)] 2 = mkF m 0 #[.val (.double x0), .second] [] := by first | (simp [entryFrame, mkF, argsToLocals, Value.category]; done) | rfl
def own_odo_Q (Z : State) (v : UInt64) (h0 : Heap) (n0 : Nat) (vv_ : Option Value) (hh_ : Heap) (LL_ : List Loc) : Prop := ∃ o : Addr, vv_ = some (.ref o) ∧ Fr n0 LL_ ∧ Ext h0 hh_ ∧ (Opt Z hh_ o (1 : Int32) v)
set_option maxRecDepth 65536 in
set_option maxHeartbeats 40000000 in
theorem own_odo (l : Launch) (Z : State) (a0 : Array Value) (hw : ∀ d ∈ tables_1, d.before a0 Z = true) (ws : List Jvm.Cond) (v : UInt64) (h0 : Heap) (n0 : Nat) (Z0 : n0 ≤ h0.size) :
    MetFree l (⟨"java/util/OptionalDouble", "of", "(D)Ljava/util/OptionalDouble;"⟩ : MethodName) (head1 (Jvm.Cond.code (⟨"java/util/OptionalDouble", "of", "(D)Ljava/util/OptionalDouble;"⟩ : MethodName) jdk_2648_method_4_code 2 (some (.object "java/util/OptionalDouble")) :: ws) ({ frames := 2, cells := 1, slots := 2, locals := 27 } : Room)) (fun aa_ UU_ => aa_ = #[(.double v)] ∧ Z.Warmed39 UU_.vm ∧ UU_.heap = h0) (fun _ _ _ _ _ => True) (fun _ UU_ oo_ UV_ => ∃ vv_ LL_, oo_ = .returned vv_ ∧ own_odo_Q Z v h0 n0 vv_ UV_.heap LL_ ∧ FrameEnd UU_ oo_ UV_ LL_ ({ frames := 2, cells := 1, slots := 2, locals := 27 } : Room).cells ({ frames := 2, cells := 1, slots := 2, locals := 27 } : Room).slots) := by
  refine MetFree.of_bodySF (plainFor_of_name own_odo_pn) hisR ?_
  intro p e s m args below meth c s₁ Bd hml0 hP hK
  obtain ⟨rfl, hZ, hh⟩ := hP
  have hx := Bd.exec
  have hby := Bd.bytes
  have hml : c.maxLocals = 2 := hml0
  have hown : s.vm.findClass "java/util/OptionalDouble" = some m.cls := findClass_of_methodNamed Bd.named
  have hnm := (name_of_methodNamed Bd.named Bd.method).1
  have X0 : Stand p l e ({ frames := 2, cells := 1, slots := 2, locals := 27 } : Room) s m #[(.double v)] below meth c s₁ [] 0 0 := Stand.of_body Bd
  have e0 : s₁.heap = h0 := by rw [← hh, Bd.state]; rfl
  have N0 := Fr.nil n0
  have KP0 : Keep h0 h0 [] := Keep.refl _ _
  refine ownFin (Q := own_odo_Q Z v h0 n0) ?_
  refine ownStep (fun _ k => castTop (own_odo_ef m v) k) ?_
  show ownGo p.tables e below (s₁.setTop (mkF m 0 #[.val (.double v), .second] [])) _
  obtain ⟨T1, h1, X1, e1, E1, A1, D1, U1, st1⟩ := newO X0 hx hZ hown (hw _ ow356) (hw _ ow357) (hw _ ow65) e0 (g := (mkF m 0 #[.val (.double v), .second] [])) rfl (hb hby own_odo_d0) (by decide) (by decide)
  obtain ⟨b1, g1⟩ : ∃ z, z = h0.size := ⟨_, rfl⟩
  rw [← g1] at A1 D1 U1 st1
  have gh_b1 : h0.size ≤ b1 := Nat.le_trans KP0.1 (Nat.le_of_eq g1.symm)
  have gn_b1 : n0 ≤ b1 := Nat.le_trans Z0 gh_b1
  have KP2 : Keep h0 h1 [] := KP0.ext E1
  have F3 : Fld Z h1 b1 "java/util/OptionalDouble" "isPresent" "Z" (.int (0 : Int32)) := D1 (Or.inr (hw _ ow297)) (ty := .boolean) (by decide)
  have F4 : Fld Z h1 b1 "java/util/OptionalDouble" "value" "D" (.double 0) := D1 (Or.inr (hw _ ow364)) (ty := .double) (by decide)
  refine ownStep st1 ?_
  refine ownStep (fun _ k => XS.dup X1.here hx rfl (hb hby own_odo_d3) rfl rfl k) ?_
  refine ownStep (fun _ k => XS.dloadN X1.here hx rfl (hb hby own_odo_d4) rfl k) ?_
  show ownGo p.tables e below (T1.setTop (mkF m 5 #[.val (.double v), .second] [(.double v), (.ref b1), (.ref b1)])) _
  have Zs6 : n0 ≤ h1.size := Nat.le_trans Z0 KP2.1
  obtain ⟨_, _, ⟨T5, L5, k5, n5⟩, -, X5, ⟨Lc5, hQ5, l5, y5, z5⟩, st5⟩ := X1.specialBack hx (y := (⟨"java/util/OptionalDouble", "<init>", "(D)V"⟩ : MethodName)) rfl hown (mvT hZ (hw _ ow358)) (mvT hZ (hw _ ow359)) (mvT hZ (hw _ ow361)) (by decide) (backOf (W := 1) (own_odi l Z a0 hw [] b1 v h1 n0 Zs6 A1 gn_b1 F3 F4) hZ (hw _ ow361) (hw _ ow65) (by decide) (by decide)) (g := (mkF m 5 #[.val (.double v), .second] [(.double v), (.ref b1), (.ref b1)])) rfl (by rw [hml]; rfl) (Steps.refl _) (a := b1) (argsL := [(.double v)]) (rest := [(.ref b1)]) (lenOf own_odo_pd0 rfl) rfl (by show 2 * 0 + _ ≤ _; exact Nat.le_of_eq rfl) (hb hby own_odo_d5) (fun _ _ => ⟨rfl, e1, (by decide : 1 + 0 ≤ _), (by decide : 2 + 0 ≤ _)⟩)
  dsimp only [Pt.U, Pt.locs, Pt.cells, Pt.slots] at X5 l5 y5 z5 st5 hQ5
  obtain rfl : k5 = 1 := y5
  obtain rfl : n5 = 2 := z5
  obtain ⟨rfl, N5q, R5, P7, P8⟩ := hQ5
  have N5 : Fr n0 L5 := l5 ▸ Fr.app N0 N5q
  refine ownStep (fun _ k => st5.trans k) ?_
  have KP9 : Keep h0 T5.heap [] := KP2.trans R5 (allS (Or.inr gh_b1) all0)
  show ownGo p.tables e below (T5.setTop (mkF m 8 #[.val (.double v), .second] [(.ref b1)])) _
  have Q10 := (A1.keep R5)
  exact ownRet X5 (v := some (.ref b1)) Bd.notSynchronized (fun h => by rw [Bd.returns] at h; cases h) (fun _ hr => retOut X5 hx (t := (.object "java/util/OptionalDouble")) Bd.returns rfl (Or.inr (Or.inr (Or.inr (Or.inr ⟨rfl, rfl, rfl⟩)))) (hb hby own_odo_d8) hr) (⟨b1, rfl, N5, (own_extOf KP9), ⟨Q10, P7, fun _ => P8⟩⟩) (by decide) (by decide)
theorem own_isp_d0 : decode jdk_2648_method_6_code 0 = .ok (.aload_n 0, 1) := by decide +kernel
theorem own_isp_d1 : decode jdk_2648_method_6_code 1 = .ok (.getfield 7, 3) := by decide +kernel
theorem own_isp_d4 : decode jdk_2648_method_6_code 4 = .ok (.ireturn, 1) := by decide +kernel
theorem own_isp_pn : plainName "java/util/OptionalDouble" = true := by first | (simp [plainName, overriddenIn]; done) | decide +kernel
theorem own_isp_ef (m : MethodId) (x0 : Addr) : entryFrame m #[(.ref x0)] 1 = mkF m 0 #[.val (.ref x0)] [] := by first | (simp [entryFrame, mkF, argsToLocals, Value.category]; done) | rfl
def own_isp_Q (Z : State) (a : Addr) (f : Int32) (v : UInt64) (h0 : Heap) (n0 : Nat) (vv_ : Option Value) (hh_ : Heap) (LL_ : List Loc) : Prop := vv_ = some (.int f) ∧ Fr n0 LL_ ∧ hh_ = h0
set_option maxRecDepth 65536 in
set_option maxHeartbeats 40000000 in
theorem own_isp (l : Launch) (Z : State) (a0 : Array Value) (hw : ∀ d ∈ tables_1, d.before a0 Z = true) (ws : List Jvm.Cond) (a : Addr) (f : Int32) (v : UInt64) (h0 : Heap) (n0 : Nat) (Z0 : n0 ≤ h0.size) (hO : Opt Z h0 a f v) (hfb : f = (0 : Int32) ∨ f = (1 : Int32)) :
    MetFree l (⟨"java/util/OptionalDouble", "isPresent", "()Z"⟩ : MethodName) (head1 (Jvm.Cond.code (⟨"java/util/OptionalDouble", "isPresent", "()Z"⟩ : MethodName) jdk_2648_method_6_code 1 (some .boolean) :: ws) ({ frames := 0, cells := 0, slots := 0, locals := 0 } : Room)) (fun aa_ UU_ => aa_ = #[(.ref a)] ∧ Z.Warmed39 UU_.vm ∧ UU_.heap = h0) (fun _ _ _ _ _ => True) (fun _ UU_ oo_ UV_ => ∃ vv_ LL_, oo_ = .returned vv_ ∧ own_isp_Q Z a f v h0 n0 vv_ UV_.heap LL_ ∧ FrameEnd UU_ oo_ UV_ LL_ ({ frames := 0, cells := 0, slots := 0, locals := 0 } : Room).cells ({ frames := 0, cells := 0, slots := 0, locals := 0 } : Room).slots) := by
  refine MetFree.of_bodySF (plainFor_of_name own_isp_pn) hisR ?_
  intro p e s m args below meth c s₁ Bd hml0 hP hK
  obtain ⟨rfl, hZ, hh⟩ := hP
  have hx := Bd.exec
  have hby := Bd.bytes
  have hml : c.maxLocals = 1 := hml0
  have hown : s.vm.findClass "java/util/OptionalDouble" = some m.cls := findClass_of_methodNamed Bd.named
  have hnm := (name_of_methodNamed Bd.named Bd.method).1
  have X0 : Stand p l e ({ frames := 0, cells := 0, slots := 0, locals := 0 } : Room) s m #[(.ref a)] below meth c s₁ [] 0 0 := Stand.of_body Bd
  have e0 : s₁.heap = h0 := by rw [← hh, Bd.state]; rfl
  have N0 := Fr.nil n0
  have KP0 : Keep h0 h0 [] := Keep.refl _ _
  refine ownFin (Q := own_isp_Q Z a f v h0 n0) ?_
  refine ownStep (fun _ k => castTop (own_isp_ef m a) k) ?_
  show ownGo p.tables e below (s₁.setTop (mkF m 0 #[.val (.ref a)] [])) _
  have Fp := hO.2.1
  refine ownStep (fun _ k => XS.aloadN X0.here hx rfl (hb hby own_isp_d0) rfl rfl k) ?_
  show ownGo p.tables e below (s₁.setTop (mkF m 1 #[.val (.ref a)] [(.ref a)])) _
  obtain ⟨T1, X1, e1, st1⟩ := getF X0 hx hZ hown (host := "") (Or.inl (hw _ ow296)) Via.refl e0 Fp (g := (mkF m 1 #[.val (.ref a)] [(.ref a)])) rfl rfl (hb hby own_isp_d1)
  refine ownStep st1 ?_
  show ownGo p.tables e below (T1.setTop (mkF m 4 #[.val (.ref a)] [(.int f)])) _
  exact ownRet X1 (v := some (.int (nar .boolean f))) Bd.notSynchronized (fun h => by rw [Bd.returns] at h; cases h) (fun _ hr => retN X1 hx (t := .boolean) Bd.returns (by simp) (hb hby own_isp_d4) hr) (by rw [e1]; exact ⟨(by rw [own_nb hfb]), N0, rfl⟩) (by decide) (by decide)
theorem own_ore_d0 : decode jdk_2648_method_11_code 0 = .ok (.aload_n 0, 1) := by decide +kernel
theorem own_ore_d1 : decode jdk_2648_method_11_code 1 = .ok (.getfield 7, 3) := by decide +kernel
theorem own_ore_d4 : decode jdk_2648_method_11_code 4 = .ok (.ifCond .eq 10, 3) := by decide +kernel
theorem own_ore_d7 : decode jdk_2648_method_11_code 7 = .ok (.aload_n 0, 1) := by decide +kernel
theorem own_ore_d8 : decode jdk_2648_method_11_code 8 = .ok (.getfield 17, 3) := by decide +kernel
theorem own_ore_d11 : decode jdk_2648_method_11_code 11 = .ok (.goto 4, 3) := by decide +kernel
theorem own_ore_d14 : decode jdk_2648_method_11_code 14 = .ok (.dload_n 1, 1) := by decide +kernel
theorem own_ore_d15 : decode jdk_2648_method_11_code 15 = .ok (.dreturn, 1) := by decide +kernel
theorem own_ore_pn : plainName "java/util/OptionalDouble" = true := by first | (simp [plainName, overriddenIn]; done) | decide +kernel
theorem own_ore_ef (m : MethodId) (x0 : Addr) (x1 : UInt64) : entryFrame m #[(.ref x0), (.double x1)] 3 = mkF m 0 #[.val (.ref x0), .val (.double x1), .second] [] := by first | (simp [entryFrame, mkF, argsToLocals, Value.category]; done) | rfl
def own_ore_Q (Z : State) (a : Addr) (f : Int32) (v : UInt64) (h0 : Heap) (n0 : Nat) (vv_ : Option Value) (hh_ : Heap) (LL_ : List Loc) : Prop := vv_ = some (.double (if f = (0 : Int32) then FP.dconst0 else v)) ∧ Fr n0 LL_ ∧ hh_ = h0
set_option maxRecDepth 65536 in
set_option maxHeartbeats 40000000 in
theorem own_ore (l : Launch) (Z : State) (a0 : Array Value) (hw : ∀ d ∈ tables_1, d.before a0 Z = true) (ws : List Jvm.Cond) (a : Addr) (f : Int32) (v : UInt64) (h0 : Heap) (n0 : Nat) (Z0 : n0 ≤ h0.size) (hO : Opt Z h0 a f v) :
    MetFree l (⟨"java/util/OptionalDouble", "orElse", "(D)D"⟩ : MethodName) (head1 (Jvm.Cond.code (⟨"java/util/OptionalDouble", "orElse", "(D)D"⟩ : MethodName) jdk_2648_method_11_code 3 (some .double) :: ws) ({ frames := 0, cells := 0, slots := 0, locals := 0 } : Room)) (fun aa_ UU_ => aa_ = #[(.ref a), (.double FP.dconst0)] ∧ Z.Warmed39 UU_.vm ∧ UU_.heap = h0) (fun _ _ _ _ _ => True) (fun _ UU_ oo_ UV_ => ∃ vv_ LL_, oo_ = .returned vv_ ∧ own_ore_Q Z a f v h0 n0 vv_ UV_.heap LL_ ∧ FrameEnd UU_ oo_ UV_ LL_ ({ frames := 0, cells := 0, slots := 0, locals := 0 } : Room).cells ({ frames := 0, cells := 0, slots := 0, locals := 0 } : Room).slots) := by
  refine MetFree.of_bodySF (plainFor_of_name own_ore_pn) hisR ?_
  intro p e s m args below meth c s₁ Bd hml0 hP hK
  obtain ⟨rfl, hZ, hh⟩ := hP
  have hx := Bd.exec
  have hby := Bd.bytes
  have hml : c.maxLocals = 3 := hml0
  have hown : s.vm.findClass "java/util/OptionalDouble" = some m.cls := findClass_of_methodNamed Bd.named
  have hnm := (name_of_methodNamed Bd.named Bd.method).1
  have X0 : Stand p l e ({ frames := 0, cells := 0, slots := 0, locals := 0 } : Room) s m #[(.ref a), (.double FP.dconst0)] below meth c s₁ [] 0 0 := Stand.of_body Bd
  have e0 : s₁.heap = h0 := by rw [← hh, Bd.state]; rfl
  have N0 := Fr.nil n0
  have KP0 : Keep h0 h0 [] := Keep.refl _ _
  refine ownFin (Q := own_ore_Q Z a f v h0 n0) ?_
  refine ownStep (fun _ k => castTop (own_ore_ef m a FP.dconst0) k) ?_
  show ownGo p.tables e below (s₁.setTop (mkF m 0 #[.val (.ref a), .val (.double FP.dconst0), .second] [])) _
  have Fp := hO.2.1
  refine ownStep (fun _ k => XS.aloadN X0.here hx rfl (hb hby own_ore_d0) rfl rfl k) ?_
  show ownGo p.tables e below (s₁.setTop (mkF m 1 #[.val (.ref a), .val (.double FP.dconst0), .second] [(.ref a)])) _
  obtain ⟨T1, X1, e1, st1⟩ := getF X0 hx hZ hown (host := "") (Or.inl (hw _ ow296)) Via.refl e0 Fp (g := (mkF m 1 #[.val (.ref a), .val (.double FP.dconst0), .second] [(.ref a)])) rfl rfl (hb hby own_ore_d1)
  refine ownStep st1 ?_
  show ownGo p.tables e below (T1.setTop (mkF m 4 #[.val (.ref a), .val (.double FP.dconst0), .second] [(.int f)])) _
  by_cases hc4 : f = (0 : Int32)
  · skip
    refine ownStep (fun _ k => XS.ifYes X1.here hx rfl (pc0 := 4) (pc' := 14) rfl (hb hby own_ore_d4) rfl ((if0 _ _).trans (teq (hc4 : f = (0 : Int32))).1) (by decide) (by decide) k) ?_
    refine ownStep (fun _ k => XS.dloadN X1.here hx rfl (hb hby own_ore_d14) rfl k) ?_
    show ownGo p.tables e below (T1.setTop (mkF m 15 #[.val (.ref a), .val (.double FP.dconst0), .second] [(.double FP.dconst0)])) _
    exact ownRet X1 (v := some (.double FP.dconst0)) Bd.notSynchronized (fun h => by rw [Bd.returns] at h; cases h) (fun _ hr => retOut X1 hx (t := .double) Bd.returns rfl (Or.inr (Or.inr (Or.inl ⟨rfl, rfl, _, rfl⟩))) (hb hby own_ore_d15) hr) (by rw [e1]; exact ⟨(by rw [if_pos hc4]), N0, rfl⟩) (by decide) (by decide)
  · skip
    refine ownStep (fun _ k => XS.ifNo X1.here hx rfl (hb hby own_ore_d4) rfl ((if0 _ _).trans (feq (hc4 : ¬ f = (0 : Int32))).1) k) ?_
    show ownGo p.tables e below (T1.setTop (mkF m 7 #[.val (.ref a), .val (.double FP.dconst0), .second] [])) _
    have Fv := hO.2.2 hc4
    refine ownStep (fun _ k => XS.aloadN X1.here hx rfl (hb hby own_ore_d7) rfl rfl k) ?_
    show ownGo p.tables e below (T1.setTop (mkF m 8 #[.val (.ref a), .val (.double FP.dconst0), .second] [(.ref a)])) _
    obtain ⟨T2, X2, e2, st2⟩ := getF X1 hx hZ hown (host := "") (Or.inl (hw _ ow363)) Via.refl e1 Fv (g := (mkF m 8 #[.val (.ref a), .val (.double FP.dconst0), .second] [(.ref a)])) rfl rfl (hb hby own_ore_d8)
    refine ownStep st2 ?_
    refine ownStep (fun _ k => XS.goto X2.here hx rfl (pc0 := 11) (pc' := 15) rfl (hb hby own_ore_d11) (by decide) (by decide) k) ?_
    show ownGo p.tables e below (T2.setTop (mkF m 15 #[.val (.ref a), .val (.double FP.dconst0), .second] [(.double v)])) _
    exact ownRet X2 (v := some (.double v)) Bd.notSynchronized (fun h => by rw [Bd.returns] at h; cases h) (fun _ hr => retOut X2 hx (t := .double) Bd.returns rfl (Or.inr (Or.inr (Or.inl ⟨rfl, rfl, _, rfl⟩))) (hb hby own_ore_d15) hr) (by rw [e2]; exact ⟨(by rw [if_neg hc4]), N0, rfl⟩) (by decide) (by decide)
theorem og0_d0 : decode prog_17_method_7_code 0 = .ok (.aload_n 0, 1) := by decide +kernel
theorem og0_d1 : decode prog_17_method_7_code 1 = .ok (.getfield 29, 3) := by decide +kernel
theorem og0_d4 : decode prog_17_method_7_code 4 = .ok (.areturn, 1) := by decide +kernel
theorem og0_pn : plainName "com/example/fixd/fixd/location/Location" = true := by first | (simp [plainName, overriddenIn]; done) | decide +kernel
theorem og0_ef (m : MethodId) (x0 : Addr) : entryFrame m #[(.ref x0)] 1 = mkF m 0 #[.val (.ref x0)] [] := by first | (simp [entryFrame, mkF, argsToLocals, Value.category]; done) | rfl
def og0_Q (Z : State) (a : Addr) (pv : Addr) (ti : Addr) (la : UInt64) (lo : UInt64) (sp : Addr) (be : Addr) (al : Addr) (ms : Addr) (ac : Addr) (sa : Addr) (h0 : Heap) (n0 : Nat) (vv_ : Option Value) (hh_ : Heap) (LL_ : List Loc) : Prop := vv_ = some (.ref pv) ∧ Fr n0 LL_ ∧ hh_ = h0
set_option maxRecDepth 65536 in
set_option maxHeartbeats 40000000 in
theorem og0 (l : Launch) (Z : State) (a0 : Array Value) (hw : ∀ d ∈ tables_1, d.before a0 Z = true) (ws : List Jvm.Cond) (a : Addr) (pv : Addr) (ti : Addr) (la : UInt64) (lo : UInt64) (sp : Addr) (be : Addr) (al : Addr) (ms : Addr) (ac : Addr) (sa : Addr) (h0 : Heap) (n0 : Nat) (Z0 : n0 ≤ h0.size) (hL : Llo Z h0 a pv ti la lo sp be al ms ac sa) :
    MetFree l (⟨"com/example/fixd/fixd/location/Location", "provider", "()Ljava/lang/String;"⟩ : MethodName) (head1 (Jvm.Cond.code (⟨"com/example/fixd/fixd/location/Location", "provider", "()Ljava/lang/String;"⟩ : MethodName) prog_17_method_7_code 1 (some (.object "java/lang/String")) :: ws) ({ frames := 0, cells := 0, slots := 0, locals := 0 } : Room)) (fun aa_ UU_ => aa_ = #[(.ref a)] ∧ Z.Warmed39 UU_.vm ∧ UU_.heap = h0) (fun _ _ _ _ _ => True) (fun _ UU_ oo_ UV_ => ∃ vv_ LL_, oo_ = .returned vv_ ∧ og0_Q Z a pv ti la lo sp be al ms ac sa h0 n0 vv_ UV_.heap LL_ ∧ FrameEnd UU_ oo_ UV_ LL_ ({ frames := 0, cells := 0, slots := 0, locals := 0 } : Room).cells ({ frames := 0, cells := 0, slots := 0, locals := 0 } : Room).slots) := by
  refine MetFree.of_bodySF (plainFor_of_name og0_pn) hisR ?_
  intro p e s m args below meth c s₁ Bd hml0 hP hK
  obtain ⟨rfl, hZ, hh⟩ := hP
  have hx := Bd.exec
  have hby := Bd.bytes
  have hml : c.maxLocals = 1 := hml0
  have hown : s.vm.findClass "com/example/fixd/fixd/location/Location" = some m.cls := findClass_of_methodNamed Bd.named
  have hnm := (name_of_methodNamed Bd.named Bd.method).1
  have X0 : Stand p l e ({ frames := 0, cells := 0, slots := 0, locals := 0 } : Room) s m #[(.ref a)] below meth c s₁ [] 0 0 := Stand.of_body Bd
  have e0 : s₁.heap = h0 := by rw [← hh, Bd.state]; rfl
  have N0 := Fr.nil n0
  have KP0 : Keep h0 h0 [] := Keep.refl _ _
  refine ownFin (Q := og0_Q Z a pv ti la lo sp be al ms ac sa h0 n0) ?_
  refine ownStep (fun _ k => castTop (og0_ef m a) k) ?_
  show ownGo p.tables e below (s₁.setTop (mkF m 0 #[.val (.ref a)] [])) _
  have hL_ := hL
  obtain ⟨hL_provider, hL_time, hL_latitude, hL_longitude, hL_speed, hL_bearing, hL_altitude, hL_mslAltitude, hL_accuracy, hL_satellites⟩ := hL_
  refine ownStep (fun _ k => XS.aloadN X0.here hx rfl (hb hby og0_d0) rfl rfl k) ?_
  show ownGo p.tables e below (s₁.setTop (mkF m 1 #[.val (.ref a)] [(.ref a)])) _
  obtain ⟨T1, X1, e1, st1⟩ := getF X0 hx hZ hown (host := "") (Or.inl (hw _ ow95)) Via.refl e0 hL_provider (g := (mkF m 1 #[.val (.ref a)] [(.ref a)])) rfl rfl (hb hby og0_d1)
  refine ownStep st1 ?_
  show ownGo p.tables e below (T1.setTop (mkF m 4 #[.val (.ref a)] [(.ref pv)])) _
  exact ownRet X1 (v := some (.ref pv)) Bd.notSynchronized (fun h => by rw [Bd.returns] at h; cases h) (fun _ hr => retOut X1 hx (t := (.object "java/lang/String")) Bd.returns rfl (Or.inr (Or.inr (Or.inr (Or.inr ⟨rfl, rfl, rfl⟩)))) (hb hby og0_d4) hr) (by rw [e1]; exact ⟨rfl, N0, rfl⟩) (by decide) (by decide)
theorem og1_d0 : decode prog_17_method_8_code 0 = .ok (.aload_n 0, 1) := by decide +kernel
theorem og1_d1 : decode prog_17_method_8_code 1 = .ok (.getfield 34, 3) := by decide +kernel
theorem og1_d4 : decode prog_17_method_8_code 4 = .ok (.areturn, 1) := by decide +kernel
theorem og1_pn : plainName "com/example/fixd/fixd/location/Location" = true := by first | (simp [plainName, overriddenIn]; done) | decide +kernel
theorem og1_ef (m : MethodId) (x0 : Addr) : entryFrame m #[(.ref x0)] 1 = mkF m 0 #[.val (.ref x0)] [] := by first | (simp [entryFrame, mkF, argsToLocals, Value.category]; done) | rfl
def og1_Q (Z : State) (a : Addr) (pv : Addr) (ti : Addr) (la : UInt64) (lo : UInt64) (sp : Addr) (be : Addr) (al : Addr) (ms : Addr) (ac : Addr) (sa : Addr) (h0 : Heap) (n0 : Nat) (vv_ : Option Value) (hh_ : Heap) (LL_ : List Loc) : Prop := vv_ = some (.ref ti) ∧ Fr n0 LL_ ∧ hh_ = h0
set_option maxRecDepth 65536 in
set_option maxHeartbeats 40000000 in
theorem og1 (l : Launch) (Z : State) (a0 : Array Value) (hw : ∀ d ∈ tables_1, d.before a0 Z = true) (ws : List Jvm.Cond) (a : Addr) (pv : Addr) (ti : Addr) (la : UInt64) (lo : UInt64) (sp : Addr) (be : Addr) (al : Addr) (ms : Addr) (ac : Addr) (sa : Addr) (h0 : Heap) (n0 : Nat) (Z0 : n0 ≤ h0.size) (hL : Llo Z h0 a pv ti la lo sp be al ms ac sa) :
    MetFree l (⟨"com/example/fixd/fixd/location/Location", "time", "()Ljava/time/Instant;"⟩ : MethodName) (head1 (Jvm.Cond.code (⟨"com/example/fixd/fixd/location/Location", "time", "()Ljava/time/Instant;"⟩ : MethodName) prog_17_method_8_code 1 (some (.object "java/time/Instant")) :: ws) ({ frames := 0, cells := 0, slots := 0, locals := 0 } : Room)) (fun aa_ UU_ => aa_ = #[(.ref a)] ∧ Z.Warmed39 UU_.vm ∧ UU_.heap = h0) (fun _ _ _ _ _ => True) (fun _ UU_ oo_ UV_ => ∃ vv_ LL_, oo_ = .returned vv_ ∧ og1_Q Z a pv ti la lo sp be al ms ac sa h0 n0 vv_ UV_.heap LL_ ∧ FrameEnd UU_ oo_ UV_ LL_ ({ frames := 0, cells := 0, slots := 0, locals := 0 } : Room).cells ({ frames := 0, cells := 0, slots := 0, locals := 0 } : Room).slots) := by
  refine MetFree.of_bodySF (plainFor_of_name og1_pn) hisR ?_
  intro p e s m args below meth c s₁ Bd hml0 hP hK
  obtain ⟨rfl, hZ, hh⟩ := hP
  have hx := Bd.exec
  have hby := Bd.bytes
  have hml : c.maxLocals = 1 := hml0
  have hown : s.vm.findClass "com/example/fixd/fixd/location/Location" = some m.cls := findClass_of_methodNamed Bd.named
  have hnm := (name_of_methodNamed Bd.named Bd.method).1
  have X0 : Stand p l e ({ frames := 0, cells := 0, slots := 0, locals := 0 } : Room) s m #[(.ref a)] below meth c s₁ [] 0 0 := Stand.of_body Bd
  have e0 : s₁.heap = h0 := by rw [← hh, Bd.state]; rfl
  have N0 := Fr.nil n0
  have KP0 : Keep h0 h0 [] := Keep.refl _ _
  refine ownFin (Q := og1_Q Z a pv ti la lo sp be al ms ac sa h0 n0) ?_
  refine ownStep (fun _ k => castTop (og1_ef m a) k) ?_
  show ownGo p.tables e below (s₁.setTop (mkF m 0 #[.val (.ref a)] [])) _
  have hL_ := hL
  obtain ⟨hL_provider, hL_time, hL_latitude, hL_longitude, hL_speed, hL_bearing, hL_altitude, hL_mslAltitude, hL_accuracy, hL_satellites⟩ := hL_
  refine ownStep (fun _ k => XS.aloadN X0.here hx rfl (hb hby og1_d0) rfl rfl k) ?_
  show ownGo p.tables e below (s₁.setTop (mkF m 1 #[.val (.ref a)] [(.ref a)])) _
  obtain ⟨T1, X1, e1, st1⟩ := getF X0 hx hZ hown (host := "") (Or.inl (hw _ ow97)) Via.refl e0 hL_time (g := (mkF m 1 #[.val (.ref a)] [(.ref a)])) rfl rfl (hb hby og1_d1)
  refine ownStep st1 ?_
  show ownGo p.tables e below (T1.setTop (mkF m 4 #[.val (.ref a)] [(.ref ti)])) _
  exact ownRet X1 (v := some (.ref ti)) Bd.notSynchronized (fun h => by rw [Bd.returns] at h; cases h) (fun _ hr => retOut X1 hx (t := (.object "java/time/Instant")) Bd.returns rfl (Or.inr (Or.inr (Or.inr (Or.inr ⟨rfl, rfl, rfl⟩)))) (hb hby og1_d4) hr) (by rw [e1]; exact ⟨rfl, N0, rfl⟩) (by decide) (by decide)
theorem og2_d0 : decode prog_17_method_9_code 0 = .ok (.aload_n 0, 1) := by decide +kernel
theorem og2_d1 : decode prog_17_method_9_code 1 = .ok (.getfield 37, 3) := by decide +kernel
theorem og2_d4 : decode prog_17_method_9_code 4 = .ok (.dreturn, 1) := by decide +kernel
theorem og2_pn : plainName "com/example/fixd/fixd/location/Location" = true := by first | (simp [plainName, overriddenIn]; done) | decide +kernel
theorem og2_ef (m : MethodId) (x0 : Addr) : entryFrame m #[(.ref x0)] 1 = mkF m 0 #[.val (.ref x0)] [] := by first | (simp [entryFrame, mkF, argsToLocals, Value.category]; done) | rfl
def og2_Q (Z : State) (a : Addr) (pv : Addr) (ti : Addr) (la : UInt64) (lo : UInt64) (sp : Addr) (be : Addr) (al : Addr) (ms : Addr) (ac : Addr) (sa : Addr) (h0 : Heap) (n0 : Nat) (vv_ : Option Value) (hh_ : Heap) (LL_ : List Loc) : Prop := vv_ = some (.double la) ∧ Fr n0 LL_ ∧ hh_ = h0
set_option maxRecDepth 65536 in
set_option maxHeartbeats 40000000 in
theorem og2 (l : Launch) (Z : State) (a0 : Array Value) (hw : ∀ d ∈ tables_1, d.before a0 Z = true) (ws : List Jvm.Cond) (a : Addr) (pv : Addr) (ti : Addr) (la : UInt64) (lo : UInt64) (sp : Addr) (be : Addr) (al : Addr) (ms : Addr) (ac : Addr) (sa : Addr) (h0 : Heap) (n0 : Nat) (Z0 : n0 ≤ h0.size) (hL : Llo Z h0 a pv ti la lo sp be al ms ac sa) :
    MetFree l (⟨"com/example/fixd/fixd/location/Location", "latitude", "()D"⟩ : MethodName) (head1 (Jvm.Cond.code (⟨"com/example/fixd/fixd/location/Location", "latitude", "()D"⟩ : MethodName) prog_17_method_9_code 1 (some .double) :: ws) ({ frames := 0, cells := 0, slots := 0, locals := 0 } : Room)) (fun aa_ UU_ => aa_ = #[(.ref a)] ∧ Z.Warmed39 UU_.vm ∧ UU_.heap = h0) (fun _ _ _ _ _ => True) (fun _ UU_ oo_ UV_ => ∃ vv_ LL_, oo_ = .returned vv_ ∧ og2_Q Z a pv ti la lo sp be al ms ac sa h0 n0 vv_ UV_.heap LL_ ∧ FrameEnd UU_ oo_ UV_ LL_ ({ frames := 0, cells := 0, slots := 0, locals := 0 } : Room).cells ({ frames := 0, cells := 0, slots := 0, locals := 0 } : Room).slots) := by
  refine MetFree.of_bodySF (plainFor_of_name og2_pn) hisR ?_
  intro p e s m args below meth c s₁ Bd hml0 hP hK
  obtain ⟨rfl, hZ, hh⟩ := hP
  have hx := Bd.exec
  have hby := Bd.bytes
  have hml : c.maxLocals = 1 := hml0
  have hown : s.vm.findClass "com/example/fixd/fixd/location/Location" = some m.cls := findClass_of_methodNamed Bd.named
  have hnm := (name_of_methodNamed Bd.named Bd.method).1
  have X0 : Stand p l e ({ frames := 0, cells := 0, slots := 0, locals := 0 } : Room) s m #[(.ref a)] below meth c s₁ [] 0 0 := Stand.of_body Bd
  have e0 : s₁.heap = h0 := by rw [← hh, Bd.state]; rfl
  have N0 := Fr.nil n0
  have KP0 : Keep h0 h0 [] := Keep.refl _ _
  refine ownFin (Q := og2_Q Z a pv ti la lo sp be al ms ac sa h0 n0) ?_
  refine ownStep (fun _ k => castTop (og2_ef m a) k) ?_
  show ownGo p.tables e below (s₁.setTop (mkF m 0 #[.val (.ref a)] [])) _
  have hL_ := hL
  obtain ⟨hL_provider, hL_time, hL_latitude, hL_longitude, hL_speed, hL_bearing, hL_altitude, hL_mslAltitude, hL_accuracy, hL_satellites⟩ := hL_
  refine ownStep (fun _ k => XS.aloadN X0.here hx rfl (hb hby og2_d0) rfl rfl k) ?_
  show ownGo p.tables e below (s₁.setTop (mkF m 1 #[.val (.ref a)] [(.ref a)])) _
  obtain ⟨T1, X1, e1, st1⟩ := getF X0 hx hZ hown (host := "") (Or.inl (hw _ ow99)) Via.refl e0 hL_latitude (g := (mkF m 1 #[.val (.ref a)] [(.ref a)])) rfl rfl (hb hby og2_d1)
  refine ownStep st1 ?_
  show ownGo p.tables e below (T1.setTop (mkF m 4 #[.val (.ref a)] [(.double la)])) _
  exact ownRet X1 (v := some (.double la)) Bd.notSynchronized (fun h => by rw [Bd.returns] at h; cases h) (fun _ hr => retOut X1 hx (t := .double) Bd.returns rfl (Or.inr (Or.inr (Or.inl ⟨rfl, rfl, _, rfl⟩))) (hb hby og2_d4) hr) (by rw [e1]; exact ⟨rfl, N0, rfl⟩) (by decide) (by decide)
theorem og3_d0 : decode prog_17_method_10_code 0 = .ok (.aload_n 0, 1) := by decide +kernel
theorem og3_d1 : decode prog_17_method_10_code 1 = .ok (.getfield 41, 3) := by decide +kernel
theorem og3_d4 : decode prog_17_method_10_code 4 = .ok (.dreturn, 1) := by decide +kernel
theorem og3_pn : plainName "com/example/fixd/fixd/location/Location" = true := by first | (simp [plainName, overriddenIn]; done) | decide +kernel
theorem og3_ef (m : MethodId) (x0 : Addr) : entryFrame m #[(.ref x0)] 1 = mkF m 0 #[.val (.ref x0)] [] := by first | (simp [entryFrame, mkF, argsToLocals, Value.category]; done) | rfl
def og3_Q (Z : State) (a : Addr) (pv : Addr) (ti : Addr) (la : UInt64) (lo : UInt64) (sp : Addr) (be : Addr) (al : Addr) (ms : Addr) (ac : Addr) (sa : Addr) (h0 : Heap) (n0 : Nat) (vv_ : Option Value) (hh_ : Heap) (LL_ : List Loc) : Prop := vv_ = some (.double lo) ∧ Fr n0 LL_ ∧ hh_ = h0
set_option maxRecDepth 65536 in
set_option maxHeartbeats 40000000 in
theorem og3 (l : Launch) (Z : State) (a0 : Array Value) (hw : ∀ d ∈ tables_1, d.before a0 Z = true) (ws : List Jvm.Cond) (a : Addr) (pv : Addr) (ti : Addr) (la : UInt64) (lo : UInt64) (sp : Addr) (be : Addr) (al : Addr) (ms : Addr) (ac : Addr) (sa : Addr) (h0 : Heap) (n0 : Nat) (Z0 : n0 ≤ h0.size) (hL : Llo Z h0 a pv ti la lo sp be al ms ac sa) :
    MetFree l (⟨"com/example/fixd/fixd/location/Location", "longitude", "()D"⟩ : MethodName) (head1 (Jvm.Cond.code (⟨"com/example/fixd/fixd/location/Location", "longitude", "()D"⟩ : MethodName) prog_17_method_10_code 1 (some .double) :: ws) ({ frames := 0, cells := 0, slots := 0, locals := 0 } : Room)) (fun aa_ UU_ => aa_ = #[(.ref a)] ∧ Z.Warmed39 UU_.vm ∧ UU_.heap = h0) (fun _ _ _ _ _ => True) (fun _ UU_ oo_ UV_ => ∃ vv_ LL_, oo_ = .returned vv_ ∧ og3_Q Z a pv ti la lo sp be al ms ac sa h0 n0 vv_ UV_.heap LL_ ∧ FrameEnd UU_ oo_ UV_ LL_ ({ frames := 0, cells := 0, slots := 0, locals := 0 } : Room).cells ({ frames := 0, cells := 0, slots := 0, locals := 0 } : Room).slots) := by
  refine MetFree.of_bodySF (plainFor_of_name og3_pn) hisR ?_
  intro p e s m args below meth c s₁ Bd hml0 hP hK
  obtain ⟨rfl, hZ, hh⟩ := hP
  have hx := Bd.exec
  have hby := Bd.bytes
  have hml : c.maxLocals = 1 := hml0
  have hown : s.vm.findClass "com/example/fixd/fixd/location/Location" = some m.cls := findClass_of_methodNamed Bd.named
  have hnm := (name_of_methodNamed Bd.named Bd.method).1
  have X0 : Stand p l e ({ frames := 0, cells := 0, slots := 0, locals := 0 } : Room) s m #[(.ref a)] below meth c s₁ [] 0 0 := Stand.of_body Bd
  have e0 : s₁.heap = h0 := by rw [← hh, Bd.state]; rfl
  have N0 := Fr.nil n0
  have KP0 : Keep h0 h0 [] := Keep.refl _ _
  refine ownFin (Q := og3_Q Z a pv ti la lo sp be al ms ac sa h0 n0) ?_
  refine ownStep (fun _ k => castTop (og3_ef m a) k) ?_
  show ownGo p.tables e below (s₁.setTop (mkF m 0 #[.val (.ref a)] [])) _
  have hL_ := hL
  obtain ⟨hL_provider, hL_time, hL_latitude, hL_longitude, hL_speed, hL_bearing, hL_altitude, hL_mslAltitude, hL_accuracy, hL_satellites⟩ := hL_
  refine ownStep (fun _ k => XS.aloadN X0.here hx rfl (hb hby og3_d0) rfl rfl k) ?_
  show ownGo p.tables e below (s₁.setTop (mkF m 1 #[.val (.ref a)] [(.ref a)])) _
  obtain ⟨T1, X1, e1, st1⟩ := getF X0 hx hZ hown (host := "") (Or.inl (hw _ ow101)) Via.refl e0 hL_longitude (g := (mkF m 1 #[.val (.ref a)] [(.ref a)])) rfl rfl (hb hby og3_d1)
  refine ownStep st1 ?_
  show ownGo p.tables e below (T1.setTop (mkF m 4 #[.val (.ref a)] [(.double lo)])) _
  exact ownRet X1 (v := some (.double lo)) Bd.notSynchronized (fun h => by rw [Bd.returns] at h; cases h) (fun _ hr => retOut X1 hx (t := .double) Bd.returns rfl (Or.inr (Or.inr (Or.inl ⟨rfl, rfl, _, rfl⟩))) (hb hby og3_d4) hr) (by rw [e1]; exact ⟨rfl, N0, rfl⟩) (by decide) (by decide)
theorem og4_d0 : decode prog_17_method_11_code 0 = .ok (.aload_n 0, 1) := by decide +kernel
theorem og4_d1 : decode prog_17_method_11_code 1 = .ok (.getfield 44, 3) := by decide +kernel
theorem og4_d4 : decode prog_17_method_11_code 4 = .ok (.areturn, 1) := by decide +kernel
theorem og4_pn : plainName "com/example/fixd/fixd/location/Location" = true := by first | (simp [plainName, overriddenIn]; done) | decide +kernel
theorem og4_ef (m : MethodId) (x0 : Addr) : entryFrame m #[(.ref x0)] 1 = mkF m 0 #[.val (.ref x0)] [] := by first | (simp [entryFrame, mkF, argsToLocals, Value.category]; done) | rfl
def og4_Q (Z : State) (a : Addr) (pv : Addr) (ti : Addr) (la : UInt64) (lo : UInt64) (sp : Addr) (be : Addr) (al : Addr) (ms : Addr) (ac : Addr) (sa : Addr) (h0 : Heap) (n0 : Nat) (vv_ : Option Value) (hh_ : Heap) (LL_ : List Loc) : Prop := vv_ = some (.ref sp) ∧ Fr n0 LL_ ∧ hh_ = h0
set_option maxRecDepth 65536 in
set_option maxHeartbeats 40000000 in
theorem og4 (l : Launch) (Z : State) (a0 : Array Value) (hw : ∀ d ∈ tables_1, d.before a0 Z = true) (ws : List Jvm.Cond) (a : Addr) (pv : Addr) (ti : Addr) (la : UInt64) (lo : UInt64) (sp : Addr) (be : Addr) (al : Addr) (ms : Addr) (ac : Addr) (sa : Addr) (h0 : Heap) (n0 : Nat) (Z0 : n0 ≤ h0.size) (hL : Llo Z h0 a pv ti la lo sp be al ms ac sa) :
    MetFree l (⟨"com/example/fixd/fixd/location/Location", "speed", "()Ljava/util/OptionalDouble;"⟩ : MethodName) (head1 (Jvm.Cond.code (⟨"com/example/fixd/fixd/location/Location", "speed", "()Ljava/util/OptionalDouble;"⟩ : MethodName) prog_17_method_11_code 1 (some (.object "java/util/OptionalDouble")) :: ws) ({ frames := 0, cells := 0, slots := 0, locals := 0 } : Room)) (fun aa_ UU_ => aa_ = #[(.ref a)] ∧ Z.Warmed39 UU_.vm ∧ UU_.heap = h0) (fun _ _ _ _ _ => True) (fun _ UU_ oo_ UV_ => ∃ vv_ LL_, oo_ = .returned vv_ ∧ og4_Q Z a pv ti la lo sp be al ms ac sa h0 n0 vv_ UV_.heap LL_ ∧ FrameEnd UU_ oo_ UV_ LL_ ({ frames := 0, cells := 0, slots := 0, locals := 0 } : Room).cells ({ frames := 0, cells := 0, slots := 0, locals := 0 } : Room).slots) := by
  refine MetFree.of_bodySF (plainFor_of_name og4_pn) hisR ?_
  intro p e s m args below meth c s₁ Bd hml0 hP hK
  obtain ⟨rfl, hZ, hh⟩ := hP
  have hx := Bd.exec
  have hby := Bd.bytes
  have hml : c.maxLocals = 1 := hml0
  have hown : s.vm.findClass "com/example/fixd/fixd/location/Location" = some m.cls := findClass_of_methodNamed Bd.named
  have hnm := (name_of_methodNamed Bd.named Bd.method).1
  have X0 : Stand p l e ({ frames := 0, cells := 0, slots := 0, locals := 0 } : Room) s m #[(.ref a)] below meth c s₁ [] 0 0 := Stand.of_body Bd
  have e0 : s₁.heap = h0 := by rw [← hh, Bd.state]; rfl
  have N0 := Fr.nil n0
  have KP0 : Keep h0 h0 [] := Keep.refl _ _
  refine ownFin (Q := og4_Q Z a pv ti la lo sp be al ms ac sa h0 n0) ?_
  refine ownStep (fun _ k => castTop (og4_ef m a) k) ?_
  show ownGo p.tables e below (s₁.setTop (mkF m 0 #[.val (.ref a)] [])) _
  have hL_ := hL
  obtain ⟨hL_provider, hL_time, hL_latitude, hL_longitude, hL_speed, hL_bearing, hL_altitude, hL_mslAltitude, hL_accuracy, hL_satellites⟩ := hL_
  refine ownStep (fun _ k => XS.aloadN X0.here hx rfl (hb hby og4_d0) rfl rfl k) ?_
  show ownGo p.tables e below (s₁.setTop (mkF m 1 #[.val (.ref a)] [(.ref a)])) _
  obtain ⟨T1, X1, e1, st1⟩ := getF X0 hx hZ hown (host := "") (Or.inl (hw _ ow103)) Via.refl e0 hL_speed (g := (mkF m 1 #[.val (.ref a)] [(.ref a)])) rfl rfl (hb hby og4_d1)
  refine ownStep st1 ?_
  show ownGo p.tables e below (T1.setTop (mkF m 4 #[.val (.ref a)] [(.ref sp)])) _
  exact ownRet X1 (v := some (.ref sp)) Bd.notSynchronized (fun h => by rw [Bd.returns] at h; cases h) (fun _ hr => retOut X1 hx (t := (.object "java/util/OptionalDouble")) Bd.returns rfl (Or.inr (Or.inr (Or.inr (Or.inr ⟨rfl, rfl, rfl⟩)))) (hb hby og4_d4) hr) (by rw [e1]; exact ⟨rfl, N0, rfl⟩) (by decide) (by decide)
theorem og5_d0 : decode prog_17_method_12_code 0 = .ok (.aload_n 0, 1) := by decide +kernel
theorem og5_d1 : decode prog_17_method_12_code 1 = .ok (.getfield 47, 3) := by decide +kernel
theorem og5_d4 : decode prog_17_method_12_code 4 = .ok (.areturn, 1) := by decide +kernel
theorem og5_pn : plainName "com/example/fixd/fixd/location/Location" = true := by first | (simp [plainName, overriddenIn]; done) | decide +kernel
theorem og5_ef (m : MethodId) (x0 : Addr) : entryFrame m #[(.ref x0)] 1 = mkF m 0 #[.val (.ref x0)] [] := by first | (simp [entryFrame, mkF, argsToLocals, Value.category]; done) | rfl
def og5_Q (Z : State) (a : Addr) (pv : Addr) (ti : Addr) (la : UInt64) (lo : UInt64) (sp : Addr) (be : Addr) (al : Addr) (ms : Addr) (ac : Addr) (sa : Addr) (h0 : Heap) (n0 : Nat) (vv_ : Option Value) (hh_ : Heap) (LL_ : List Loc) : Prop := vv_ = some (.ref be) ∧ Fr n0 LL_ ∧ hh_ = h0
set_option maxRecDepth 65536 in
set_option maxHeartbeats 40000000 in
theorem og5 (l : Launch) (Z : State) (a0 : Array Value) (hw : ∀ d ∈ tables_1, d.before a0 Z = true) (ws : List Jvm.Cond) (a : Addr) (pv : Addr) (ti : Addr) (la : UInt64) (lo : UInt64) (sp : Addr) (be : Addr) (al : Addr) (ms : Addr) (ac : Addr) (sa : Addr) (h0 : Heap) (n0 : Nat) (Z0 : n0 ≤ h0.size) (hL : Llo Z h0 a pv ti la lo sp be al ms ac sa) :
    MetFree l (⟨"com/example/fixd/fixd/location/Location", "bearing", "()Ljava/util/OptionalDouble;"⟩ : MethodName) (head1 (Jvm.Cond.code (⟨"com/example/fixd/fixd/location/Location", "bearing", "()Ljava/util/OptionalDouble;"⟩ : MethodName) prog_17_method_12_code 1 (some (.object "java/util/OptionalDouble")) :: ws) ({ frames := 0, cells := 0, slots := 0, locals := 0 } : Room)) (fun aa_ UU_ => aa_ = #[(.ref a)] ∧ Z.Warmed39 UU_.vm ∧ UU_.heap = h0) (fun _ _ _ _ _ => True) (fun _ UU_ oo_ UV_ => ∃ vv_ LL_, oo_ = .returned vv_ ∧ og5_Q Z a pv ti la lo sp be al ms ac sa h0 n0 vv_ UV_.heap LL_ ∧ FrameEnd UU_ oo_ UV_ LL_ ({ frames := 0, cells := 0, slots := 0, locals := 0 } : Room).cells ({ frames := 0, cells := 0, slots := 0, locals := 0 } : Room).slots) := by
  refine MetFree.of_bodySF (plainFor_of_name og5_pn) hisR ?_
  intro p e s m args below meth c s₁ Bd hml0 hP hK
  obtain ⟨rfl, hZ, hh⟩ := hP
  have hx := Bd.exec
  have hby := Bd.bytes
  have hml : c.maxLocals = 1 := hml0
  have hown : s.vm.findClass "com/example/fixd/fixd/location/Location" = some m.cls := findClass_of_methodNamed Bd.named
  have hnm := (name_of_methodNamed Bd.named Bd.method).1
  have X0 : Stand p l e ({ frames := 0, cells := 0, slots := 0, locals := 0 } : Room) s m #[(.ref a)] below meth c s₁ [] 0 0 := Stand.of_body Bd
  have e0 : s₁.heap = h0 := by rw [← hh, Bd.state]; rfl
  have N0 := Fr.nil n0
  have KP0 : Keep h0 h0 [] := Keep.refl _ _
  refine ownFin (Q := og5_Q Z a pv ti la lo sp be al ms ac sa h0 n0) ?_
  refine ownStep (fun _ k => castTop (og5_ef m a) k) ?_
  show ownGo p.tables e below (s₁.setTop (mkF m 0 #[.val (.ref a)] [])) _
  have hL_ := hL
  obtain ⟨hL_provider, hL_time, hL_latitude, hL_longitude, hL_speed, hL_bearing, hL_altitude, hL_mslAltitude, hL_accuracy, hL_satellites⟩ := hL_
  refine ownStep (fun _ k => XS.aloadN X0.here hx rfl (hb hby og5_d0) rfl rfl k) ?_
  show ownGo p.tables e below (s₁.setTop (mkF m 1 #[.val (.ref a)] [(.ref a)])) _
  obtain ⟨T1, X1, e1, st1⟩ := getF X0 hx hZ hown (host := "") (Or.inl (hw _ ow105)) Via.refl e0 hL_bearing (g := (mkF m 1 #[.val (.ref a)] [(.ref a)])) rfl rfl (hb hby og5_d1)
  refine ownStep st1 ?_
  show ownGo p.tables e below (T1.setTop (mkF m 4 #[.val (.ref a)] [(.ref be)])) _
  exact ownRet X1 (v := some (.ref be)) Bd.notSynchronized (fun h => by rw [Bd.returns] at h; cases h) (fun _ hr => retOut X1 hx (t := (.object "java/util/OptionalDouble")) Bd.returns rfl (Or.inr (Or.inr (Or.inr (Or.inr ⟨rfl, rfl, rfl⟩)))) (hb hby og5_d4) hr) (by rw [e1]; exact ⟨rfl, N0, rfl⟩) (by decide) (by decide)
theorem og6_d0 : decode prog_17_method_13_code 0 = .ok (.aload_n 0, 1) := by decide +kernel
theorem og6_d1 : decode prog_17_method_13_code 1 = .ok (.getfield 49, 3) := by decide +kernel
theorem og6_d4 : decode prog_17_method_13_code 4 = .ok (.areturn, 1) := by decide +kernel
theorem og6_pn : plainName "com/example/fixd/fixd/location/Location" = true := by first | (simp [plainName, overriddenIn]; done) | decide +kernel
theorem og6_ef (m : MethodId) (x0 : Addr) : entryFrame m #[(.ref x0)] 1 = mkF m 0 #[.val (.ref x0)] [] := by first | (simp [entryFrame, mkF, argsToLocals, Value.category]; done) | rfl
def og6_Q (Z : State) (a : Addr) (pv : Addr) (ti : Addr) (la : UInt64) (lo : UInt64) (sp : Addr) (be : Addr) (al : Addr) (ms : Addr) (ac : Addr) (sa : Addr) (h0 : Heap) (n0 : Nat) (vv_ : Option Value) (hh_ : Heap) (LL_ : List Loc) : Prop := vv_ = some (.ref al) ∧ Fr n0 LL_ ∧ hh_ = h0
set_option maxRecDepth 65536 in
set_option maxHeartbeats 40000000 in
theorem og6 (l : Launch) (Z : State) (a0 : Array Value) (hw : ∀ d ∈ tables_1, d.before a0 Z = true) (ws : List Jvm.Cond) (a : Addr) (pv : Addr) (ti : Addr) (la : UInt64) (lo : UInt64) (sp : Addr) (be : Addr) (al : Addr) (ms : Addr) (ac : Addr) (sa : Addr) (h0 : Heap) (n0 : Nat) (Z0 : n0 ≤ h0.size) (hL : Llo Z h0 a pv ti la lo sp be al ms ac sa) :
    MetFree l (⟨"com/example/fixd/fixd/location/Location", "altitude", "()Ljava/util/OptionalDouble;"⟩ : MethodName) (head1 (Jvm.Cond.code (⟨"com/example/fixd/fixd/location/Location", "altitude", "()Ljava/util/OptionalDouble;"⟩ : MethodName) prog_17_method_13_code 1 (some (.object "java/util/OptionalDouble")) :: ws) ({ frames := 0, cells := 0, slots := 0, locals := 0 } : Room)) (fun aa_ UU_ => aa_ = #[(.ref a)] ∧ Z.Warmed39 UU_.vm ∧ UU_.heap = h0) (fun _ _ _ _ _ => True) (fun _ UU_ oo_ UV_ => ∃ vv_ LL_, oo_ = .returned vv_ ∧ og6_Q Z a pv ti la lo sp be al ms ac sa h0 n0 vv_ UV_.heap LL_ ∧ FrameEnd UU_ oo_ UV_ LL_ ({ frames := 0, cells := 0, slots := 0, locals := 0 } : Room).cells ({ frames := 0, cells := 0, slots := 0, locals := 0 } : Room).slots) := by
  refine MetFree.of_bodySF (plainFor_of_name og6_pn) hisR ?_
  intro p e s m args below meth c s₁ Bd hml0 hP hK
  obtain ⟨rfl, hZ, hh⟩ := hP
  have hx := Bd.exec
  have hby := Bd.bytes
  have hml : c.maxLocals = 1 := hml0
  have hown : s.vm.findClass "com/example/fixd/fixd/location/Location" = some m.cls := findClass_of_methodNamed Bd.named
  have hnm := (name_of_methodNamed Bd.named Bd.method).1
  have X0 : Stand p l e ({ frames := 0, cells := 0, slots := 0, locals := 0 } : Room) s m #[(.ref a)] below meth c s₁ [] 0 0 := Stand.of_body Bd
  have e0 : s₁.heap = h0 := by rw [← hh, Bd.state]; rfl
  have N0 := Fr.nil n0
  have KP0 : Keep h0 h0 [] := Keep.refl _ _
  refine ownFin (Q := og6_Q Z a pv ti la lo sp be al ms ac sa h0 n0) ?_
  refine ownStep (fun _ k => castTop (og6_ef m a) k) ?_
  show ownGo p.tables e below (s₁.setTop (mkF m 0 #[.val (.ref a)] [])) _
  have hL_ := hL
  obtain ⟨hL_provider, hL_time, hL_latitude, hL_longitude, hL_speed, hL_bearing, hL_altitude, hL_mslAltitude, hL_accuracy, hL_satellites⟩ := hL_
  refine ownStep (fun _ k => XS.aloadN X0.here hx rfl (hb hby og6_d0) rfl rfl k) ?_
  show ownGo p.tables e below (s₁.setTop (mkF m 1 #[.val (.ref a)] [(.ref a)])) _
  obtain ⟨T1, X1, e1, st1⟩ := getF X0 hx hZ hown (host := "") (Or.inl (hw _ ow107)) Via.refl e0 hL_altitude (g := (mkF m 1 #[.val (.ref a)] [(.ref a)])) rfl rfl (hb hby og6_d1)
  refine ownStep st1 ?_
  show ownGo p.tables e below (T1.setTop (mkF m 4 #[.val (.ref a)] [(.ref al)])) _
  exact ownRet X1 (v := some (.ref al)) Bd.notSynchronized (fun h => by rw [Bd.returns] at h; cases h) (fun _ hr => retOut X1 hx (t := (.object "java/util/OptionalDouble")) Bd.returns rfl (Or.inr (Or.inr (Or.inr (Or.inr ⟨rfl, rfl, rfl⟩)))) (hb hby og6_d4) hr) (by rw [e1]; exact ⟨rfl, N0, rfl⟩) (by decide) (by decide)
theorem og7_d0 : decode prog_17_method_14_code 0 = .ok (.aload_n 0, 1) := by decide +kernel
theorem og7_d1 : decode prog_17_method_14_code 1 = .ok (.getfield 51, 3) := by decide +kernel
theorem og7_d4 : decode prog_17_method_14_code 4 = .ok (.areturn, 1) := by decide +kernel
theorem og7_pn : plainName "com/example/fixd/fixd/location/Location" = true := by first | (simp [plainName, overriddenIn]; done) | decide +kernel
theorem og7_ef (m : MethodId) (x0 : Addr) : entryFrame m #[(.ref x0)] 1 = mkF m 0 #[.val (.ref x0)] [] := by first | (simp [entryFrame, mkF, argsToLocals, Value.category]; done) | rfl
def og7_Q (Z : State) (a : Addr) (pv : Addr) (ti : Addr) (la : UInt64) (lo : UInt64) (sp : Addr) (be : Addr) (al : Addr) (ms : Addr) (ac : Addr) (sa : Addr) (h0 : Heap) (n0 : Nat) (vv_ : Option Value) (hh_ : Heap) (LL_ : List Loc) : Prop := vv_ = some (.ref ms) ∧ Fr n0 LL_ ∧ hh_ = h0
set_option maxRecDepth 65536 in
set_option maxHeartbeats 40000000 in
theorem og7 (l : Launch) (Z : State) (a0 : Array Value) (hw : ∀ d ∈ tables_1, d.before a0 Z = true) (ws : List Jvm.Cond) (a : Addr) (pv : Addr) (ti : Addr) (la : UInt64) (lo : UInt64) (sp : Addr) (be : Addr) (al : Addr) (ms : Addr) (ac : Addr) (sa : Addr) (h0 : Heap) (n0 : Nat) (Z0 : n0 ≤ h0.size) (hL : Llo Z h0 a pv ti la lo sp be al ms ac sa) :
    MetFree l (⟨"com/example/fixd/fixd/location/Location", "mslAltitude", "()Ljava/util/OptionalDouble;"⟩ : MethodName) (head1 (Jvm.Cond.code (⟨"com/example/fixd/fixd/location/Location", "mslAltitude", "()Ljava/util/OptionalDouble;"⟩ : MethodName) prog_17_method_14_code 1 (some (.object "java/util/OptionalDouble")) :: ws) ({ frames := 0, cells := 0, slots := 0, locals := 0 } : Room)) (fun aa_ UU_ => aa_ = #[(.ref a)] ∧ Z.Warmed39 UU_.vm ∧ UU_.heap = h0) (fun _ _ _ _ _ => True) (fun _ UU_ oo_ UV_ => ∃ vv_ LL_, oo_ = .returned vv_ ∧ og7_Q Z a pv ti la lo sp be al ms ac sa h0 n0 vv_ UV_.heap LL_ ∧ FrameEnd UU_ oo_ UV_ LL_ ({ frames := 0, cells := 0, slots := 0, locals := 0 } : Room).cells ({ frames := 0, cells := 0, slots := 0, locals := 0 } : Room).slots) := by
  refine MetFree.of_bodySF (plainFor_of_name og7_pn) hisR ?_
  intro p e s m args below meth c s₁ Bd hml0 hP hK
  obtain ⟨rfl, hZ, hh⟩ := hP
  have hx := Bd.exec
  have hby := Bd.bytes
  have hml : c.maxLocals = 1 := hml0
  have hown : s.vm.findClass "com/example/fixd/fixd/location/Location" = some m.cls := findClass_of_methodNamed Bd.named
  have hnm := (name_of_methodNamed Bd.named Bd.method).1
  have X0 : Stand p l e ({ frames := 0, cells := 0, slots := 0, locals := 0 } : Room) s m #[(.ref a)] below meth c s₁ [] 0 0 := Stand.of_body Bd
  have e0 : s₁.heap = h0 := by rw [← hh, Bd.state]; rfl
  have N0 := Fr.nil n0
  have KP0 : Keep h0 h0 [] := Keep.refl _ _
  refine ownFin (Q := og7_Q Z a pv ti la lo sp be al ms ac sa h0 n0) ?_
  refine ownStep (fun _ k => castTop (og7_ef m a) k) ?_
  show ownGo p.tables e below (s₁.setTop (mkF m 0 #[.val (.ref a)] [])) _
  have hL_ := hL
  obtain ⟨hL_provider, hL_time, hL_latitude, hL_longitude, hL_speed, hL_bearing, hL_altitude, hL_mslAltitude, hL_accuracy, hL_satellites⟩ := hL_
  refine ownStep (fun _ k => XS.aloadN X0.here hx rfl (hb hby og7_d0) rfl rfl k) ?_
  show ownGo p.tables e below (s₁.setTop (mkF m 1 #[.val (.ref a)] [(.ref a)])) _
  obtain ⟨T1, X1, e1, st1⟩ := getF X0 hx hZ hown (host := "") (Or.inl (hw _ ow109)) Via.refl e0 hL_mslAltitude (g := (mkF m 1 #[.val (.ref a)] [(.ref a)])) rfl rfl (hb hby og7_d1)
  refine ownStep st1 ?_
  show ownGo p.tables e below (T1.setTop (mkF m 4 #[.val (.ref a)] [(.ref ms)])) _
  exact ownRet X1 (v := some (.ref ms)) Bd.notSynchronized (fun h => by rw [Bd.returns] at h; cases h) (fun _ hr => retOut X1 hx (t := (.object "java/util/OptionalDouble")) Bd.returns rfl (Or.inr (Or.inr (Or.inr (Or.inr ⟨rfl, rfl, rfl⟩)))) (hb hby og7_d4) hr) (by rw [e1]; exact ⟨rfl, N0, rfl⟩) (by decide) (by decide)
theorem og8_d0 : decode prog_17_method_15_code 0 = .ok (.aload_n 0, 1) := by decide +kernel
theorem og8_d1 : decode prog_17_method_15_code 1 = .ok (.getfield 53, 3) := by decide +kernel
theorem og8_d4 : decode prog_17_method_15_code 4 = .ok (.areturn, 1) := by decide +kernel
theorem og8_pn : plainName "com/example/fixd/fixd/location/Location" = true := by first | (simp [plainName, overriddenIn]; done) | decide +kernel
theorem og8_ef (m : MethodId) (x0 : Addr) : entryFrame m #[(.ref x0)] 1 = mkF m 0 #[.val (.ref x0)] [] := by first | (simp [entryFrame, mkF, argsToLocals, Value.category]; done) | rfl
def og8_Q (Z : State) (a : Addr) (pv : Addr) (ti : Addr) (la : UInt64) (lo : UInt64) (sp : Addr) (be : Addr) (al : Addr) (ms : Addr) (ac : Addr) (sa : Addr) (h0 : Heap) (n0 : Nat) (vv_ : Option Value) (hh_ : Heap) (LL_ : List Loc) : Prop := vv_ = some (.ref ac) ∧ Fr n0 LL_ ∧ hh_ = h0
set_option maxRecDepth 65536 in
set_option maxHeartbeats 40000000 in
theorem og8 (l : Launch) (Z : State) (a0 : Array Value) (hw : ∀ d ∈ tables_1, d.before a0 Z = true) (ws : List Jvm.Cond) (a : Addr) (pv : Addr) (ti : Addr) (la : UInt64) (lo : UInt64) (sp : Addr) (be : Addr) (al : Addr) (ms : Addr) (ac : Addr) (sa : Addr) (h0 : Heap) (n0 : Nat) (Z0 : n0 ≤ h0.size) (hL : Llo Z h0 a pv ti la lo sp be al ms ac sa) :
    MetFree l (⟨"com/example/fixd/fixd/location/Location", "accuracy", "()Ljava/util/OptionalDouble;"⟩ : MethodName) (head1 (Jvm.Cond.code (⟨"com/example/fixd/fixd/location/Location", "accuracy", "()Ljava/util/OptionalDouble;"⟩ : MethodName) prog_17_method_15_code 1 (some (.object "java/util/OptionalDouble")) :: ws) ({ frames := 0, cells := 0, slots := 0, locals := 0 } : Room)) (fun aa_ UU_ => aa_ = #[(.ref a)] ∧ Z.Warmed39 UU_.vm ∧ UU_.heap = h0) (fun _ _ _ _ _ => True) (fun _ UU_ oo_ UV_ => ∃ vv_ LL_, oo_ = .returned vv_ ∧ og8_Q Z a pv ti la lo sp be al ms ac sa h0 n0 vv_ UV_.heap LL_ ∧ FrameEnd UU_ oo_ UV_ LL_ ({ frames := 0, cells := 0, slots := 0, locals := 0 } : Room).cells ({ frames := 0, cells := 0, slots := 0, locals := 0 } : Room).slots) := by
  refine MetFree.of_bodySF (plainFor_of_name og8_pn) hisR ?_
  intro p e s m args below meth c s₁ Bd hml0 hP hK
  obtain ⟨rfl, hZ, hh⟩ := hP
  have hx := Bd.exec
  have hby := Bd.bytes
  have hml : c.maxLocals = 1 := hml0
  have hown : s.vm.findClass "com/example/fixd/fixd/location/Location" = some m.cls := findClass_of_methodNamed Bd.named
  have hnm := (name_of_methodNamed Bd.named Bd.method).1
  have X0 : Stand p l e ({ frames := 0, cells := 0, slots := 0, locals := 0 } : Room) s m #[(.ref a)] below meth c s₁ [] 0 0 := Stand.of_body Bd
  have e0 : s₁.heap = h0 := by rw [← hh, Bd.state]; rfl
  have N0 := Fr.nil n0
  have KP0 : Keep h0 h0 [] := Keep.refl _ _
  refine ownFin (Q := og8_Q Z a pv ti la lo sp be al ms ac sa h0 n0) ?_
  refine ownStep (fun _ k => castTop (og8_ef m a) k) ?_
  show ownGo p.tables e below (s₁.setTop (mkF m 0 #[.val (.ref a)] [])) _
  have hL_ := hL
  obtain ⟨hL_provider, hL_time, hL_latitude, hL_longitude, hL_speed, hL_bearing, hL_altitude, hL_mslAltitude, hL_accuracy, hL_satellites⟩ := hL_
  refine ownStep (fun _ k => XS.aloadN X0.here hx rfl (hb hby og8_d0) rfl rfl k) ?_
  show ownGo p.tables e below (s₁.setTop (mkF m 1 #[.val (.ref a)] [(.ref a)])) _
  obtain ⟨T1, X1, e1, st1⟩ := getF X0 hx hZ hown (host := "") (Or.inl (hw _ ow111)) Via.refl e0 hL_accuracy (g := (mkF m 1 #[.val (.ref a)] [(.ref a)])) rfl rfl (hb hby og8_d1)
  refine ownStep st1 ?_
  show ownGo p.tables e below (T1.setTop (mkF m 4 #[.val (.ref a)] [(.ref ac)])) _
  exact ownRet X1 (v := some (.ref ac)) Bd.notSynchronized (fun h => by rw [Bd.returns] at h; cases h) (fun _ hr => retOut X1 hx (t := (.object "java/util/OptionalDouble")) Bd.returns rfl (Or.inr (Or.inr (Or.inr (Or.inr ⟨rfl, rfl, rfl⟩)))) (hb hby og8_d4) hr) (by rw [e1]; exact ⟨rfl, N0, rfl⟩) (by decide) (by decide)
theorem og9_d0 : decode prog_17_method_16_code 0 = .ok (.aload_n 0, 1) := by decide +kernel
theorem og9_d1 : decode prog_17_method_16_code 1 = .ok (.getfield 55, 3) := by decide +kernel
theorem og9_d4 : decode prog_17_method_16_code 4 = .ok (.areturn, 1) := by decide +kernel
theorem og9_pn : plainName "com/example/fixd/fixd/location/Location" = true := by first | (simp [plainName, overriddenIn]; done) | decide +kernel
theorem og9_ef (m : MethodId) (x0 : Addr) : entryFrame m #[(.ref x0)] 1 = mkF m 0 #[.val (.ref x0)] [] := by first | (simp [entryFrame, mkF, argsToLocals, Value.category]; done) | rfl
def og9_Q (Z : State) (a : Addr) (pv : Addr) (ti : Addr) (la : UInt64) (lo : UInt64) (sp : Addr) (be : Addr) (al : Addr) (ms : Addr) (ac : Addr) (sa : Addr) (h0 : Heap) (n0 : Nat) (vv_ : Option Value) (hh_ : Heap) (LL_ : List Loc) : Prop := vv_ = some (.ref sa) ∧ Fr n0 LL_ ∧ hh_ = h0
set_option maxRecDepth 65536 in
set_option maxHeartbeats 40000000 in
theorem og9 (l : Launch) (Z : State) (a0 : Array Value) (hw : ∀ d ∈ tables_1, d.before a0 Z = true) (ws : List Jvm.Cond) (a : Addr) (pv : Addr) (ti : Addr) (la : UInt64) (lo : UInt64) (sp : Addr) (be : Addr) (al : Addr) (ms : Addr) (ac : Addr) (sa : Addr) (h0 : Heap) (n0 : Nat) (Z0 : n0 ≤ h0.size) (hL : Llo Z h0 a pv ti la lo sp be al ms ac sa) :
    MetFree l (⟨"com/example/fixd/fixd/location/Location", "satellites", "()Ljava/util/OptionalInt;"⟩ : MethodName) (head1 (Jvm.Cond.code (⟨"com/example/fixd/fixd/location/Location", "satellites", "()Ljava/util/OptionalInt;"⟩ : MethodName) prog_17_method_16_code 1 (some (.object "java/util/OptionalInt")) :: ws) ({ frames := 0, cells := 0, slots := 0, locals := 0 } : Room)) (fun aa_ UU_ => aa_ = #[(.ref a)] ∧ Z.Warmed39 UU_.vm ∧ UU_.heap = h0) (fun _ _ _ _ _ => True) (fun _ UU_ oo_ UV_ => ∃ vv_ LL_, oo_ = .returned vv_ ∧ og9_Q Z a pv ti la lo sp be al ms ac sa h0 n0 vv_ UV_.heap LL_ ∧ FrameEnd UU_ oo_ UV_ LL_ ({ frames := 0, cells := 0, slots := 0, locals := 0 } : Room).cells ({ frames := 0, cells := 0, slots := 0, locals := 0 } : Room).slots) := by
  refine MetFree.of_bodySF (plainFor_of_name og9_pn) hisR ?_
  intro p e s m args below meth c s₁ Bd hml0 hP hK
  obtain ⟨rfl, hZ, hh⟩ := hP
  have hx := Bd.exec
  have hby := Bd.bytes
  have hml : c.maxLocals = 1 := hml0
  have hown : s.vm.findClass "com/example/fixd/fixd/location/Location" = some m.cls := findClass_of_methodNamed Bd.named
  have hnm := (name_of_methodNamed Bd.named Bd.method).1
  have X0 : Stand p l e ({ frames := 0, cells := 0, slots := 0, locals := 0 } : Room) s m #[(.ref a)] below meth c s₁ [] 0 0 := Stand.of_body Bd
  have e0 : s₁.heap = h0 := by rw [← hh, Bd.state]; rfl
  have N0 := Fr.nil n0
  have KP0 : Keep h0 h0 [] := Keep.refl _ _
  refine ownFin (Q := og9_Q Z a pv ti la lo sp be al ms ac sa h0 n0) ?_
  refine ownStep (fun _ k => castTop (og9_ef m a) k) ?_
  show ownGo p.tables e below (s₁.setTop (mkF m 0 #[.val (.ref a)] [])) _
  have hL_ := hL
  obtain ⟨hL_provider, hL_time, hL_latitude, hL_longitude, hL_speed, hL_bearing, hL_altitude, hL_mslAltitude, hL_accuracy, hL_satellites⟩ := hL_
  refine ownStep (fun _ k => XS.aloadN X0.here hx rfl (hb hby og9_d0) rfl rfl k) ?_
  show ownGo p.tables e below (s₁.setTop (mkF m 1 #[.val (.ref a)] [(.ref a)])) _
  obtain ⟨T1, X1, e1, st1⟩ := getF X0 hx hZ hown (host := "") (Or.inl (hw _ ow113)) Via.refl e0 hL_satellites (g := (mkF m 1 #[.val (.ref a)] [(.ref a)])) rfl rfl (hb hby og9_d1)
  refine ownStep st1 ?_
  show ownGo p.tables e below (T1.setTop (mkF m 4 #[.val (.ref a)] [(.ref sa)])) _
  exact ownRet X1 (v := some (.ref sa)) Bd.notSynchronized (fun h => by rw [Bd.returns] at h; cases h) (fun _ hr => retOut X1 hx (t := (.object "java/util/OptionalInt")) Bd.returns rfl (Or.inr (Or.inr (Or.inr (Or.inr ⟨rfl, rfl, rfl⟩)))) (hb hby og9_d4) hr) (by rw [e1]; exact ⟨rfl, N0, rfl⟩) (by decide) (by decide)
theorem own_ll_d0 : decode prog_17_method_1_code 0 = .ok (.aload_n 0, 1) := by decide +kernel
theorem own_ll_d1 : decode prog_17_method_1_code 1 = .ok (.invokespecial 1, 3) := by decide +kernel
theorem own_ll_d4 : decode prog_17_method_1_code 4 = .ok (.aload_n 1, 1) := by decide +kernel
theorem own_ll_d5 : decode prog_17_method_1_code 5 = .ok (.ldc 7, 2) := by decide +kernel
theorem own_ll_d7 : decode prog_17_method_1_code 7 = .ok (.invokestatic 9, 3) := by decide +kernel
theorem own_ll_d10 : decode prog_17_method_1_code 10 = .ok (.pop, 1) := by decide +kernel
theorem own_ll_d11 : decode prog_17_method_1_code 11 = .ok (.aload_n 2, 1) := by decide +kernel
theorem own_ll_d12 : decode prog_17_method_1_code 12 = .ok (.ldc 15, 2) := by decide +kernel
theorem own_ll_d14 : decode prog_17_method_1_code 14 = .ok (.invokestatic 9, 3) := by decide +kernel
theorem own_ll_d17 : decode prog_17_method_1_code 17 = .ok (.pop, 1) := by decide +kernel
theorem own_ll_d18 : decode prog_17_method_1_code 18 = .ok (.aload 7, 2) := by decide +kernel
theorem own_ll_d20 : decode prog_17_method_1_code 20 = .ok (.ldc 17, 2) := by decide +kernel
theorem own_ll_d22 : decode prog_17_method_1_code 22 = .ok (.invokestatic 9, 3) := by decide +kernel
theorem own_ll_d25 : decode prog_17_method_1_code 25 = .ok (.pop, 1) := by decide +kernel
theorem own_ll_d26 : decode prog_17_method_1_code 26 = .ok (.aload 8, 2) := by decide +kernel
theorem own_ll_d28 : decode prog_17_method_1_code 28 = .ok (.ldc 19, 2) := by decide +kernel
theorem own_ll_d30 : decode prog_17_method_1_code 30 = .ok (.invokestatic 9, 3) := by decide +kernel
theorem own_ll_d33 : decode prog_17_method_1_code 33 = .ok (.pop, 1) := by decide +kernel
theorem own_ll_d34 : decode prog_17_method_1_code 34 = .ok (.aload 9, 2) := by decide +kernel
theorem own_ll_d36 : decode prog_17_method_1_code 36 = .ok (.ldc 21, 2) := by decide +kernel
theorem own_ll_d38 : decode prog_17_method_1_code 38 = .ok (.invokestatic 9, 3) := by decide +kernel
theorem own_ll_d41 : decode prog_17_method_1_code 41 = .ok (.pop, 1) := by decide +kernel
theorem own_ll_d42 : decode prog_17_method_1_code 42 = .ok (.aload 10, 2) := by decide +kernel
theorem own_ll_d44 : decode prog_17_method_1_code 44 = .ok (.ldc 23, 2) := by decide +kernel
theorem own_ll_d46 : decode prog_17_method_1_code 46 = .ok (.invokestatic 9, 3) := by decide +kernel
theorem own_ll_d49 : decode prog_17_method_1_code 49 = .ok (.pop, 1) := by decide +kernel
theorem own_ll_d50 : decode prog_17_method_1_code 50 = .ok (.aload 11, 2) := by decide +kernel
theorem own_ll_d52 : decode prog_17_method_1_code 52 = .ok (.ldc 25, 2) := by decide +kernel
theorem own_ll_d54 : decode prog_17_method_1_code 54 = .ok (.invokestatic 9, 3) := by decide +kernel
theorem own_ll_d57 : decode prog_17_method_1_code 57 = .ok (.pop, 1) := by decide +kernel
theorem own_ll_d58 : decode prog_17_method_1_code 58 = .ok (.aload 12, 2) := by decide +kernel
theorem own_ll_d60 : decode prog_17_method_1_code 60 = .ok (.ldc 27, 2) := by decide +kernel
theorem own_ll_d62 : decode prog_17_method_1_code 62 = .ok (.invokestatic 9, 3) := by decide +kernel
theorem own_ll_d65 : decode prog_17_method_1_code 65 = .ok (.pop, 1) := by decide +kernel
theorem own_ll_d66 : decode prog_17_method_1_code 66 = .ok (.aload_n 0, 1) := by decide +kernel
theorem own_ll_d67 : decode prog_17_method_1_code 67 = .ok (.aload_n 1, 1) := by decide +kernel
theorem own_ll_d68 : decode prog_17_method_1_code 68 = .ok (.putfield 29, 3) := by decide +kernel
theorem own_ll_d71 : decode prog_17_method_1_code 71 = .ok (.aload_n 0, 1) := by decide +kernel
theorem own_ll_d72 : decode prog_17_method_1_code 72 = .ok (.aload_n 2, 1) := by decide +kernel
theorem own_ll_d73 : decode prog_17_method_1_code 73 = .ok (.putfield 34, 3) := by decide +kernel
theorem own_ll_d76 : decode prog_17_method_1_code 76 = .ok (.aload_n 0, 1) := by decide +kernel
theorem own_ll_d77 : decode prog_17_method_1_code 77 = .ok (.dload_n 3, 1) := by decide +kernel
theorem own_ll_d78 : decode prog_17_method_1_code 78 = .ok (.putfield 37, 3) := by decide +kernel
theorem own_ll_d81 : decode prog_17_method_1_code 81 = .ok (.aload_n 0, 1) := by decide +kernel
theorem own_ll_d82 : decode prog_17_method_1_code 82 = .ok (.dload 5, 2) := by decide +kernel
theorem own_ll_d84 : decode prog_17_method_1_code 84 = .ok (.putfield 41, 3) := by decide +kernel
theorem own_ll_d87 : decode prog_17_method_1_code 87 = .ok (.aload_n 0, 1) := by decide +kernel
theorem own_ll_d88 : decode prog_17_method_1_code 88 = .ok (.aload 7, 2) := by decide +kernel
theorem own_ll_d90 : decode prog_17_method_1_code 90 = .ok (.putfield 44, 3) := by decide +kernel
theorem own_ll_d93 : decode prog_17_method_1_code 93 = .ok (.aload_n 0, 1) := by decide +kernel
theorem own_ll_d94 : decode prog_17_method_1_code 94 = .ok (.aload 8, 2) := by decide +kernel
theorem own_ll_d96 : decode prog_17_method_1_code 96 = .ok (.putfield 47, 3) := by decide +kernel
theorem own_ll_d99 : decode prog_17_method_1_code 99 = .ok (.aload_n 0, 1) := by decide +kernel
theorem own_ll_d100 : decode prog_17_method_1_code 100 = .ok (.aload 9, 2) := by decide +kernel
theorem own_ll_d102 : decode prog_17_method_1_code 102 = .ok (.putfield 49, 3) := by decide +kernel
theorem own_ll_d105 : decode prog_17_method_1_code 105 = .ok (.aload_n 0, 1) := by decide +kernel
theorem own_ll_d106 : decode prog_17_method_1_code 106 = .ok (.aload 10, 2) := by decide +kernel
theorem own_ll_d108 : decode prog_17_method_1_code 108 = .ok (.putfield 51, 3) := by decide +kernel
theorem own_ll_d111 : decode prog_17_method_1_code 111 = .ok (.aload_n 0, 1) := by decide +kernel
theorem own_ll_d112 : decode prog_17_method_1_code 112 = .ok (.aload 11, 2) := by decide +kernel
theorem own_ll_d114 : decode prog_17_method_1_code 114 = .ok (.putfield 53, 3) := by decide +kernel
theorem own_ll_d117 : decode prog_17_method_1_code 117 = .ok (.aload_n 0, 1) := by decide +kernel
theorem own_ll_d118 : decode prog_17_method_1_code 118 = .ok (.aload 12, 2) := by decide +kernel
theorem own_ll_d120 : decode prog_17_method_1_code 120 = .ok (.putfield 55, 3) := by decide +kernel
theorem own_ll_d123 : decode prog_17_method_1_code 123 = .ok (.return_, 1) := by decide +kernel
theorem own_ll_pn : plainName "com/example/fixd/fixd/location/Location" = true := by first | (simp [plainName, overriddenIn]; done) | decide +kernel
theorem own_ll_pd0 : parseMethodDescriptor "()V" = some ⟨[], none⟩ := by decide +kernel
theorem own_ll_pd1 : parseMethodDescriptor "(Ljava/lang/Object;Ljava/lang/String;)Ljava/lang/Object;" = some ⟨[(.object "java/lang/Object"), (.object "java/lang/String")], some (.object "java/lang/Object")⟩ := by decide +kernel
theorem own_ll_ef (m : MethodId) (x0 : Addr) (x1 : Addr) (x2 : Addr) (x3 : UInt64) (x4 : UInt64) (x5 : Addr) (x6 : Addr) (x7 : Addr) (x8 : Addr) (x9 : Addr) (x10 : Addr) : entryFrame m #[(.ref x0), (.ref x1), (.ref x2), (.double x3), (.double x4), (.ref x5), (.ref x6), (.ref x7), (.ref x8), (.ref x9), (.ref x10)] 13 = mkF m 0 #[.val (.ref x0), .val (.ref x1), .val (.ref x2), .val (.double x3), .second, .val (.double x4), .second, .val (.ref x5), .val (.ref x6), .val (.ref x7), .val (.ref x8), .val (.ref x9), .val (.ref x10)] [] := by first | (simp [entryFrame, mkF, argsToLocals, Value.category]; done) | rfl
def own_ll_Q (Z : State) (a : Addr) (pv : Addr) (ti : Addr) (la : UInt64) (lo : UInt64) (sp : Addr) (be : Addr) (al : Addr) (ms : Addr) (ac : Addr) (sa : Addr) (h0 : Heap) (n0 : Nat) (vv_ : Option Value) (hh_ : Heap) (LL_ : List Loc) : Prop := vv_ = none ∧ Fr n0 LL_ ∧ Keep h0 hh_ [a] ∧ (Llo Z hh_ a pv ti la lo sp be al ms ac sa)
set_option maxRecDepth 65536 in
set_option maxHeartbeats 40000000 in
theorem own_ll (l : Launch) (Z : State) (a0 : Array Value) (hw : ∀ d ∈ tables_1, d.before a0 Z = true) (ws : List Jvm.Cond) (a : Addr) (pv : Addr) (ti : Addr) (la : UInt64) (lo : UInt64) (sp : Addr) (be : Addr) (al : Addr) (ms : Addr) (ac : Addr) (sa : Addr) (h0 : Heap) (n0 : Nat) (Z0 : n0 ≤ h0.size) (E : Exa Z h0 a "com/example/fixd/fixd/location/Location") (g : n0 ≤ a) (G_provider : Fld Z h0 a "com/example/fixd/fixd/location/Location" "provider" "Ljava/lang/String;" .null) (G_time : Fld Z h0 a "com/example/fixd/fixd/location/Location" "time" "Ljava/time/Instant;" .null) (G_latitude : Fld Z h0 a "com/example/fixd/fixd/location/Location" "latitude" "D" (.double 0)) (G_longitude : Fld Z h0 a "com/example/fixd/fixd/location/Location" "longitude" "D" (.double 0)) (G_speed : Fld Z h0 a "com/example/fixd/fixd/location/Location" "speed" "Ljava/util/OptionalDouble;" .null) (G_bearing : Fld Z h0 a "com/example/fixd/fixd/location/Location" "bearing" "Ljava/util/OptionalDouble;" .null) (G_altitude : Fld Z h0 a "com/example/fixd/fixd/location/Location" "altitude" "Ljava/util/OptionalDouble;" .null) (G_mslAltitude : Fld Z h0 a "com/example/fixd/fixd/location/Location" "mslAltitude" "Ljava/util/OptionalDouble;" .null) (G_accuracy : Fld Z h0 a "com/example/fixd/fixd/location/Location" "accuracy" "Ljava/util/OptionalDouble;" .null) (G_satellites : Fld Z h0 a "com/example/fixd/fixd/location/Location" "satellites" "Ljava/util/OptionalInt;" .null) :
    MetFree l (⟨"com/example/fixd/fixd/location/Location", "<init>", "(Ljava/lang/String;Ljava/time/Instant;DDLjava/util/OptionalDouble;Ljava/util/OptionalDouble;Ljava/util/OptionalDouble;Ljava/util/OptionalDouble;Ljava/util/OptionalDouble;Ljava/util/OptionalInt;)V"⟩ : MethodName) (head1 (Jvm.Cond.code (⟨"com/example/fixd/fixd/location/Location", "<init>", "(Ljava/lang/String;Ljava/time/Instant;DDLjava/util/OptionalDouble;Ljava/util/OptionalDouble;Ljava/util/OptionalDouble;Ljava/util/OptionalDouble;Ljava/util/OptionalDouble;Ljava/util/OptionalInt;)V"⟩ : MethodName) prog_17_method_1_code 13 none :: ws) ({ frames := 2, cells := 16, slots := 276, locals := 24 } : Room)) (fun aa_ UU_ => aa_ = #[(.ref a), (.ref pv), (.ref ti), (.double la), (.double lo), (.ref sp), (.ref be), (.ref al), (.ref ms), (.ref ac), (.ref sa)] ∧ Z.Warmed39 UU_.vm ∧ UU_.heap = h0) (fun _ _ _ _ _ => True) (fun _ UU_ oo_ UV_ => ∃ vv_ LL_, oo_ = .returned vv_ ∧ own_ll_Q Z a pv ti la lo sp be al ms ac sa h0 n0 vv_ UV_.heap LL_ ∧ ReturnedEndW UU_ oo_ UV_ LL_ ({ frames := 2, cells := 16, slots := 276, locals := 24 } : Room).cells ({ frames := 2, cells := 16, slots := 276, locals := 24 } : Room).slots) := by
  refine MetFree.of_bodySF (plainFor_of_name own_ll_pn) hisR ?_
  intro p e s m args below meth c s₁ Bd hml0 hP hK
  obtain ⟨rfl, hZ, hh⟩ := hP
  have hx := Bd.exec
  have hby := Bd.bytes
  have hml : c.maxLocals = 13 := hml0
  have hown : s.vm.findClass "com/example/fixd/fixd/location/Location" = some m.cls := findClass_of_methodNamed Bd.named
  have hnm := (name_of_methodNamed Bd.named Bd.method).1
  have X0 : Stand p l e ({ frames := 2, cells := 16, slots := 276, locals := 24 } : Room) (s.setVm s.vm) m #[(.ref a), (.ref pv), (.ref ti), (.double la), (.double lo), (.ref sp), (.ref be), (.ref al), (.ref ms), (.ref ac), (.ref sa)] below meth c s₁ [] 0 0 := Stand.of_body Bd
  have e0 : s₁.heap = h0 := by rw [← hh, Bd.state]; rfl
  have N0 := Fr.nil n0
  have KP0 : Keep h0 h0 [a] := Keep.refl _ _
  have hS : s.Since s.vm 0 := (State.WarmedH.refl s).since 0
  refine ownFinW (Q := own_ll_Q Z a pv ti la lo sp be al ms ac sa h0 n0) ?_
  refine ownStep (fun _ k => castTop (own_ll_ef m a pv ti la lo sp be al ms ac sa) k) ?_
  show ownGo p.tables e below (s₁.setTop (mkF m 0 #[.val (.ref a), .val (.ref pv), .val (.ref ti), .val (.double la), .second, .val (.double lo), .second, .val (.ref sp), .val (.ref be), .val (.ref al), .val (.ref ms), .val (.ref ac), .val (.ref sa)] [])) _
  refine ownStep (fun _ k => XS.aloadN X0.here hx rfl (hb hby own_ll_d0) rfl rfl k) ?_
  show ownGo p.tables e below (s₁.setTop (mkF m 1 #[.val (.ref a), .val (.ref pv), .val (.ref ti), .val (.double la), .second, .val (.double lo), .second, .val (.ref sp), .val (.ref be), .val (.ref al), .val (.ref ms), .val (.ref ac), .val (.ref sa)] [(.ref a)])) _
  have Zs2 : n0 ≤ h0.size := Nat.le_trans Z0 KP0.1
  obtain ⟨_, _, ⟨T1, L1, k1, n1⟩, -, X1, ⟨Lc1, hQ1, l1, y1, z1⟩, st1⟩ := X0.specialBack hx (y := (⟨"java/lang/Record", "<init>", "()V"⟩ : MethodName)) rfl hown (mvT hZ (hw _ ow80)) (mvT hZ (hw _ ow81)) (mvT hZ (hw _ ow84)) (by decide) (backOf (W := 0) (own_rec l Z a0 hw [] a h0 n0 Zs2 ) hZ (hw _ ow84) (hw _ ow83) (by decide) (by decide)) (g := (mkF m 1 #[.val (.ref a), .val (.ref pv), .val (.ref ti), .val (.double la), .second, .val (.double lo), .second, .val (.ref sp), .val (.ref be), .val (.ref al), .val (.ref ms), .val (.ref ac), .val (.ref sa)] [(.ref a)])) rfl (by rw [hml]; rfl) (Steps.refl _) (a := a) (argsL := []) (rest := []) (lenOf own_ll_pd0 rfl) rfl (by show 2 * 0 + _ ≤ _; exact Nat.le_of_eq rfl) (hb hby own_ll_d1) (fun _ _ => ⟨rfl, e0, (by decide : 0 + 0 ≤ _), (by decide : 0 + 0 ≤ _)⟩)
  dsimp only [Pt.U, Pt.locs, Pt.cells, Pt.slots] at X1 l1 y1 z1 st1 hQ1
  obtain rfl : k1 = 0 := y1
  obtain rfl : n1 = 0 := z1
  obtain ⟨rfl, N1q, R1⟩ := hQ1
  have N1 : Fr n0 L1 := l1 ▸ Fr.app N0 N1q
  refine ownStep (fun _ k => st1.trans k) ?_
  refine ownStep (fun _ k => XS.aloadN X1.here hx rfl (hb hby own_ll_d4) rfl rfl k) ?_
  show ownGo p.tables e below (T1.setTop (mkF m 5 #[.val (.ref a), .val (.ref pv), .val (.ref ti), .val (.double la), .second, .val (.double lo), .second, .val (.ref sp), .val (.ref be), .val (.ref al), .val (.ref ms), .val (.ref ac), .val (.ref sa)] [(.ref pv)])) _
  obtain ⟨b3, T3, h3, kk3, X3, e3, E3, hS, hk3, hZ, hown, st3⟩ := ldcS X1 hx hZ hown (hw _ ow86) (fun d hd => hw d (own_wS d hd)) R1 hS (Nat.zero_le _) (g := (mkF m 5 #[.val (.ref a), .val (.ref pv), .val (.ref ti), .val (.double la), .second, .val (.double lo), .second, .val (.ref sp), .val (.ref be), .val (.ref al), .val (.ref ms), .val (.ref ac), .val (.ref sa)] [(.ref pv)])) rfl (hb hby own_ll_d5) (n := 32) (by decide +kernel) (by decide) (by decide) (by decide)
  have KP4 : Keep h0 h3 [a] := KP0.ext E3
  refine ownStep st3 ?_
  show ownGo p.tables e below (T3.setTop (mkF m 7 #[.val (.ref a), .val (.ref pv), .val (.ref ti), .val (.double la), .second, .val (.double lo), .second, .val (.ref sp), .val (.ref be), .val (.ref al), .val (.ref ms), .val (.ref ac), .val (.ref sa)] [(.ref b3), (.ref pv)])) _
  have Zs6 : n0 ≤ h3.size := Nat.le_trans Z0 KP4.1
  obtain ⟨_, _, ⟨T5, L5, k5, n5⟩, -, X5, ⟨Lc5, hQ5, l5, y5, z5⟩, st5⟩ := Jvm.LawKit.callS X3 hx (y := (⟨"java/util/Objects", "requireNonNull", "(Ljava/lang/Object;Ljava/lang/String;)Ljava/lang/Object;"⟩ : MethodName)) hown (mvT hZ (hw _ ow87)) (mvT hZ (hw _ ow57)) (mvT hZ (hw _ ow58)) (mvT hZ (hw _ ow59)) (by decide) (backOf (W := 0) (own_rnn l Z a0 hw [] pv b3 h3 n0 Zs6 ) hZ (hw _ ow59) (hw _ ow58) (by decide) (by decide)) (g := (mkF m 7 #[.val (.ref a), .val (.ref pv), .val (.ref ti), .val (.double la), .second, .val (.double lo), .second, .val (.ref sp), .val (.ref be), .val (.ref al), .val (.ref ms), .val (.ref ac), .val (.ref sa)] [(.ref b3), (.ref pv)])) rfl (by rw [hml]; rfl) (argsL := [(.ref pv), (.ref b3)]) (rest := []) (lenOf own_ll_pd1 rfl) rfl (by show 2 * 0 + _ ≤ _; exact Nat.le_of_eq rfl) (hb hby own_ll_d7) (fun _ _ => ⟨rfl, e3, (by decide : 2 + 0 ≤ _), (by decide : 36 + 0 ≤ _)⟩)
  dsimp only [Pt.U, Pt.locs, Pt.cells, Pt.slots] at X5 l5 y5 z5 st5 hQ5
  obtain rfl : k5 = 2 := y5
  obtain rfl : n5 = 36 := z5
  obtain ⟨rfl, N5q, R5⟩ := hQ5
  have N5 : Fr n0 L5 := l5 ▸ Fr.app N1 N5q
  refine ownStep (fun _ k => st5 _ k) ?_
  refine ownStep (fun _ k => XS.pop X5.here hx rfl (hb hby own_ll_d10) rfl rfl k) ?_
  refine ownStep (fun _ k => XS.aloadN X5.here hx rfl (hb hby own_ll_d11) rfl rfl k) ?_
  show ownGo p.tables e below (T5.setTop (mkF m 12 #[.val (.ref a), .val (.ref pv), .val (.ref ti), .val (.double la), .second, .val (.double lo), .second, .val (.ref sp), .val (.ref be), .val (.ref al), .val (.ref ms), .val (.ref ac), .val (.ref sa)] [(.ref ti)])) _
  obtain ⟨b7, T7, h7, kk7, X7, e7, E7, hS, hk7, hZ, hown, st7⟩ := ldcS X5 hx hZ hown (hw _ ow88) (fun d hd => hw d (own_wS d hd)) R5 hS hk3 (g := (mkF m 12 #[.val (.ref a), .val (.ref pv), .val (.ref ti), .val (.double la), .second, .val (.double lo), .second, .val (.ref sp), .val (.ref be), .val (.ref al), .val (.ref ms), .val (.ref ac), .val (.ref sa)] [(.ref ti)])) rfl (hb hby own_ll_d12) (n := 16) (by decide +kernel) (by decide) (by decide) (by decide)
  have KP8 : Keep h0 h7 [a] := KP4.ext E7
  refine ownStep st7 ?_
  show ownGo p.tables e below (T7.setTop (mkF m 14 #[.val (.ref a), .val (.ref pv), .val (.ref ti), .val (.double la), .second, .val (.double lo), .second, .val (.ref sp), .val (.ref be), .val (.ref al), .val (.ref ms), .val (.ref ac), .val (.ref sa)] [(.ref b7), (.ref ti)])) _
  have Zs10 : n0 ≤ h7.size := Nat.le_trans Z0 KP8.1
  obtain ⟨_, _, ⟨T9, L9, k9, n9⟩, -, X9, ⟨Lc9, hQ9, l9, y9, z9⟩, st9⟩ := Jvm.LawKit.callS X7 hx (y := (⟨"java/util/Objects", "requireNonNull", "(Ljava/lang/Object;Ljava/lang/String;)Ljava/lang/Object;"⟩ : MethodName)) hown (mvT hZ (hw _ ow87)) (mvT hZ (hw _ ow57)) (mvT hZ (hw _ ow58)) (mvT hZ (hw _ ow59)) (by decide) (backOf (W := 0) (own_rnn l Z a0 hw [] ti b7 h7 n0 Zs10 ) hZ (hw _ ow59) (hw _ ow58) (by decide) (by decide)) (g := (mkF m 14 #[.val (.ref a), .val (.ref pv), .val (.ref ti), .val (.double la), .second, .val (.double lo), .second, .val (.ref sp), .val (.ref be), .val (.ref al), .val (.ref ms), .val (.ref ac), .val (.ref sa)] [(.ref b7), (.ref ti)])) rfl (by rw [hml]; rfl) (argsL := [(.ref ti), (.ref b7)]) (rest := []) (lenOf own_ll_pd1 rfl) rfl (by show 2 * 0 + _ ≤ _; exact Nat.le_of_eq rfl) (hb hby own_ll_d14) (fun _ _ => ⟨rfl, e7, (by decide : 4 + 0 ≤ _), (by decide : 56 + 0 ≤ _)⟩)
  dsimp only [Pt.U, Pt.locs, Pt.cells, Pt.slots] at X9 l9 y9 z9 st9 hQ9
  obtain rfl : k9 = 4 := y9
  obtain rfl : n9 = 56 := z9
  obtain ⟨rfl, N9q, R9⟩ := hQ9
  have N9 : Fr n0 L9 := l9 ▸ Fr.app N5 N9q
  refine ownStep (fun _ k => st9 _ k) ?_
  refine ownStep (fun _ k => XS.pop X9.here hx rfl (hb hby own_ll_d17) rfl rfl k) ?_
  refine ownStep (fun _ k => XS.aload X9.here hx rfl (hb hby own_ll_d18) rfl rfl k) ?_
  show ownGo p.tables e below (T9.setTop (mkF m 20 #[.val (.ref a), .val (.ref pv), .val (.ref ti), .val (.double la), .second, .val (.double lo), .second, .val (.ref sp), .val (.ref be), .val (.ref al), .val (.ref ms), .val (.ref ac), .val (.ref sa)] [(.ref sp)])) _
  obtain ⟨b11, T11, h11, kk11, X11, e11, E11, hS, hk11, hZ, hown, st11⟩ := ldcS X9 hx hZ hown (hw _ ow89) (fun d hd => hw d (own_wS d hd)) R9 hS hk7 (g := (mkF m 20 #[.val (.ref a), .val (.ref pv), .val (.ref ti), .val (.double la), .second, .val (.double lo), .second, .val (.ref sp), .val (.ref be), .val (.ref al), .val (.ref ms), .val (.ref ac), .val (.ref sa)] [(.ref sp)])) rfl (hb hby own_ll_d20) (n := 20) (by decide +kernel) (by decide) (by decide) (by decide)
  have KP12 : Keep h0 h11 [a] := KP8.ext E11
  refine ownStep st11 ?_
  show ownGo p.tables e below (T11.setTop (mkF m 22 #[.val (.ref a), .val (.ref pv), .val (.ref ti), .val (.double la), .second, .val (.double lo), .second, .val (.ref sp), .val (.ref be), .val (.ref al), .val (.ref ms), .val (.ref ac), .val (.ref sa)] [(.ref b11), (.ref sp)])) _
  have Zs14 : n0 ≤ h11.size := Nat.le_trans Z0 KP12.1
  obtain ⟨_, _, ⟨T13, L13, k13, n13⟩, -, X13, ⟨Lc13, hQ13, l13, y13, z13⟩, st13⟩ := Jvm.LawKit.callS X11 hx (y := (⟨"java/util/Objects", "requireNonNull", "(Ljava/lang/Object;Ljava/lang/String;)Ljava/lang/Object;"⟩ : MethodName)) hown (mvT hZ (hw _ ow87)) (mvT hZ (hw _ ow57)) (mvT hZ (hw _ ow58)) (mvT hZ (hw _ ow59)) (by decide) (backOf (W := 0) (own_rnn l Z a0 hw [] sp b11 h11 n0 Zs14 ) hZ (hw _ ow59) (hw _ ow58) (by decide) (by decide)) (g := (mkF m 22 #[.val (.ref a), .val (.ref pv), .val (.ref ti), .val (.double la), .second, .val (.double lo), .second, .val (.ref sp), .val (.ref be), .val (.ref al), .val (.ref ms), .val (.ref ac), .val (.ref sa)] [(.ref b11), (.ref sp)])) rfl (by rw [hml]; rfl) (argsL := [(.ref sp), (.ref b11)]) (rest := []) (lenOf own_ll_pd1 rfl) rfl (by show 2 * 0 + _ ≤ _; exact Nat.le_of_eq rfl) (hb hby own_ll_d22) (fun _ _ => ⟨rfl, e11, (by decide : 6 + 0 ≤ _), (by decide : 80 + 0 ≤ _)⟩)
  dsimp only [Pt.U, Pt.locs, Pt.cells, Pt.slots] at X13 l13 y13 z13 st13 hQ13
  obtain rfl : k13 = 6 := y13
  obtain rfl : n13 = 80 := z13
  obtain ⟨rfl, N13q, R13⟩ := hQ13
  have N13 : Fr n0 L13 := l13 ▸ Fr.app N9 N13q
  refine ownStep (fun _ k => st13 _ k) ?_
  refine ownStep (fun _ k => XS.pop X13.here hx rfl (hb hby own_ll_d25) rfl rfl k) ?_
  refine ownStep (fun _ k => XS.aload X13.here hx rfl (hb hby own_ll_d26) rfl rfl k) ?_
  show ownGo p.tables e below (T13.setTop (mkF m 28 #[.val (.ref a), .val (.ref pv), .val (.ref ti), .val (.double la), .second, .val (.double lo), .second, .val (.ref sp), .val (.ref be), .val (.ref al), .val (.ref ms), .val (.ref ac), .val (.ref sa)] [(.ref be)])) _
  obtain ⟨b15, T15, h15, kk15, X15, e15, E15, hS, hk15, hZ, hown, st15⟩ := ldcS X13 hx hZ hown (hw _ ow90) (fun d hd => hw d (own_wS d hd)) R13 hS hk11 (g := (mkF m 28 #[.val (.ref a), .val (.ref pv), .val (.ref ti), .val (.double la), .second, .val (.double lo), .second, .val (.ref sp), .val (.ref be), .val (.ref al), .val (.ref ms), .val (.ref ac), .val (.ref sa)] [(.ref be)])) rfl (hb hby own_ll_d28) (n := 28) (by decide +kernel) (by decide) (by decide) (by decide)
  have KP16 : Keep h0 h15 [a] := KP12.ext E15
  refine ownStep st15 ?_
  show ownGo p.tables e below (T15.setTop (mkF m 30 #[.val (.ref a), .val (.ref pv), .val (.ref ti), .val (.double la), .second, .val (.double lo), .second, .val (.ref sp), .val (.ref be), .val (.ref al), .val (.ref ms), .val (.ref ac), .val (.ref sa)] [(.ref b15), (.ref be)])) _
  have Zs18 : n0 ≤ h15.size := Nat.le_trans Z0 KP16.1
  obtain ⟨_, _, ⟨T17, L17, k17, n17⟩, -, X17, ⟨Lc17, hQ17, l17, y17, z17⟩, st17⟩ := Jvm.LawKit.callS X15 hx (y := (⟨"java/util/Objects", "requireNonNull", "(Ljava/lang/Object;Ljava/lang/String;)Ljava/lang/Object;"⟩ : MethodName)) hown (mvT hZ (hw _ ow87)) (mvT hZ (hw _ ow57)) (mvT hZ (hw _ ow58)) (mvT hZ (hw _ ow59)) (by decide) (backOf (W := 0) (own_rnn l Z a0 hw [] be b15 h15 n0 Zs18 ) hZ (hw _ ow59) (hw _ ow58) (by decide) (by decide)) (g := (mkF m 30 #[.val (.ref a), .val (.ref pv), .val (.ref ti), .val (.double la), .second, .val (.double lo), .second, .val (.ref sp), .val (.ref be), .val (.ref al), .val (.ref ms), .val (.ref ac), .val (.ref sa)] [(.ref b15), (.ref be)])) rfl (by rw [hml]; rfl) (argsL := [(.ref be), (.ref b15)]) (rest := []) (lenOf own_ll_pd1 rfl) rfl (by show 2 * 0 + _ ≤ _; exact Nat.le_of_eq rfl) (hb hby own_ll_d30) (fun _ _ => ⟨rfl, e15, (by decide : 8 + 0 ≤ _), (by decide : 112 + 0 ≤ _)⟩)
  dsimp only [Pt.U, Pt.locs, Pt.cells, Pt.slots] at X17 l17 y17 z17 st17 hQ17
  obtain rfl : k17 = 8 := y17
  obtain rfl : n17 = 112 := z17
  obtain ⟨rfl, N17q, R17⟩ := hQ17
  have N17 : Fr n0 L17 := l17 ▸ Fr.app N13 N17q
  refine ownStep (fun _ k => st17 _ k) ?_
  refine ownStep (fun _ k => XS.pop X17.here hx rfl (hb hby own_ll_d33) rfl rfl k) ?_
  refine ownStep (fun _ k => XS.aload X17.here hx rfl (hb hby own_ll_d34) rfl rfl k) ?_
  show ownGo p.tables e below (T17.setTop (mkF m 36 #[.val (.ref a), .val (.ref pv), .val (.ref ti), .val (.double la), .second, .val (.double lo), .second, .val (.ref sp), .val (.ref be), .val (.ref al), .val (.ref ms), .val (.ref ac), .val (.ref sa)] [(.ref al)])) _
  obtain ⟨b19, T19, h19, kk19, X19, e19, E19, hS, hk19, hZ, hown, st19⟩ := ldcS X17 hx hZ hown (hw _ ow91) (fun d hd => hw d (own_wS d hd)) R17 hS hk15 (g := (mkF m 36 #[.val (.ref a), .val (.ref pv), .val (.ref ti), .val (.double la), .second, .val (.double lo), .second, .val (.ref sp), .val (.ref be), .val (.ref al), .val (.ref ms), .val (.ref ac), .val (.ref sa)] [(.ref al)])) rfl (hb hby own_ll_d36) (n := 32) (by decide +kernel) (by decide) (by decide) (by decide)
  have KP20 : Keep h0 h19 [a] := KP16.ext E19
  refine ownStep st19 ?_
  show ownGo p.tables e below (T19.setTop (mkF m 38 #[.val (.ref a), .val (.ref pv), .val (.ref ti), .val (.double la), .second, .val (.double lo), .second, .val (.ref sp), .val (.ref be), .val (.ref al), .val (.ref ms), .val (.ref ac), .val (.ref sa)] [(.ref b19), (.ref al)])) _
  have Zs22 : n0 ≤ h19.size := Nat.le_trans Z0 KP20.1
  obtain ⟨_, _, ⟨T21, L21, k21, n21⟩, -, X21, ⟨Lc21, hQ21, l21, y21, z21⟩, st21⟩ := Jvm.LawKit.callS X19 hx (y := (⟨"java/util/Objects", "requireNonNull", "(Ljava/lang/Object;Ljava/lang/String;)Ljava/lang/Object;"⟩ : MethodName)) hown (mvT hZ (hw _ ow87)) (mvT hZ (hw _ ow57)) (mvT hZ (hw _ ow58)) (mvT hZ (hw _ ow59)) (by decide) (backOf (W := 0) (own_rnn l Z a0 hw [] al b19 h19 n0 Zs22 ) hZ (hw _ ow59) (hw _ ow58) (by decide) (by decide)) (g := (mkF m 38 #[.val (.ref a), .val (.ref pv), .val (.ref ti), .val (.double la), .second, .val (.double lo), .second, .val (.ref sp), .val (.ref be), .val (.ref al), .val (.ref ms), .val (.ref ac), .val (.ref sa)] [(.ref b19), (.ref al)])) rfl (by rw [hml]; rfl) (argsL := [(.ref al), (.ref b19)]) (rest := []) (lenOf own_ll_pd1 rfl) rfl (by show 2 * 0 + _ ≤ _; exact Nat.le_of_eq rfl) (hb hby own_ll_d38) (fun _ _ => ⟨rfl, e19, (by decide : 10 + 0 ≤ _), (by decide : 148 + 0 ≤ _)⟩)
  dsimp only [Pt.U, Pt.locs, Pt.cells, Pt.slots] at X21 l21 y21 z21 st21 hQ21
  obtain rfl : k21 = 10 := y21
  obtain rfl : n21 = 148 := z21
  obtain ⟨rfl, N21q, R21⟩ := hQ21
  have N21 : Fr n0 L21 := l21 ▸ Fr.app N17 N21q
  refine ownStep (fun _ k => st21 _ k) ?_
  refine ownStep (fun _ k => XS.pop X21.here hx rfl (hb hby own_ll_d41) rfl rfl k) ?_
  refine ownStep (fun _ k => XS.aload X21.here hx rfl (hb hby own_ll_d42) rfl rfl k) ?_
  show ownGo p.tables e below (T21.setTop (mkF m 44 #[.val (.ref a), .val (.ref pv), .val (.ref ti), .val (.double la), .second, .val (.double lo), .second, .val (.ref sp), .val (.ref be), .val (.ref al), .val (.ref ms), .val (.ref ac), .val (.ref sa)] [(.ref ms)])) _
  obtain ⟨b23, T23, h23, kk23, X23, e23, E23, hS, hk23, hZ, hown, st23⟩ := ldcS X21 hx hZ hown (hw _ ow92) (fun d hd => hw d (own_wS d hd)) R21 hS hk19 (g := (mkF m 44 #[.val (.ref a), .val (.ref pv), .val (.ref ti), .val (.double la), .second, .val (.double lo), .second, .val (.ref sp), .val (.ref be), .val (.ref al), .val (.ref ms), .val (.ref ac), .val (.ref sa)] [(.ref ms)])) rfl (hb hby own_ll_d44) (n := 44) (by decide +kernel) (by decide) (by decide) (by decide)
  have KP24 : Keep h0 h23 [a] := KP20.ext E23
  refine ownStep st23 ?_
  show ownGo p.tables e below (T23.setTop (mkF m 46 #[.val (.ref a), .val (.ref pv), .val (.ref ti), .val (.double la), .second, .val (.double lo), .second, .val (.ref sp), .val (.ref be), .val (.ref al), .val (.ref ms), .val (.ref ac), .val (.ref sa)] [(.ref b23), (.ref ms)])) _
  have Zs26 : n0 ≤ h23.size := Nat.le_trans Z0 KP24.1
  obtain ⟨_, _, ⟨T25, L25, k25, n25⟩, -, X25, ⟨Lc25, hQ25, l25, y25, z25⟩, st25⟩ := Jvm.LawKit.callS X23 hx (y := (⟨"java/util/Objects", "requireNonNull", "(Ljava/lang/Object;Ljava/lang/String;)Ljava/lang/Object;"⟩ : MethodName)) hown (mvT hZ (hw _ ow87)) (mvT hZ (hw _ ow57)) (mvT hZ (hw _ ow58)) (mvT hZ (hw _ ow59)) (by decide) (backOf (W := 0) (own_rnn l Z a0 hw [] ms b23 h23 n0 Zs26 ) hZ (hw _ ow59) (hw _ ow58) (by decide) (by decide)) (g := (mkF m 46 #[.val (.ref a), .val (.ref pv), .val (.ref ti), .val (.double la), .second, .val (.double lo), .second, .val (.ref sp), .val (.ref be), .val (.ref al), .val (.ref ms), .val (.ref ac), .val (.ref sa)] [(.ref b23), (.ref ms)])) rfl (by rw [hml]; rfl) (argsL := [(.ref ms), (.ref b23)]) (rest := []) (lenOf own_ll_pd1 rfl) rfl (by show 2 * 0 + _ ≤ _; exact Nat.le_of_eq rfl) (hb hby own_ll_d46) (fun _ _ => ⟨rfl, e23, (by decide : 12 + 0 ≤ _), (by decide : 196 + 0 ≤ _)⟩)
  dsimp only [Pt.U, Pt.locs, Pt.cells, Pt.slots] at X25 l25 y25 z25 st25 hQ25
  obtain rfl : k25 = 12 := y25
  obtain rfl : n25 = 196 := z25
  obtain ⟨rfl, N25q, R25⟩ := hQ25
  have N25 : Fr n0 L25 := l25 ▸ Fr.app N21 N25q
  refine ownStep (fun _ k => st25 _ k) ?_
  refine ownStep (fun _ k => XS.pop X25.here hx rfl (hb hby own_ll_d49) rfl rfl k) ?_
  refine ownStep (fun _ k => XS.aload X25.here hx rfl (hb hby own_ll_d50) rfl rfl k) ?_
  show ownGo p.tables e below (T25.setTop (mkF m 52 #[.val (.ref a), .val (.ref pv), .val (.ref ti), .val (.double la), .second, .val (.double lo), .second, .val (.ref sp), .val (.ref be), .val (.ref al), .val (.ref ms), .val (.ref ac), .val (.ref sa)] [(.ref ac)])) _
  obtain ⟨b27, T27, h27, kk27, X27, e27, E27, hS, hk27, hZ, hown, st27⟩ := ldcS X25 hx hZ hown (hw _ ow93) (fun d hd => hw d (own_wS d hd)) R25 hS hk23 (g := (mkF m 52 #[.val (.ref a), .val (.ref pv), .val (.ref ti), .val (.double la), .second, .val (.double lo), .second, .val (.ref sp), .val (.ref be), .val (.ref al), .val (.ref ms), .val (.ref ac), .val (.ref sa)] [(.ref ac)])) rfl (hb hby own_ll_d52) (n := 32) (by decide +kernel) (by decide) (by decide) (by decide)
  have KP28 : Keep h0 h27 [a] := KP24.ext E27
  refine ownStep st27 ?_
  show ownGo p.tables e below (T27.setTop (mkF m 54 #[.val (.ref a), .val (.ref pv), .val (.ref ti), .val (.double la), .second, .val (.double lo), .second, .val (.ref sp), .val (.ref be), .val (.ref al), .val (.ref ms), .val (.ref ac), .val (.ref sa)] [(.ref b27), (.ref ac)])) _
  have Zs30 : n0 ≤ h27.size := Nat.le_trans Z0 KP28.1
  obtain ⟨_, _, ⟨T29, L29, k29, n29⟩, -, X29, ⟨Lc29, hQ29, l29, y29, z29⟩, st29⟩ := Jvm.LawKit.callS X27 hx (y := (⟨"java/util/Objects", "requireNonNull", "(Ljava/lang/Object;Ljava/lang/String;)Ljava/lang/Object;"⟩ : MethodName)) hown (mvT hZ (hw _ ow87)) (mvT hZ (hw _ ow57)) (mvT hZ (hw _ ow58)) (mvT hZ (hw _ ow59)) (by decide) (backOf (W := 0) (own_rnn l Z a0 hw [] ac b27 h27 n0 Zs30 ) hZ (hw _ ow59) (hw _ ow58) (by decide) (by decide)) (g := (mkF m 54 #[.val (.ref a), .val (.ref pv), .val (.ref ti), .val (.double la), .second, .val (.double lo), .second, .val (.ref sp), .val (.ref be), .val (.ref al), .val (.ref ms), .val (.ref ac), .val (.ref sa)] [(.ref b27), (.ref ac)])) rfl (by rw [hml]; rfl) (argsL := [(.ref ac), (.ref b27)]) (rest := []) (lenOf own_ll_pd1 rfl) rfl (by show 2 * 0 + _ ≤ _; exact Nat.le_of_eq rfl) (hb hby own_ll_d54) (fun _ _ => ⟨rfl, e27, (by decide : 14 + 0 ≤ _), (by decide : 232 + 0 ≤ _)⟩)
  dsimp only [Pt.U, Pt.locs, Pt.cells, Pt.slots] at X29 l29 y29 z29 st29 hQ29
  obtain rfl : k29 = 14 := y29
  obtain rfl : n29 = 232 := z29
  obtain ⟨rfl, N29q, R29⟩ := hQ29
  have N29 : Fr n0 L29 := l29 ▸ Fr.app N25 N29q
  refine ownStep (fun _ k => st29 _ k) ?_
  refine ownStep (fun _ k => XS.pop X29.here hx rfl (hb hby own_ll_d57) rfl rfl k) ?_
  refine ownStep (fun _ k => XS.aload X29.here hx rfl (hb hby own_ll_d58) rfl rfl k) ?_
  show ownGo p.tables e below (T29.setTop (mkF m 60 #[.val (.ref a), .val (.ref pv), .val (.ref ti), .val (.double la), .second, .val (.double lo), .second, .val (.ref sp), .val (.ref be), .val (.ref al), .val (.ref ms), .val (.ref ac), .val (.ref sa)] [(.ref sa)])) _
  obtain ⟨b31, T31, h31, kk31, X31, e31, E31, hS, hk31, hZ, hown, st31⟩ := ldcS X29 hx hZ hown (hw _ ow94) (fun d hd => hw d (own_wS d hd)) R29 hS hk27 (g := (mkF m 60 #[.val (.ref a), .val (.ref pv), .val (.ref ti), .val (.double la), .second, .val (.double lo), .second, .val (.ref sp), .val (.ref be), .val (.ref al), .val (.ref ms), .val (.ref ac), .val (.ref sa)] [(.ref sa)])) rfl (hb hby own_ll_d60) (n := 40) (by decide +kernel) (by decide) (by decide) (by decide)
  have KP32 : Keep h0 h31 [a] := KP28.ext E31
  refine ownStep st31 ?_
  show ownGo p.tables e below (T31.setTop (mkF m 62 #[.val (.ref a), .val (.ref pv), .val (.ref ti), .val (.double la), .second, .val (.double lo), .second, .val (.ref sp), .val (.ref be), .val (.ref al), .val (.ref ms), .val (.ref ac), .val (.ref sa)] [(.ref b31), (.ref sa)])) _
  have Zs34 : n0 ≤ h31.size := Nat.le_trans Z0 KP32.1
  obtain ⟨_, _, ⟨T33, L33, k33, n33⟩, -, X33, ⟨Lc33, hQ33, l33, y33, z33⟩, st33⟩ := Jvm.LawKit.callS X31 hx (y := (⟨"java/util/Objects", "requireNonNull", "(Ljava/lang/Object;Ljava/lang/String;)Ljava/lang/Object;"⟩ : MethodName)) hown (mvT hZ (hw _ ow87)) (mvT hZ (hw _ ow57)) (mvT hZ (hw _ ow58)) (mvT hZ (hw _ ow59)) (by decide) (backOf (W := 0) (own_rnn l Z a0 hw [] sa b31 h31 n0 Zs34 ) hZ (hw _ ow59) (hw _ ow58) (by decide) (by decide)) (g := (mkF m 62 #[.val (.ref a), .val (.ref pv), .val (.ref ti), .val (.double la), .second, .val (.double lo), .second, .val (.ref sp), .val (.ref be), .val (.ref al), .val (.ref ms), .val (.ref ac), .val (.ref sa)] [(.ref b31), (.ref sa)])) rfl (by rw [hml]; rfl) (argsL := [(.ref sa), (.ref b31)]) (rest := []) (lenOf own_ll_pd1 rfl) rfl (by show 2 * 0 + _ ≤ _; exact Nat.le_of_eq rfl) (hb hby own_ll_d62) (fun _ _ => ⟨rfl, e31, (by decide : 16 + 0 ≤ _), (by decide : 276 + 0 ≤ _)⟩)
  dsimp only [Pt.U, Pt.locs, Pt.cells, Pt.slots] at X33 l33 y33 z33 st33 hQ33
  obtain rfl : k33 = 16 := y33
  obtain rfl : n33 = 276 := z33
  obtain ⟨rfl, N33q, R33⟩ := hQ33
  have N33 : Fr n0 L33 := l33 ▸ Fr.app N29 N33q
  refine ownStep (fun _ k => st33 _ k) ?_
  refine ownStep (fun _ k => XS.pop X33.here hx rfl (hb hby own_ll_d65) rfl rfl k) ?_
  refine ownStep (fun _ k => XS.aloadN X33.here hx rfl (hb hby own_ll_d66) rfl rfl k) ?_
  refine ownStep (fun _ k => XS.aloadN X33.here hx rfl (hb hby own_ll_d67) rfl rfl k) ?_
  show ownGo p.tables e below (T33.setTop (mkF m 68 #[.val (.ref a), .val (.ref pv), .val (.ref ti), .val (.double la), .second, .val (.double lo), .second, .val (.ref sp), .val (.ref be), .val (.ref al), .val (.ref ms), .val (.ref ac), .val (.ref sa)] [(.ref pv), (.ref a)])) _
  have Q35 := ((((((((G_provider.ext E3).ext E7).ext E11).ext E15).ext E19).ext E23).ext E27).ext E31)
  have Q36 := ((((((((E.ext E3).ext E7).ext E11).ext E15).ext E19).ext E23).ext E27).ext E31)
  obtain ⟨T37, h37, X37, e37, W37, st37⟩ := putF X33 hx hZ hown (host := "") (Or.inl (hw _ ow95)) Via.refl R33 Q35 Q36 (Or.inr ⟨(hw _ ow96), rfl, hnm⟩) (hw _ ow51) (ty := (.object "java/lang/String")) (by decide) rfl rfl (g := (mkF m 68 #[.val (.ref a), .val (.ref pv), .val (.ref ti), .val (.double la), .second, .val (.double lo), .second, .val (.ref sp), .val (.ref be), .val (.ref al), .val (.ref ms), .val (.ref ac), .val (.ref sa)] [(.ref pv), (.ref a)])) rfl rfl (hb hby own_ll_d68)
  have N38 := Fr.snoc X37 N33 g
  have KP39 : Keep h0 h37 [a] := KP32.wr W37 (Or.inl (List.mem_of_getElem? (i := 0) rfl))
  have F40 : Fld Z h37 a "com/example/fixd/fixd/location/Location" "provider" "Ljava/lang/String;" (.ref pv) := Q35.same W37
  refine ownStep st37 ?_
  refine ownStep (fun _ k => XS.aloadN X37.here hx rfl (hb hby own_ll_d71) rfl rfl k) ?_
  refine ownStep (fun _ k => XS.aloadN X37.here hx rfl (hb hby own_ll_d72) rfl rfl k) ?_
  show ownGo p.tables e below (T37.setTop (mkF m 73 #[.val (.ref a), .val (.ref pv), .val (.ref ti), .val (.double la), .second, .val (.double lo), .second, .val (.ref sp), .val (.ref be), .val (.ref al), .val (.ref ms), .val (.ref ac), .val (.ref sa)] [(.ref ti), (.ref a)])) _
  have Q41 := (((((((((G_time.ext E3).ext E7).ext E11).ext E15).ext E19).ext E23).ext E27).ext E31).other W37 (.inr (ownNe (.inr (hw _ ow98)) (.inr (hw _ ow96)))))
  have Q42 := (Q36.wr W37)
  obtain ⟨T43, h43, X43, e43, W43, st43⟩ := putF X37 hx hZ hown (host := "") (Or.inl (hw _ ow97)) Via.refl e37 Q41 Q42 (Or.inr ⟨(hw _ ow98), rfl, hnm⟩) (hw _ ow51) (ty := (.object "java/time/Instant")) (by decide) rfl rfl (g := (mkF m 73 #[.val (.ref a), .val (.ref pv), .val (.ref ti), .val (.double la), .second, .val (.double lo), .second, .val (.ref sp), .val (.ref be), .val (.ref al), .val (.ref ms), .val (.ref ac), .val (.ref sa)] [(.ref ti), (.ref a)])) rfl rfl (hb hby own_ll_d73)
  have N44 := Fr.snoc X43 N38 g
  have KP45 : Keep h0 h43 [a] := KP39.wr W43 (Or.inl (List.mem_of_getElem? (i := 0) rfl))
  have F46 : Fld Z h43 a "com/example/fixd/fixd/location/Location" "time" "Ljava/time/Instant;" (.ref ti) := Q41.same W43
  refine ownStep st43 ?_
  refine ownStep (fun _ k => XS.aloadN X43.here hx rfl (hb hby own_ll_d76) rfl rfl k) ?_
  refine ownStep (fun _ k => XS.dloadN X43.here hx rfl (hb hby own_ll_d77) rfl k) ?_
  show ownGo p.tables e below (T43.setTop (mkF m 78 #[.val (.ref a), .val (.ref pv), .val (.ref ti), .val (.double la), .second, .val (.double lo), .second, .val (.ref sp), .val (.ref be), .val (.ref al), .val (.ref ms), .val (.ref ac), .val (.ref sa)] [(.double la), (.ref a)])) _
  have Q47 := ((((((((((G_latitude.ext E3).ext E7).ext E11).ext E15).ext E19).ext E23).ext E27).ext E31).other W37 (.inr (ownNe (.inr (hw _ ow100)) (.inr (hw _ ow96))))).other W43 (.inr (ownNe (.inr (hw _ ow100)) (.inr (hw _ ow98)))))
  have Q48 := (Q42.wr W43)
  obtain ⟨T49, h49, X49, e49, W49, st49⟩ := putF X43 hx hZ hown (host := "") (Or.inl (hw _ ow99)) Via.refl e43 Q47 Q48 (Or.inr ⟨(hw _ ow100), rfl, hnm⟩) (hw _ ow51) (ty := .double) (by decide) rfl rfl (g := (mkF m 78 #[.val (.ref a), .val (.ref pv), .val (.ref ti), .val (.double la), .second, .val (.double lo), .second, .val (.ref sp), .val (.ref be), .val (.ref al), .val (.ref ms), .val (.ref ac), .val (.ref sa)] [(.double la), (.ref a)])) rfl rfl (hb hby own_ll_d78)
  have N50 := Fr.snoc X49 N44 g
  have KP51 : Keep h0 h49 [a] := KP45.wr W49 (Or.inl (List.mem_of_getElem? (i := 0) rfl))
  have F52 : Fld Z h49 a "com/example/fixd/fixd/location/Location" "latitude" "D" (.double la) := Q47.same W49
  refine ownStep st49 ?_
  refine ownStep (fun _ k => XS.aloadN X49.here hx rfl (hb hby own_ll_d81) rfl rfl k) ?_
  refine ownStep (fun _ k => XS.dload X49.here hx rfl (hb hby own_ll_d82) rfl k) ?_
  show ownGo p.tables e below (T49.setTop (mkF m 84 #[.val (.ref a), .val (.ref pv), .val (.ref ti), .val (.double la), .second, .val (.double lo), .second, .val (.ref sp), .val (.ref be), .val (.ref al), .val (.ref ms), .val (.ref ac), .val (.ref sa)] [(.double lo), (.ref a)])) _
  have Q53 := (((((((((((G_longitude.ext E3).ext E7).ext E11).ext E15).ext E19).ext E23).ext E27).ext E31).other W37 (.inr (ownNe (.inr (hw _ ow102)) (.inr (hw _ ow96))))).other W43 (.inr (ownNe (.inr (hw _ ow102)) (.inr (hw _ ow98))))).other W49 (.inr (ownNe (.inr (hw _ ow102)) (.inr (hw _ ow100)))))
  have Q54 := (Q48.wr W49)
  obtain ⟨T55, h55, X55, e55, W55, st55⟩ := putF X49 hx hZ hown (host := "") (Or.inl (hw _ ow101)) Via.refl e49 Q53 Q54 (Or.inr ⟨(hw _ ow102), rfl, hnm⟩) (hw _ ow51) (ty := .double) (by decide) rfl rfl (g := (mkF m 84 #[.val (.ref a), .val (.ref pv), .val (.ref ti), .val (.double la), .second, .val (.double lo), .second, .val (.ref sp), .val (.ref be), .val (.ref al), .val (.ref ms), .val (.ref ac), .val (.ref sa)] [(.double lo), (.ref a)])) rfl rfl (hb hby own_ll_d84)
  have N56 := Fr.snoc X55 N50 g
  have KP57 : Keep h0 h55 [a] := KP51.wr W55 (Or.inl (List.mem_of_getElem? (i := 0) rfl))
  have F58 : Fld Z h55 a "com/example/fixd/fixd/location/Location" "longitude" "D" (.double lo) := Q53.same W55
  refine ownStep st55 ?_
  refine ownStep (fun _ k => XS.aloadN X55.here hx rfl (hb hby own_ll_d87) rfl rfl k) ?_
  refine ownStep (fun _ k => XS.aload X55.here hx rfl (hb hby own_ll_d88) rfl rfl k) ?_
  show ownGo p.tables e below (T55.setTop (mkF m 90 #[.val (.ref a), .val (.ref pv), .val (.ref ti), .val (.double la), .second, .val (.double lo), .second, .val (.ref sp), .val (.ref be), .val (.ref al), .val (.ref ms), .val (.ref ac), .val (.ref sa)] [(.ref sp), (.ref a)])) _
  have Q59 := ((((((((((((G_speed.ext E3).ext E7).ext E11).ext E15).ext E19).ext E23).ext E27).ext E31).other W37 (.inr (ownNe (.inr (hw _ ow104)) (.inr (hw _ ow96))))).other W43 (.inr (ownNe (.inr (hw _ ow104)) (.inr (hw _ ow98))))).other W49 (.inr (ownNe (.inr (hw _ ow104)) (.inr (hw _ ow100))))).other W55 (.inr (ownNe (.inr (hw _ ow104)) (.inr (hw _ ow102)))))
  have Q60 := (Q54.wr W55)
  obtain ⟨T61, h61, X61, e61, W61, st61⟩ := putF X55 hx hZ hown (host := "") (Or.inl (hw _ ow103)) Via.refl e55 Q59 Q60 (Or.inr ⟨(hw _ ow104), rfl, hnm⟩) (hw _ ow51) (ty := (.object "java/util/OptionalDouble")) (by decide) rfl rfl (g := (mkF m 90 #[.val (.ref a), .val (.ref pv), .val (.ref ti), .val (.double la), .second, .val (.double lo), .second, .val (.ref sp), .val (.ref be), .val (.ref al), .val (.ref ms), .val (.ref ac), .val (.ref sa)] [(.ref sp), (.ref a)])) rfl rfl (hb hby own_ll_d90)
  have N62 := Fr.snoc X61 N56 g
  have KP63 : Keep h0 h61 [a] := KP57.wr W61 (Or.inl (List.mem_of_getElem? (i := 0) rfl))
  have F64 : Fld Z h61 a "com/example/fixd/fixd/location/Location" "speed" "Ljava/util/OptionalDouble;" (.ref sp) := Q59.same W61
  refine ownStep st61 ?_
  refine ownStep (fun _ k => XS.aloadN X61.here hx rfl (hb hby own_ll_d93) rfl rfl k) ?_
  refine ownStep (fun _ k => XS.aload X61.here hx rfl (hb hby own_ll_d94) rfl rfl k) ?_
  show ownGo p.tables e below (T61.setTop (mkF m 96 #[.val (.ref a), .val (.ref pv), .val (.ref ti), .val (.double la), .second, .val (.double lo), .second, .val (.ref sp), .val (.ref be), .val (.ref al), .val (.ref ms), .val (.ref ac), .val (.ref sa)] [(.ref be), (.ref a)])) _
  have Q65 := (((((((((((((G_bearing.ext E3).ext E7).ext E11).ext E15).ext E19).ext E23).ext E27).ext E31).other W37 (.inr (ownNe (.inr (hw _ ow106)) (.inr (hw _ ow96))))).other W43 (.inr (ownNe (.inr (hw _ ow106)) (.inr (hw _ ow98))))).other W49 (.inr (ownNe (.inr (hw _ ow106)) (.inr (hw _ ow100))))).other W55 (.inr (ownNe (.inr (hw _ ow106)) (.inr (hw _ ow102))))).other W61 (.inr (ownNe (.inr (hw _ ow106)) (.inr (hw _ ow104)))))
  have Q66 := (Q60.wr W61)
  obtain ⟨T67, h67, X67, e67, W67, st67⟩ := putF X61 hx hZ hown (host := "") (Or.inl (hw _ ow105)) Via.refl e61 Q65 Q66 (Or.inr ⟨(hw _ ow106), rfl, hnm⟩) (hw _ ow51) (ty := (.object "java/util/OptionalDouble")) (by decide) rfl rfl (g := (mkF m 96 #[.val (.ref a), .val (.ref pv), .val (.ref ti), .val (.double la), .second, .val (.double lo), .second, .val (.ref sp), .val (.ref be), .val (.ref al), .val (.ref ms), .val (.ref ac), .val (.ref sa)] [(.ref be), (.ref a)])) rfl rfl (hb hby own_ll_d96)
  have N68 := Fr.snoc X67 N62 g
  have KP69 : Keep h0 h67 [a] := KP63.wr W67 (Or.inl (List.mem_of_getElem? (i := 0) rfl))
  have F70 : Fld Z h67 a "com/example/fixd/fixd/location/Location" "bearing" "Ljava/util/OptionalDouble;" (.ref be) := Q65.same W67
  refine ownStep st67 ?_
  refine ownStep (fun _ k => XS.aloadN X67.here hx rfl (hb hby own_ll_d99) rfl rfl k) ?_
  refine ownStep (fun _ k => XS.aload X67.here hx rfl (hb hby own_ll_d100) rfl rfl k) ?_
  show ownGo p.tables e below (T67.setTop (mkF m 102 #[.val (.ref a), .val (.ref pv), .val (.ref ti), .val (.double la), .second, .val (.double lo), .second, .val (.ref sp), .val (.ref be), .val (.ref al), .val (.ref ms), .val (.ref ac), .val (.ref sa)] [(.ref al), (.ref a)])) _
  have Q71 := ((((((((((((((G_altitude.ext E3).ext E7).ext E11).ext E15).ext E19).ext E23).ext E27).ext E31).other W37 (.inr (ownNe (.inr (hw _ ow108)) (.inr (hw _ ow96))))).other W43 (.inr (ownNe (.inr (hw _ ow108)) (.inr (hw _ ow98))))).other W49 (.inr (ownNe (.inr (hw _ ow108)) (.inr (hw _ ow100))))).other W55 (.inr (ownNe (.inr (hw _ ow108)) (.inr (hw _ ow102))))).other W61 (.inr (ownNe (.inr (hw _ ow108)) (.inr (hw _ ow104))))).other W67 (.inr (ownNe (.inr (hw _ ow108)) (.inr (hw _ ow106)))))
  have Q72 := (Q66.wr W67)
  obtain ⟨T73, h73, X73, e73, W73, st73⟩ := putF X67 hx hZ hown (host := "") (Or.inl (hw _ ow107)) Via.refl e67 Q71 Q72 (Or.inr ⟨(hw _ ow108), rfl, hnm⟩) (hw _ ow51) (ty := (.object "java/util/OptionalDouble")) (by decide) rfl rfl (g := (mkF m 102 #[.val (.ref a), .val (.ref pv), .val (.ref ti), .val (.double la), .second, .val (.double lo), .second, .val (.ref sp), .val (.ref be), .val (.ref al), .val (.ref ms), .val (.ref ac), .val (.ref sa)] [(.ref al), (.ref a)])) rfl rfl (hb hby own_ll_d102)
  have N74 := Fr.snoc X73 N68 g
  have KP75 : Keep h0 h73 [a] := KP69.wr W73 (Or.inl (List.mem_of_getElem? (i := 0) rfl))
  have F76 : Fld Z h73 a "com/example/fixd/fixd/location/Location" "altitude" "Ljava/util/OptionalDouble;" (.ref al) := Q71.same W73
  refine ownStep st73 ?_
  refine ownStep (fun _ k => XS.aloadN X73.here hx rfl (hb hby own_ll_d105) rfl rfl k) ?_
  refine ownStep (fun _ k => XS.aload X73.here hx rfl (hb hby own_ll_d106) rfl rfl k) ?_
  show ownGo p.tables e below (T73.setTop (mkF m 108 #[.val (.ref a), .val (.ref pv), .val (.ref ti), .val (.double la), .second, .val (.double lo), .second, .val (.ref sp), .val (.ref be), .val (.ref al), .val (.ref ms), .val (.ref ac), .val (.ref sa)] [(.ref ms), (.ref a)])) _
  have Q77 := (((((((((((((((G_mslAltitude.ext E3).ext E7).ext E11).ext E15).ext E19).ext E23).ext E27).ext E31).other W37 (.inr (ownNe (.inr (hw _ ow110)) (.inr (hw _ ow96))))).other W43 (.inr (ownNe (.inr (hw _ ow110)) (.inr (hw _ ow98))))).other W49 (.inr (ownNe (.inr (hw _ ow110)) (.inr (hw _ ow100))))).other W55 (.inr (ownNe (.inr (hw _ ow110)) (.inr (hw _ ow102))))).other W61 (.inr (ownNe (.inr (hw _ ow110)) (.inr (hw _ ow104))))).other W67 (.inr (ownNe (.inr (hw _ ow110)) (.inr (hw _ ow106))))).other W73 (.inr (ownNe (.inr (hw _ ow110)) (.inr (hw _ ow108)))))
  have Q78 := (Q72.wr W73)
  obtain ⟨T79, h79, X79, e79, W79, st79⟩ := putF X73 hx hZ hown (host := "") (Or.inl (hw _ ow109)) Via.refl e73 Q77 Q78 (Or.inr ⟨(hw _ ow110), rfl, hnm⟩) (hw _ ow51) (ty := (.object "java/util/OptionalDouble")) (by decide) rfl rfl (g := (mkF m 108 #[.val (.ref a), .val (.ref pv), .val (.ref ti), .val (.double la), .second, .val (.double lo), .second, .val (.ref sp), .val (.ref be), .val (.ref al), .val (.ref ms), .val (.ref ac), .val (.ref sa)] [(.ref ms), (.ref a)])) rfl rfl (hb hby own_ll_d108)
  have N80 := Fr.snoc X79 N74 g
  have KP81 : Keep h0 h79 [a] := KP75.wr W79 (Or.inl (List.mem_of_getElem? (i := 0) rfl))
  have F82 : Fld Z h79 a "com/example/fixd/fixd/location/Location" "mslAltitude" "Ljava/util/OptionalDouble;" (.ref ms) := Q77.same W79
  refine ownStep st79 ?_
  refine ownStep (fun _ k => XS.aloadN X79.here hx rfl (hb hby own_ll_d111) rfl rfl k) ?_
  refine ownStep (fun _ k => XS.aload X79.here hx rfl (hb hby own_ll_d112) rfl rfl k) ?_
  show ownGo p.tables e below (T79.setTop (mkF m 114 #[.val (.ref a), .val (.ref pv), .val (.ref ti), .val (.double la), .second, .val (.double lo), .second, .val (.ref sp), .val (.ref be), .val (.ref al), .val (.ref ms), .val (.ref ac), .val (.ref sa)] [(.ref ac), (.ref a)])) _
  have Q83 := ((((((((((((((((G_accuracy.ext E3).ext E7).ext E11).ext E15).ext E19).ext E23).ext E27).ext E31).other W37 (.inr (ownNe (.inr (hw _ ow112)) (.inr (hw _ ow96))))).other W43 (.inr (ownNe (.inr (hw _ ow112)) (.inr (hw _ ow98))))).other W49 (.inr (ownNe (.inr (hw _ ow112)) (.inr (hw _ ow100))))).other W55 (.inr (ownNe (.inr (hw _ ow112)) (.inr (hw _ ow102))))).other W61 (.inr (ownNe (.inr (hw _ ow112)) (.inr (hw _ ow104))))).other W67 (.inr (ownNe (.inr (hw _ ow112)) (.inr (hw _ ow106))))).other W73 (.inr (ownNe (.inr (hw _ ow112)) (.inr (hw _ ow108))))).other W79 (.inr (ownNe (.inr (hw _ ow112)) (.inr (hw _ ow110)))))
  have Q84 := (Q78.wr W79)
  obtain ⟨T85, h85, X85, e85, W85, st85⟩ := putF X79 hx hZ hown (host := "") (Or.inl (hw _ ow111)) Via.refl e79 Q83 Q84 (Or.inr ⟨(hw _ ow112), rfl, hnm⟩) (hw _ ow51) (ty := (.object "java/util/OptionalDouble")) (by decide) rfl rfl (g := (mkF m 114 #[.val (.ref a), .val (.ref pv), .val (.ref ti), .val (.double la), .second, .val (.double lo), .second, .val (.ref sp), .val (.ref be), .val (.ref al), .val (.ref ms), .val (.ref ac), .val (.ref sa)] [(.ref ac), (.ref a)])) rfl rfl (hb hby own_ll_d114)
  have N86 := Fr.snoc X85 N80 g
  have KP87 : Keep h0 h85 [a] := KP81.wr W85 (Or.inl (List.mem_of_getElem? (i := 0) rfl))
  have F88 : Fld Z h85 a "com/example/fixd/fixd/location/Location" "accuracy" "Ljava/util/OptionalDouble;" (.ref ac) := Q83.same W85
  refine ownStep st85 ?_
  refine ownStep (fun _ k => XS.aloadN X85.here hx rfl (hb hby own_ll_d117) rfl rfl k) ?_
  refine ownStep (fun _ k => XS.aload X85.here hx rfl (hb hby own_ll_d118) rfl rfl k) ?_
  show ownGo p.tables e below (T85.setTop (mkF m 120 #[.val (.ref a), .val (.ref pv), .val (.ref ti), .val (.double la), .second, .val (.double lo), .second, .val (.ref sp), .val (.ref be), .val (.ref al), .val (.ref ms), .val (.ref ac), .val (.ref sa)] [(.ref sa), (.ref a)])) _
  have Q89 := (((((((((((((((((G_satellites.ext E3).ext E7).ext E11).ext E15).ext E19).ext E23).ext E27).ext E31).other W37 (.inr (ownNe (.inr (hw _ ow114)) (.inr (hw _ ow96))))).other W43 (.inr (ownNe (.inr (hw _ ow114)) (.inr (hw _ ow98))))).other W49 (.inr (ownNe (.inr (hw _ ow114)) (.inr (hw _ ow100))))).other W55 (.inr (ownNe (.inr (hw _ ow114)) (.inr (hw _ ow102))))).other W61 (.inr (ownNe (.inr (hw _ ow114)) (.inr (hw _ ow104))))).other W67 (.inr (ownNe (.inr (hw _ ow114)) (.inr (hw _ ow106))))).other W73 (.inr (ownNe (.inr (hw _ ow114)) (.inr (hw _ ow108))))).other W79 (.inr (ownNe (.inr (hw _ ow114)) (.inr (hw _ ow110))))).other W85 (.inr (ownNe (.inr (hw _ ow114)) (.inr (hw _ ow112)))))
  have Q90 := (Q84.wr W85)
  obtain ⟨T91, h91, X91, e91, W91, st91⟩ := putF X85 hx hZ hown (host := "") (Or.inl (hw _ ow113)) Via.refl e85 Q89 Q90 (Or.inr ⟨(hw _ ow114), rfl, hnm⟩) (hw _ ow51) (ty := (.object "java/util/OptionalInt")) (by decide) rfl rfl (g := (mkF m 120 #[.val (.ref a), .val (.ref pv), .val (.ref ti), .val (.double la), .second, .val (.double lo), .second, .val (.ref sp), .val (.ref be), .val (.ref al), .val (.ref ms), .val (.ref ac), .val (.ref sa)] [(.ref sa), (.ref a)])) rfl rfl (hb hby own_ll_d120)
  have N92 := Fr.snoc X91 N86 g
  have KP93 : Keep h0 h91 [a] := KP87.wr W91 (Or.inl (List.mem_of_getElem? (i := 0) rfl))
  have F94 : Fld Z h91 a "com/example/fixd/fixd/location/Location" "satellites" "Ljava/util/OptionalInt;" (.ref sa) := Q89.same W91
  refine ownStep st91 ?_
  show ownGo p.tables e below (T91.setTop (mkF m 123 #[.val (.ref a), .val (.ref pv), .val (.ref ti), .val (.double la), .second, .val (.double lo), .second, .val (.ref sp), .val (.ref be), .val (.ref al), .val (.ref ms), .val (.ref ac), .val (.ref sa)] [])) _
  have Q95 := (((((((((F40.other W43 (.inr (ownNe (.inr (hw _ ow96)) (.inr (hw _ ow98))))).other W49 (.inr (ownNe (.inr (hw _ ow96)) (.inr (hw _ ow100))))).other W55 (.inr (ownNe (.inr (hw _ ow96)) (.inr (hw _ ow102))))).other W61 (.inr (ownNe (.inr (hw _ ow96)) (.inr (hw _ ow104))))).other W67 (.inr (ownNe (.inr (hw _ ow96)) (.inr (hw _ ow106))))).other W73 (.inr (ownNe (.inr (hw _ ow96)) (.inr (hw _ ow108))))).other W79 (.inr (ownNe (.inr (hw _ ow96)) (.inr (hw _ ow110))))).other W85 (.inr (ownNe (.inr (hw _ ow96)) (.inr (hw _ ow112))))).other W91 (.inr (ownNe (.inr (hw _ ow96)) (.inr (hw _ ow114)))))
  have Q96 := ((((((((F46.other W49 (.inr (ownNe (.inr (hw _ ow98)) (.inr (hw _ ow100))))).other W55 (.inr (ownNe (.inr (hw _ ow98)) (.inr (hw _ ow102))))).other W61 (.inr (ownNe (.inr (hw _ ow98)) (.inr (hw _ ow104))))).other W67 (.inr (ownNe (.inr (hw _ ow98)) (.inr (hw _ ow106))))).other W73 (.inr (ownNe (.inr (hw _ ow98)) (.inr (hw _ ow108))))).other W79 (.inr (ownNe (.inr (hw _ ow98)) (.inr (hw _ ow110))))).other W85 (.inr (ownNe (.inr (hw _ ow98)) (.inr (hw _ ow112))))).other W91 (.inr (ownNe (.inr (hw _ ow98)) (.inr (hw _ ow114)))))
  have Q97 := (((((((F52.other W55 (.inr (ownNe (.inr (hw _ ow100)) (.inr (hw _ ow102))))).other W61 (.inr (ownNe (.inr (hw _ ow100)) (.inr (hw _ ow104))))).other W67 (.inr (ownNe (.inr (hw _ ow100)) (.inr (hw _ ow106))))).other W73 (.inr (ownNe (.inr (hw _ ow100)) (.inr (hw _ ow108))))).other W79 (.inr (ownNe (.inr (hw _ ow100)) (.inr (hw _ ow110))))).other W85 (.inr (ownNe (.inr (hw _ ow100)) (.inr (hw _ ow112))))).other W91 (.inr (ownNe (.inr (hw _ ow100)) (.inr (hw _ ow114)))))
  have Q98 := ((((((F58.other W61 (.inr (ownNe (.inr (hw _ ow102)) (.inr (hw _ ow104))))).other W67 (.inr (ownNe (.inr (hw _ ow102)) (.inr (hw _ ow106))))).other W73 (.inr (ownNe (.inr (hw _ ow102)) (.inr (hw _ ow108))))).other W79 (.inr (ownNe (.inr (hw _ ow102)) (.inr (hw _ ow110))))).other W85 (.inr (ownNe (.inr (hw _ ow102)) (.inr (hw _ ow112))))).other W91 (.inr (ownNe (.inr (hw _ ow102)) (.inr (hw _ ow114)))))
  have Q99 := (((((F64.other W67 (.inr (ownNe (.inr (hw _ ow104)) (.inr (hw _ ow106))))).other W73 (.inr (ownNe (.inr (hw _ ow104)) (.inr (hw _ ow108))))).other W79 (.inr (ownNe (.inr (hw _ ow104)) (.inr (hw _ ow110))))).other W85 (.inr (ownNe (.inr (hw _ ow104)) (.inr (hw _ ow112))))).other W91 (.inr (ownNe (.inr (hw _ ow104)) (.inr (hw _ ow114)))))
  have Q100 := ((((F70.other W73 (.inr (ownNe (.inr (hw _ ow106)) (.inr (hw _ ow108))))).other W79 (.inr (ownNe (.inr (hw _ ow106)) (.inr (hw _ ow110))))).other W85 (.inr (ownNe (.inr (hw _ ow106)) (.inr (hw _ ow112))))).other W91 (.inr (ownNe (.inr (hw _ ow106)) (.inr (hw _ ow114)))))
  have Q101 := (((F76.other W79 (.inr (ownNe (.inr (hw _ ow108)) (.inr (hw _ ow110))))).other W85 (.inr (ownNe (.inr (hw _ ow108)) (.inr (hw _ ow112))))).other W91 (.inr (ownNe (.inr (hw _ ow108)) (.inr (hw _ ow114)))))
  have Q102 := ((F82.other W85 (.inr (ownNe (.inr (hw _ ow110)) (.inr (hw _ ow112))))).other W91 (.inr (ownNe (.inr (hw _ ow110)) (.inr (hw _ ow114)))))
  have Q103 := (F88.other W91 (.inr (ownNe (.inr (hw _ ow112)) (.inr (hw _ ow114)))))
  exact ownRetW X91 hS (show _ ≤ T91.heap.size by rw [e91]; exact (Nat.le_trans hk31 (Nat.le_trans (Nat.le_trans (Nat.le_trans (Nat.le_trans (Nat.le_trans (Nat.le_trans (Nat.le_trans (Nat.le_trans (Nat.le_trans (Nat.le_trans (Nat.le_refl _) (Keep.of_wr W37).1) (Keep.of_wr W43).1) (Keep.of_wr W49).1) (Keep.of_wr W55).1) (Keep.of_wr W61).1) (Keep.of_wr W67).1) (Keep.of_wr W73).1) (Keep.of_wr W79).1) (Keep.of_wr W85).1) (Keep.of_wr W91).1))) (v := none) Bd.notSynchronized (fun _ => rfl) (fun _ hr => X91.returnOut hx Bd.returns (hb hby own_ll_d123) hr) (by rw [e91]; exact ⟨rfl, N92, KP93, ⟨Q95, Q96, Q97, Q98, Q99, Q100, Q101, Q102, Q103, F94⟩⟩) (by decide) (by decide)
theorem own_ll6_d0 : decode prog_17_method_2_code 0 = .ok (.aload_n 0, 1) := by decide +kernel
theorem own_ll6_d1 : decode prog_17_method_2_code 1 = .ok (.aload_n 1, 1) := by decide +kernel
theorem own_ll6_d2 : decode prog_17_method_2_code 2 = .ok (.aload_n 2, 1) := by decide +kernel
theorem own_ll6_d3 : decode prog_17_method_2_code 3 = .ok (.dload_n 3, 1) := by decide +kernel
theorem own_ll6_d4 : decode prog_17_method_2_code 4 = .ok (.dload 5, 2) := by decide +kernel
theorem own_ll6_d6 : decode prog_17_method_2_code 6 = .ok (.aload 7, 2) := by decide +kernel
theorem own_ll6_d8 : decode prog_17_method_2_code 8 = .ok (.aload 8, 2) := by decide +kernel
theorem own_ll6_d10 : decode prog_17_method_2_code 10 = .ok (.invokestatic 58, 3) := by decide +kernel
theorem own_ll6_d13 : decode prog_17_method_2_code 13 = .ok (.invokestatic 58, 3) := by decide +kernel
theorem own_ll6_d16 : decode prog_17_method_2_code 16 = .ok (.invokestatic 58, 3) := by decide +kernel
theorem own_ll6_d19 : decode prog_17_method_2_code 19 = .ok (.invokestatic 64, 3) := by decide +kernel
theorem own_ll6_d22 : decode prog_17_method_2_code 22 = .ok (.invokespecial 69, 3) := by decide +kernel
theorem own_ll6_d25 : decode prog_17_method_2_code 25 = .ok (.return_, 1) := by decide +kernel
theorem own_ll6_pn : plainName "com/example/fixd/fixd/location/Location" = true := by first | (simp [plainName, overriddenIn]; done) | decide +kernel
theorem own_ll6_pd0 : parseMethodDescriptor "()Ljava/util/OptionalDouble;" = some ⟨[], some (.object "java/util/OptionalDouble")⟩ := by decide +kernel
theorem own_ll6_pd1 : parseMethodDescriptor "()Ljava/util/OptionalInt;" = some ⟨[], some (.object "java/util/OptionalInt")⟩ := by decide +kernel
theorem own_ll6_pd2 : parseMethodDescriptor "(Ljava/lang/String;Ljava/time/Instant;DDLjava/util/OptionalDouble;Ljava/util/OptionalDouble;Ljava/util/OptionalDouble;Ljava/util/OptionalDouble;Ljava/util/OptionalDouble;Ljava/util/OptionalInt;)V" = some ⟨[(.object "java/lang/String"), (.object "java/time/Instant"), .double, .double, (.object "java/util/OptionalDouble"), (.object "java/util/OptionalDouble"), (.object "java/util/OptionalDouble"), (.object "java/util/OptionalDouble"), (.object "java/util/OptionalDouble"), (.object "java/util/OptionalInt")], none⟩ := by decide +kernel
theorem own_ll6_ef (m : MethodId) (x0 : Addr) (x1 : Addr) (x2 : Addr) (x3 : UInt64) (x4 : UInt64) (x5 : Addr) (x6 : Addr) : entryFrame m #[(.ref x0), (.ref x1), (.ref x2), (.double x3), (.double x4), (.ref x5), (.ref x6)] 9 = mkF m 0 #[.val (.ref x0), .val (.ref x1), .val (.ref x2), .val (.double x3), .second, .val (.double x4), .second, .val (.ref x5), .val (.ref x6)] [] := by first | (simp [entryFrame, mkF, argsToLocals, Value.category]; done) | rfl
def own_ll6_Q (Z : State) (em : Addr) (ei : Addr) (a : Addr) (pv : Addr) (ti : Addr) (la : UInt64) (lo : UInt64) (sp : Addr) (be : Addr) (h0 : Heap) (n0 : Nat) (vv_ : Option Value) (hh_ : Heap) (LL_ : List Loc) : Prop := vv_ = none ∧ Fr n0 LL_ ∧ Keep h0 hh_ [a] ∧ (Llo Z hh_ a pv ti la lo sp be em em em ei)
set_option maxRecDepth 65536 in
set_option maxHeartbeats 40000000 in
theorem own_ll6 (l : Launch) (Z : State) (a0 : Array Value) (hw : ∀ d ∈ tables_1, d.before a0 Z = true) (ws : List Jvm.Cond) (em : Addr) (ei : Addr) (a : Addr) (pv : Addr) (ti : Addr) (la : UInt64) (lo : UInt64) (sp : Addr) (be : Addr) (h0 : Heap) (n0 : Nat) (Z0 : n0 ≤ h0.size) (hOld : Old Z n0 h0) (Sem : Sta Z Z.heap "java/util/OptionalDouble" "EMPTY" "Ljava/util/OptionalDouble;" (.ref em)) (Oem : Opt Z Z.heap em (0 : Int32) 0) (Eem : Exa Z Z.heap em "java/util/OptionalDouble") (Sei : Sta Z Z.heap "java/util/OptionalInt" "EMPTY" "Ljava/util/OptionalInt;" (.ref ei)) (Eei : Exa Z Z.heap ei "java/util/OptionalInt") (E : Exa Z h0 a "com/example/fixd/fixd/location/Location") (g : n0 ≤ a) (G_provider : Fld Z h0 a "com/example/fixd/fixd/location/Location" "provider" "Ljava/lang/String;" .null) (G_time : Fld Z h0 a "com/example/fixd/fixd/location/Location" "time" "Ljava/time/Instant;" .null) (G_latitude : Fld Z h0 a "com/example/fixd/fixd/location/Location" "latitude" "D" (.double 0)) (G_longitude : Fld Z h0 a "com/example/fixd/fixd/location/Location" "longitude" "D" (.double 0)) (G_speed : Fld Z h0 a "com/example/fixd/fixd/location/Location" "speed" "Ljava/util/OptionalDouble;" .null) (G_bearing : Fld Z h0 a "com/example/fixd/fixd/location/Location" "bearing" "Ljava/util/OptionalDouble;" .null) (G_altitude : Fld Z h0 a "com/example/fixd/fixd/location/Location" "altitude" "Ljava/util/OptionalDouble;" .null) (G_mslAltitude : Fld Z h0 a "com/example/fixd/fixd/location/Location" "mslAltitude" "Ljava/util/OptionalDouble;" .null) (G_accuracy : Fld Z h0 a "com/example/fixd/fixd/location/Location" "accuracy" "Ljava/util/OptionalDouble;" .null) (G_satellites : Fld Z h0 a "com/example/fixd/fixd/location/Location" "satellites" "Ljava/util/OptionalInt;" .null) :
    MetFree l (⟨"com/example/fixd/fixd/location/Location", "<init>", "(Ljava/lang/String;Ljava/time/Instant;DDLjava/util/OptionalDouble;Ljava/util/OptionalDouble;)V"⟩ : MethodName) (head1 (Jvm.Cond.code (⟨"com/example/fixd/fixd/location/Location", "<init>", "(Ljava/lang/String;Ljava/time/Instant;DDLjava/util/OptionalDouble;Ljava/util/OptionalDouble;)V"⟩ : MethodName) prog_17_method_2_code 9 none :: ws) ({ frames := 3, cells := 16, slots := 276, locals := 48 } : Room)) (fun aa_ UU_ => aa_ = #[(.ref a), (.ref pv), (.ref ti), (.double la), (.double lo), (.ref sp), (.ref be)] ∧ Z.Warmed39 UU_.vm ∧ UU_.heap = h0) (fun _ _ _ _ _ => True) (fun _ UU_ oo_ UV_ => ∃ vv_ LL_, oo_ = .returned vv_ ∧ own_ll6_Q Z em ei a pv ti la lo sp be h0 n0 vv_ UV_.heap LL_ ∧ ReturnedEndW UU_ oo_ UV_ LL_ ({ frames := 3, cells := 16, slots := 276, locals := 48 } : Room).cells ({ frames := 3, cells := 16, slots := 276, locals := 48 } : Room).slots) := by
  refine MetFree.of_bodySF (plainFor_of_name own_ll6_pn) hisR ?_
  intro p e s m args below meth c s₁ Bd hml0 hP hK
  obtain ⟨rfl, hZ, hh⟩ := hP
  have hx := Bd.exec
  have hby := Bd.bytes
  have hml : c.maxLocals = 9 := hml0
  have hown : s.vm.findClass "com/example/fixd/fixd/location/Location" = some m.cls := findClass_of_methodNamed Bd.named
  have hnm := (name_of_methodNamed Bd.named Bd.method).1
  have X0 : Stand p l e ({ frames := 3, cells := 16, slots := 276, locals := 48 } : Room) (s.setVm s.vm) m #[(.ref a), (.ref pv), (.ref ti), (.double la), (.double lo), (.ref sp), (.ref be)] below meth c s₁ [] 0 0 := Stand.of_body Bd
  have e0 : s₁.heap = h0 := by rw [← hh, Bd.state]; rfl
  have N0 := Fr.nil n0
  have KP0 : Keep h0 h0 [a] := Keep.refl _ _
  have hS : s.Since s.vm 0 := (State.WarmedH.refl s).since 0
  refine ownFinW (Q := own_ll6_Q Z em ei a pv ti la lo sp be h0 n0) ?_
  refine ownStep (fun _ k => castTop (own_ll6_ef m a pv ti la lo sp be) k) ?_
  show ownGo p.tables e below (s₁.setTop (mkF m 0 #[.val (.ref a), .val (.ref pv), .val (.ref ti), .val (.double la), .second, .val (.double lo), .second, .val (.ref sp), .val (.ref be)] [])) _
  refine ownStep (fun _ k => XS.aloadN X0.here hx rfl (hb hby own_ll6_d0) rfl rfl k) ?_
  refine ownStep (fun _ k => XS.aloadN X0.here hx rfl (hb hby own_ll6_d1) rfl rfl k) ?_
  refine ownStep (fun _ k => XS.aloadN X0.here hx rfl (hb hby own_ll6_d2) rfl rfl k) ?_
  refine ownStep (fun _ k => XS.dloadN X0.here hx rfl (hb hby own_ll6_d3) rfl k) ?_
  refine ownStep (fun _ k => XS.dload X0.here hx rfl (hb hby own_ll6_d4) rfl k) ?_
  refine ownStep (fun _ k => XS.aload X0.here hx rfl (hb hby own_ll6_d6) rfl rfl k) ?_
  refine ownStep (fun _ k => XS.aload X0.here hx rfl (hb hby own_ll6_d8) rfl rfl k) ?_
  show ownGo p.tables e below (s₁.setTop (mkF m 10 #[.val (.ref a), .val (.ref pv), .val (.ref ti), .val (.double la), .second, .val (.double lo), .second, .val (.ref sp), .val (.ref be)] [(.ref be), (.ref sp), (.double lo), (.double la), (.ref ti), (.ref pv), (.ref a)])) _
  have Zs2 : n0 ≤ h0.size := Nat.le_trans Z0 KP0.1
  obtain ⟨_, _, ⟨T1, L1, k1, n1⟩, -, X1, ⟨Lc1, hQ1, l1, y1, z1⟩, st1⟩ := Jvm.LawKit.callS X0 hx (y := (⟨"java/util/OptionalDouble", "empty", "()Ljava/util/OptionalDouble;"⟩ : MethodName)) hown (mvT hZ (hw _ ow71)) (mvT hZ (hw _ ow64)) (mvT hZ (hw _ ow65)) (mvT hZ (hw _ ow66)) (by decide) (backOf (W := 9) (own_emp l Z a0 hw [] em h0 n0 Zs2 hOld Sem Oem Eem) hZ (hw _ ow66) (hw _ ow65) (by decide) (by decide)) (g := (mkF m 10 #[.val (.ref a), .val (.ref pv), .val (.ref ti), .val (.double la), .second, .val (.double lo), .second, .val (.ref sp), .val (.ref be)] [(.ref be), (.ref sp), (.double lo), (.double la), (.ref ti), (.ref pv), (.ref a)])) rfl (by rw [hml]; rfl) (argsL := []) (rest := [(.ref be), (.ref sp), (.double lo), (.double la), (.ref ti), (.ref pv), (.ref a)]) (lenOf own_ll6_pd0 rfl) rfl (by show 2 * 0 + _ ≤ _; exact Nat.le_of_eq rfl) (hb hby own_ll6_d10) (fun _ _ => ⟨rfl, e0, (by decide : 0 + 0 ≤ _), (by decide : 0 + 0 ≤ _)⟩)
  dsimp only [Pt.U, Pt.locs, Pt.cells, Pt.slots] at X1 l1 y1 z1 st1 hQ1
  obtain rfl : k1 = 0 := y1
  obtain rfl : n1 = 0 := z1
  obtain ⟨rfl, N1q, R1⟩ := hQ1
  have N1 : Fr n0 L1 := l1 ▸ Fr.app N0 N1q
  refine ownStep (fun _ k => st1 _ k) ?_
  show ownGo p.tables e below (T1.setTop (mkF m 13 #[.val (.ref a), .val (.ref pv), .val (.ref ti), .val (.double la), .second, .val (.double lo), .second, .val (.ref sp), .val (.ref be)] [(.ref em), (.ref be), (.ref sp), (.double lo), (.double la), (.ref ti), (.ref pv), (.ref a)])) _
  have Zs4 : n0 ≤ h0.size := Nat.le_trans Z0 KP0.1
  obtain ⟨_, _, ⟨T3, L3, k3, n3⟩, -, X3, ⟨Lc3, hQ3, l3, y3, z3⟩, st3⟩ := Jvm.LawKit.callS X1 hx (y := (⟨"java/util/OptionalDouble", "empty", "()Ljava/util/OptionalDouble;"⟩ : MethodName)) hown (mvT hZ (hw _ ow71)) (mvT hZ (hw _ ow64)) (mvT hZ (hw _ ow65)) (mvT hZ (hw _ ow66)) (by decide) (backOf (W := 10) (own_emp l Z a0 hw [] em h0 n0 Zs4 hOld Sem Oem Eem) hZ (hw _ ow66) (hw _ ow65) (by decide) (by decide)) (g := (mkF m 13 #[.val (.ref a), .val (.ref pv), .val (.ref ti), .val (.double la), .second, .val (.double lo), .second, .val (.ref sp), .val (.ref be)] [(.ref em), (.ref be), (.ref sp), (.double lo), (.double la), (.ref ti), (.ref pv), (.ref a)])) rfl (by rw [hml]; rfl) (argsL := []) (rest := [(.ref em), (.ref be), (.ref sp), (.double lo), (.double la), (.ref ti), (.ref pv), (.ref a)]) (lenOf own_ll6_pd0 rfl) rfl (by show 2 * 0 + _ ≤ _; exact Nat.le_of_eq rfl) (hb hby own_ll6_d13) (fun _ _ => ⟨rfl, R1, (by decide : 0 + 0 ≤ _), (by decide : 0 + 0 ≤ _)⟩)
  dsimp only [Pt.U, Pt.locs, Pt.cells, Pt.slots] at X3 l3 y3 z3 st3 hQ3
  obtain rfl : k3 = 0 := y3
  obtain rfl : n3 = 0 := z3
  obtain ⟨rfl, N3q, R3⟩ := hQ3
  have N3 : Fr n0 L3 := l3 ▸ Fr.app N1 N3q
  refine ownStep (fun _ k => st3 _ k) ?_
  show ownGo p.tables e below (T3.setTop (mkF m 16 #[.val (.ref a), .val (.ref pv), .val (.ref ti), .val (.double la), .second, .val (.double lo), .second, .val (.ref sp), .val (.ref be)] [(.ref em), (.ref em), (.ref be), (.ref sp), (.double lo), (.double la), (.ref ti), (.ref pv), (.ref a)])) _
  have Zs6 : n0 ≤ h0.size := Nat.le_trans Z0 KP0.1
  obtain ⟨_, _, ⟨T5, L5, k5, n5⟩, -, X5, ⟨Lc5, hQ5, l5, y5, z5⟩, st5⟩ := Jvm.LawKit.callS X3 hx (y := (⟨"java/util/OptionalDouble", "empty", "()Ljava/util/OptionalDouble;"⟩ : MethodName)) hown (mvT hZ (hw _ ow71)) (mvT hZ (hw _ ow64)) (mvT hZ (hw _ ow65)) (mvT hZ (hw _ ow66)) (by decide) (backOf (W := 11) (own_emp l Z a0 hw [] em h0 n0 Zs6 hOld Sem Oem Eem) hZ (hw _ ow66) (hw _ ow65) (by decide) (by decide)) (g := (mkF m 16 #[.val (.ref a), .val (.ref pv), .val (.ref ti), .val (.double la), .second, .val (.double lo), .second, .val (.ref sp), .val (.ref be)] [(.ref em), (.ref em), (.ref be), (.ref sp), (.double lo), (.double la), (.ref ti), (.ref pv), (.ref a)])) rfl (by rw [hml]; rfl) (argsL := []) (rest := [(.ref em), (.ref em), (.ref be), (.ref sp), (.double lo), (.double la), (.ref ti), (.ref pv), (.ref a)]) (lenOf own_ll6_pd0 rfl) rfl (by show 2 * 0 + _ ≤ _; exact Nat.le_of_eq rfl) (hb hby own_ll6_d16) (fun _ _ => ⟨rfl, R3, (by decide : 0 + 0 ≤ _), (by decide : 0 + 0 ≤ _)⟩)
  dsimp only [Pt.U, Pt.locs, Pt.cells, Pt.slots] at X5 l5 y5 z5 st5 hQ5
  obtain rfl : k5 = 0 := y5
  obtain rfl : n5 = 0 := z5
  obtain ⟨rfl, N5q, R5⟩ := hQ5
  have N5 : Fr n0 L5 := l5 ▸ Fr.app N3 N5q
  refine ownStep (fun _ k => st5 _ k) ?_
  show ownGo p.tables e below (T5.setTop (mkF m 19 #[.val (.ref a), .val (.ref pv), .val (.ref ti), .val (.double la), .second, .val (.double lo), .second, .val (.ref sp), .val (.ref be)] [(.ref em), (.ref em), (.ref em), (.ref be), (.ref sp), (.double lo), (.double la), (.ref ti), (.ref pv), (.ref a)])) _
  have Zs8 : n0 ≤ h0.size := Nat.le_trans Z0 KP0.1
  obtain ⟨_, _, ⟨T7, L7, k7, n7⟩, -, X7, ⟨Lc7, hQ7, l7, y7, z7⟩, st7⟩ := Jvm.LawKit.callS X5 hx (y := (⟨"java/util/OptionalInt", "empty", "()Ljava/util/OptionalInt;"⟩ : MethodName)) hown (mvT hZ (hw _ ow72)) (mvT hZ (hw _ ow73)) (mvT hZ (hw _ ow74)) (mvT hZ (hw _ ow75)) (by decide) (backOf (W := 12) (own_emi l Z a0 hw [] ei h0 n0 Zs8 hOld Sei Eei) hZ (hw _ ow75) (hw _ ow74) (by decide) (by decide)) (g := (mkF m 19 #[.val (.ref a), .val (.ref pv), .val (.ref ti), .val (.double la), .second, .val (.double lo), .second, .val (.ref sp), .val (.ref be)] [(.ref em), (.ref em), (.ref em), (.ref be), (.ref sp), (.double lo), (.double la), (.ref ti), (.ref pv), (.ref a)])) rfl (by rw [hml]; rfl) (argsL := []) (rest := [(.ref em), (.ref em), (.ref em), (.ref be), (.ref sp), (.double lo), (.double la), (.ref ti), (.ref pv), (.ref a)]) (lenOf own_ll6_pd1 rfl) rfl (by show 2 * 0 + _ ≤ _; exact Nat.le_of_eq rfl) (hb hby own_ll6_d19) (fun _ _ => ⟨rfl, R5, (by decide : 0 + 0 ≤ _), (by decide : 0 + 0 ≤ _)⟩)
  dsimp only [Pt.U, Pt.locs, Pt.cells, Pt.slots] at X7 l7 y7 z7 st7 hQ7
  obtain rfl : k7 = 0 := y7
  obtain rfl : n7 = 0 := z7
  obtain ⟨rfl, N7q, R7⟩ := hQ7
  have N7 : Fr n0 L7 := l7 ▸ Fr.app N5 N7q
  refine ownStep (fun _ k => st7 _ k) ?_
  show ownGo p.tables e below (T7.setTop (mkF m 22 #[.val (.ref a), .val (.ref pv), .val (.ref ti), .val (.double la), .second, .val (.double lo), .second, .val (.ref sp), .val (.ref be)] [(.ref ei), (.ref em), (.ref em), (.ref em), (.ref be), (.ref sp), (.double lo), (.double la), (.ref ti), (.ref pv), (.ref a)])) _
  have Zs10 : n0 ≤ h0.size := Nat.le_trans Z0 KP0.1
  obtain ⟨_, _, ⟨T9, L9, k9, n9⟩, -, X9, hSq9, gq9, ⟨Lc9, hQ9, l9, y9, z9⟩, st9⟩ := X7.specialBackS hx (y := (⟨"com/example/fixd/fixd/location/Location", "<init>", "(Ljava/lang/String;Ljava/time/Instant;DDLjava/util/OptionalDouble;Ljava/util/OptionalDouble;Ljava/util/OptionalDouble;Ljava/util/OptionalDouble;Ljava/util/OptionalDouble;Ljava/util/OptionalInt;)V"⟩ : MethodName)) rfl hown (mvT hZ (hw _ ow77)) (mvT hZ (hw _ ow78)) (mvT hZ (hw _ ow79)) (by decide) (backOfS (W := 0) (own_ll l Z a0 hw [] a pv ti la lo sp be em em em ei h0 n0 Zs10 E g G_provider G_time G_latitude G_longitude G_speed G_bearing G_altitude G_mslAltitude G_accuracy G_satellites) hZ (hw _ ow79) (hw _ ow52) (by decide) (by decide)) (g := (mkF m 22 #[.val (.ref a), .val (.ref pv), .val (.ref ti), .val (.double la), .second, .val (.double lo), .second, .val (.ref sp), .val (.ref be)] [(.ref ei), (.ref em), (.ref em), (.ref em), (.ref be), (.ref sp), (.double lo), (.double la), (.ref ti), (.ref pv), (.ref a)])) rfl (by rw [hml]; rfl) (Steps.refl _) (a := a) (argsL := [(.ref pv), (.ref ti), (.double la), (.double lo), (.ref sp), (.ref be), (.ref em), (.ref em), (.ref em), (.ref ei)]) (rest := []) (lenOf own_ll6_pd2 rfl) rfl (by show 2 * 0 + _ ≤ _; exact Nat.le_of_eq rfl) (hb hby own_ll6_d22) (fun _ _ => ⟨rfl, R7, (by decide : 0 + 16 ≤ _), (by decide : 0 + 276 ≤ _)⟩)
  dsimp only [Pt.U, Pt.locs, Pt.cells, Pt.slots] at X9 l9 y9 z9 st9 hQ9 hSq9 gq9
  obtain ⟨X9, hS, hZ, hown⟩ := rebS hS (show _ ≤ T7.heap.size by rw [R7]; exact (Nat.zero_le _)) X9 hSq9 gq9 hZ hown
  obtain rfl : k9 = 16 := y9
  obtain rfl : n9 = 276 := z9
  obtain ⟨rfl, N9q, R9, P11⟩ := hQ9
  have N9 : Fr n0 L9 := l9 ▸ Fr.app N7 N9q
  refine ownStep (fun _ k => st9.trans k) ?_
  have KP12 : Keep h0 T9.heap [a] := KP0.trans R9 (allS (Or.inl (List.mem_of_getElem? (i := 0) rfl)) all0)
  show ownGo p.tables e below (T9.setTop (mkF m 25 #[.val (.ref a), .val (.ref pv), .val (.ref ti), .val (.double la), .second, .val (.double lo), .second, .val (.ref sp), .val (.ref be)] [])) _
  exact ownRetW X9 hS (Nat.le_refl _) (v := none) Bd.notSynchronized (fun _ => rfl) (fun _ hr => X9.returnOut hx Bd.returns (hb hby own_ll6_d25) hr) (⟨rfl, N9, KP12, P11⟩) (by decide) (by decide)
theorem own_cc_d0 : decode prog_5_method_2_code 0 = .ok (.aload_n 0, 1) := by decide +kernel
theorem own_cc_d1 : decode prog_5_method_2_code 1 = .ok (.invokespecial 34, 3) := by decide +kernel
theorem own_cc_d4 : decode prog_5_method_2_code 4 = .ok (.aload_n 0, 1) := by decide +kernel
theorem own_cc_d5 : decode prog_5_method_2_code 5 = .ok (.aload_n 1, 1) := by decide +kernel
theorem own_cc_d6 : decode prog_5_method_2_code 6 = .ok (.invokevirtual 39, 3) := by decide +kernel
theorem own_cc_d9 : decode prog_5_method_2_code 9 = .ok (.putfield 42, 3) := by decide +kernel
theorem own_cc_d12 : decode prog_5_method_2_code 12 = .ok (.aload_n 0, 1) := by decide +kernel
theorem own_cc_d13 : decode prog_5_method_2_code 13 = .ok (.aload_n 1, 1) := by decide +kernel
theorem own_cc_d14 : decode prog_5_method_2_code 14 = .ok (.invokevirtual 45, 3) := by decide +kernel
theorem own_cc_d17 : decode prog_5_method_2_code 17 = .ok (.putfield 49, 3) := by decide +kernel
theorem own_cc_d20 : decode prog_5_method_2_code 20 = .ok (.aload_n 0, 1) := by decide +kernel
theorem own_cc_d21 : decode prog_5_method_2_code 21 = .ok (.aload_n 1, 1) := by decide +kernel
theorem own_cc_d22 : decode prog_5_method_2_code 22 = .ok (.invokevirtual 51, 3) := by decide +kernel
theorem own_cc_d25 : decode prog_5_method_2_code 25 = .ok (.putfield 55, 3) := by decide +kernel
theorem own_cc_d28 : decode prog_5_method_2_code 28 = .ok (.aload_n 0, 1) := by decide +kernel
theorem own_cc_d29 : decode prog_5_method_2_code 29 = .ok (.aload_n 1, 1) := by decide +kernel
theorem own_cc_d30 : decode prog_5_method_2_code 30 = .ok (.invokevirtual 58, 3) := by decide +kernel
theorem own_cc_d33 : decode prog_5_method_2_code 33 = .ok (.putfield 61, 3) := by decide +kernel
theorem own_cc_d36 : decode prog_5_method_2_code 36 = .ok (.aload_n 0, 1) := by decide +kernel
theorem own_cc_d37 : decode prog_5_method_2_code 37 = .ok (.aload_n 1, 1) := by decide +kernel
theorem own_cc_d38 : decode prog_5_method_2_code 38 = .ok (.invokevirtual 63, 3) := by decide +kernel
theorem own_cc_d41 : decode prog_5_method_2_code 41 = .ok (.putfield 66, 3) := by decide +kernel
theorem own_cc_d44 : decode prog_5_method_2_code 44 = .ok (.aload_n 0, 1) := by decide +kernel
theorem own_cc_d45 : decode prog_5_method_2_code 45 = .ok (.aload_n 1, 1) := by decide +kernel
theorem own_cc_d46 : decode prog_5_method_2_code 46 = .ok (.invokevirtual 69, 3) := by decide +kernel
theorem own_cc_d49 : decode prog_5_method_2_code 49 = .ok (.putfield 72, 3) := by decide +kernel
theorem own_cc_d52 : decode prog_5_method_2_code 52 = .ok (.aload_n 0, 1) := by decide +kernel
theorem own_cc_d53 : decode prog_5_method_2_code 53 = .ok (.aload_n 1, 1) := by decide +kernel
theorem own_cc_d54 : decode prog_5_method_2_code 54 = .ok (.invokevirtual 74, 3) := by decide +kernel
theorem own_cc_d57 : decode prog_5_method_2_code 57 = .ok (.putfield 77, 3) := by decide +kernel
theorem own_cc_d60 : decode prog_5_method_2_code 60 = .ok (.aload_n 0, 1) := by decide +kernel
theorem own_cc_d61 : decode prog_5_method_2_code 61 = .ok (.aload_n 1, 1) := by decide +kernel
theorem own_cc_d62 : decode prog_5_method_2_code 62 = .ok (.invokevirtual 79, 3) := by decide +kernel
theorem own_cc_d65 : decode prog_5_method_2_code 65 = .ok (.putfield 82, 3) := by decide +kernel
theorem own_cc_d68 : decode prog_5_method_2_code 68 = .ok (.aload_n 0, 1) := by decide +kernel
theorem own_cc_d69 : decode prog_5_method_2_code 69 = .ok (.aload_n 1, 1) := by decide +kernel
theorem own_cc_d70 : decode prog_5_method_2_code 70 = .ok (.invokevirtual 84, 3) := by decide +kernel
theorem own_cc_d73 : decode prog_5_method_2_code 73 = .ok (.putfield 87, 3) := by decide +kernel
theorem own_cc_d76 : decode prog_5_method_2_code 76 = .ok (.aload_n 0, 1) := by decide +kernel
theorem own_cc_d77 : decode prog_5_method_2_code 77 = .ok (.aload_n 1, 1) := by decide +kernel
theorem own_cc_d78 : decode prog_5_method_2_code 78 = .ok (.invokevirtual 89, 3) := by decide +kernel
theorem own_cc_d81 : decode prog_5_method_2_code 81 = .ok (.putfield 93, 3) := by decide +kernel
theorem own_cc_d84 : decode prog_5_method_2_code 84 = .ok (.return_, 1) := by decide +kernel
theorem own_cc_pn : plainName "com/example/fixd/fixd/client/Location" = true := by first | (simp [plainName, overriddenIn]; done) | decide +kernel
theorem own_cc_pd0 : parseMethodDescriptor "()Ljava/lang/String;" = some ⟨[], some (.object "java/lang/String")⟩ := by decide +kernel
theorem own_cc_pd1 : parseMethodDescriptor "()Ljava/time/Instant;" = some ⟨[], some (.object "java/time/Instant")⟩ := by decide +kernel
theorem own_cc_pd2 : parseMethodDescriptor "()D" = some ⟨[], some .double⟩ := by decide +kernel
theorem own_cc_pd3 : parseMethodDescriptor "()Ljava/util/OptionalDouble;" = some ⟨[], some (.object "java/util/OptionalDouble")⟩ := by decide +kernel
theorem own_cc_pd4 : parseMethodDescriptor "()Ljava/util/OptionalInt;" = some ⟨[], some (.object "java/util/OptionalInt")⟩ := by decide +kernel
theorem own_cc_ef (m : MethodId) (x0 : Addr) (x1 : Addr) : entryFrame m #[(.ref x0), (.ref x1)] 2 = mkF m 0 #[.val (.ref x0), .val (.ref x1)] [] := by first | (simp [entryFrame, mkF, argsToLocals, Value.category]; done) | rfl
def own_cc_Q (Z : State) (a : Addr) (q : Addr) (pv : Addr) (ti : Addr) (la : UInt64) (lo : UInt64) (sp : Addr) (be : Addr) (al : Addr) (ms : Addr) (ac : Addr) (sa : Addr) (h0 : Heap) (n0 : Nat) (vv_ : Option Value) (hh_ : Heap) (LL_ : List Loc) : Prop := vv_ = none ∧ Fr n0 LL_ ∧ Keep h0 hh_ [a] ∧ (Cli Z hh_ a pv ti la lo sp be al ms ac sa)
set_option maxRecDepth 65536 in
set_option maxHeartbeats 40000000 in
theorem own_cc (l : Launch) (Z : State) (a0 : Array Value) (hw : ∀ d ∈ tables_1, d.before a0 Z = true) (ws : List Jvm.Cond) (a : Addr) (q : Addr) (pv : Addr) (ti : Addr) (la : UInt64) (lo : UInt64) (sp : Addr) (be : Addr) (al : Addr) (ms : Addr) (ac : Addr) (sa : Addr) (h0 : Heap) (n0 : Nat) (Z0 : n0 ≤ h0.size) (E : Exa Z h0 a "com/example/fixd/fixd/client/Location") (g : n0 ≤ a) (Eq : Exa Z h0 q "com/example/fixd/fixd/location/Location") (hL : Llo Z h0 q pv ti la lo sp be al ms ac sa) (G_provider : Fld Z h0 a "com/example/fixd/fixd/client/Location" "provider" "Ljava/lang/String;" .null) (G_time : Fld Z h0 a "com/example/fixd/fixd/client/Location" "time" "Ljava/time/Instant;" .null) (G_latitude : Fld Z h0 a "com/example/fixd/fixd/client/Location" "latitude" "D" (.double 0)) (G_longitude : Fld Z h0 a "com/example/fixd/fixd/client/Location" "longitude" "D" (.double 0)) (G_speed : Fld Z h0 a "com/example/fixd/fixd/client/Location" "speed" "Ljava/util/OptionalDouble;" .null) (G_bearing : Fld Z h0 a "com/example/fixd/fixd/client/Location" "bearing" "Ljava/util/OptionalDouble;" .null) (G_altitude : Fld Z h0 a "com/example/fixd/fixd/client/Location" "altitude" "Ljava/util/OptionalDouble;" .null) (G_mslAltitude : Fld Z h0 a "com/example/fixd/fixd/client/Location" "mslAltitude" "Ljava/util/OptionalDouble;" .null) (G_accuracy : Fld Z h0 a "com/example/fixd/fixd/client/Location" "accuracy" "Ljava/util/OptionalDouble;" .null) (G_satellites : Fld Z h0 a "com/example/fixd/fixd/client/Location" "satellites" "Ljava/util/OptionalInt;" .null) :
    MetFree l (⟨"com/example/fixd/fixd/client/Location", "<init>", "(Lcom/example/fixd/fixd/location/Location;)V"⟩ : MethodName) (head1 (Jvm.Cond.code (⟨"com/example/fixd/fixd/client/Location", "<init>", "(Lcom/example/fixd/fixd/location/Location;)V"⟩ : MethodName) prog_5_method_2_code 2 none :: ws) ({ frames := 1, cells := 0, slots := 0, locals := 13 } : Room)) (fun aa_ UU_ => aa_ = #[(.ref a), (.ref q)] ∧ Z.Warmed39 UU_.vm ∧ UU_.heap = h0) (fun _ _ _ _ _ => True) (fun _ UU_ oo_ UV_ => ∃ vv_ LL_, oo_ = .returned vv_ ∧ own_cc_Q Z a q pv ti la lo sp be al ms ac sa h0 n0 vv_ UV_.heap LL_ ∧ FrameEnd UU_ oo_ UV_ LL_ ({ frames := 1, cells := 0, slots := 0, locals := 13 } : Room).cells ({ frames := 1, cells := 0, slots := 0, locals := 13 } : Room).slots) := by
  refine MetFree.of_bodySF (plainFor_of_name own_cc_pn) hisR ?_
  intro p e s m args below meth c s₁ Bd hml0 hP hK
  obtain ⟨rfl, hZ, hh⟩ := hP
  have hx := Bd.exec
  have hby := Bd.bytes
  have hml : c.maxLocals = 2 := hml0
  have hown : s.vm.findClass "com/example/fixd/fixd/client/Location" = some m.cls := findClass_of_methodNamed Bd.named
  have hnm := (name_of_methodNamed Bd.named Bd.method).1
  have X0 : Stand p l e ({ frames := 1, cells := 0, slots := 0, locals := 13 } : Room) s m #[(.ref a), (.ref q)] below meth c s₁ [] 0 0 := Stand.of_body Bd
  have e0 : s₁.heap = h0 := by rw [← hh, Bd.state]; rfl
  have N0 := Fr.nil n0
  have KP0 : Keep h0 h0 [a] := Keep.refl _ _
  refine ownFin (Q := own_cc_Q Z a q pv ti la lo sp be al ms ac sa h0 n0) ?_
  refine ownStep (fun _ k => castTop (own_cc_ef m a q) k) ?_
  show ownGo p.tables e below (s₁.setTop (mkF m 0 #[.val (.ref a), .val (.ref q)] [])) _
  refine ownStep (fun _ k => XS.aloadN X0.here hx rfl (hb hby own_cc_d0) rfl rfl k) ?_
  show ownGo p.tables e below (s₁.setTop (mkF m 1 #[.val (.ref a), .val (.ref q)] [(.ref a)])) _
  obtain ⟨T1, X1, e1, st1⟩ := initO X0 hx hZ hown (hw _ ow118) (hw _ ow20) (hw _ ow21) e0 (g := (mkF m 1 #[.val (.ref a), .val (.ref q)] [(.ref a)])) rfl (by rw [hml]; rfl) rfl (hb hby own_cc_d1) (by decide) (W := 0) (by show 2 * 0 + _ ≤ _; exact Nat.le_of_eq rfl) (by decide)
  refine ownStep st1 ?_
  refine ownStep (fun _ k => XS.aloadN X1.here hx rfl (hb hby own_cc_d4) rfl rfl k) ?_
  refine ownStep (fun _ k => XS.aloadN X1.here hx rfl (hb hby own_cc_d5) rfl rfl k) ?_
  show ownGo p.tables e below (T1.setTop (mkF m 6 #[.val (.ref a), .val (.ref q)] [(.ref q), (.ref a)])) _
  have Zs3 : n0 ≤ h0.size := Nat.le_trans Z0 KP0.1
  obtain ⟨cq2, kq2, q2a, q2b, q2c⟩ := isOf hZ e1 Eq
  obtain ⟨_, _, ⟨T2, L2, k2, n2⟩, -, X2, ⟨Lc2, hQ2, l2, y2, z2⟩, st2⟩ := X1.virtualBack hx (y := (⟨"com/example/fixd/fixd/location/Location", "provider", "()Ljava/lang/String;"⟩ : MethodName)) (z := (⟨"com/example/fixd/fixd/location/Location", "provider", "()Ljava/lang/String;"⟩ : MethodName)) hown (mvT hZ (hw _ ow119)) (mvT hZ (hw _ ow120)) (notFace_of_selects (args := #[]) (mvT hZ (hw _ ow122))) (mvT hZ (hw _ ow122)) (mvT hZ (hw _ ow121)) (by decide) (backOf (W := 1) (og0 l Z a0 hw [] q pv ti la lo sp be al ms ac sa h0 n0 Zs3 hL) hZ (hw _ ow123) (hw _ ow52) (by decide) (by decide)) q2a q2c (g := (mkF m 6 #[.val (.ref a), .val (.ref q)] [(.ref q), (.ref a)])) rfl (by rw [hml]; rfl) (Steps.refl _) (argsL := []) (rest := [(.ref a)]) (lenOf own_cc_pd0 rfl) rfl (by show 2 * 0 + _ ≤ _; exact Nat.le_of_eq rfl) (hb hby own_cc_d6) (fun _ _ => ⟨rfl, e1, (by decide : 0 + 0 ≤ _), (by decide : 0 + 0 ≤ _)⟩)
  dsimp only [Pt.U, Pt.locs, Pt.cells, Pt.slots] at X2 l2 y2 z2 st2 hQ2
  obtain rfl : k2 = 0 := y2
  obtain rfl : n2 = 0 := z2
  obtain ⟨rfl, N2q, R2⟩ := hQ2
  have N2 : Fr n0 L2 := l2 ▸ Fr.app N0 N2q
  refine ownStep (fun _ k => st2.trans k) ?_
  show ownGo p.tables e below (T2.setTop (mkF m 9 #[.val (.ref a), .val (.ref q)] [(.ref pv), (.ref a)])) _
  obtain ⟨T4, h4, X4, e4, W4, st4⟩ := putF X2 hx hZ hown (host := "") (Or.inl (hw _ ow124)) Via.refl R2 G_provider E (Or.inr ⟨(hw _ ow125), rfl, hnm⟩) (hw _ ow45) (ty := (.object "java/lang/String")) (by decide) rfl rfl (g := (mkF m 9 #[.val (.ref a), .val (.ref q)] [(.ref pv), (.ref a)])) rfl rfl (hb hby own_cc_d9)
  have N5 := Fr.snoc X4 N2 g
  have KP6 : Keep h0 h4 [a] := KP0.wr W4 (Or.inl (List.mem_of_getElem? (i := 0) rfl))
  have F7 : Fld Z h4 a "com/example/fixd/fixd/client/Location" "provider" "Ljava/lang/String;" (.ref pv) := G_provider.same W4
  refine ownStep st4 ?_
  refine ownStep (fun _ k => XS.aloadN X4.here hx rfl (hb hby own_cc_d12) rfl rfl k) ?_
  refine ownStep (fun _ k => XS.aloadN X4.here hx rfl (hb hby own_cc_d13) rfl rfl k) ?_
  show ownGo p.tables e below (T4.setTop (mkF m 14 #[.val (.ref a), .val (.ref q)] [(.ref q), (.ref a)])) _
  have ne8 : q ≠ a := Exa.ne Eq E (by decide)
  have Q9 := (hL.other W4 ne8)
  have Zs11 : n0 ≤ h4.size := Nat.le_trans Z0 KP6.1
  have Q12 := (Eq.wr W4)
  obtain ⟨cq10, kq10, q10a, q10b, q10c⟩ := isOf hZ e4 Q12
  obtain ⟨_, _, ⟨T10, L10, k10, n10⟩, -, X10, ⟨Lc10, hQ10, l10, y10, z10⟩, st10⟩ := X4.virtualBack hx (y := (⟨"com/example/fixd/fixd/location/Location", "time", "()Ljava/time/Instant;"⟩ : MethodName)) (z := (⟨"com/example/fixd/fixd/location/Location", "time", "()Ljava/time/Instant;"⟩ : MethodName)) hown (mvT hZ (hw _ ow126)) (mvT hZ (hw _ ow127)) (notFace_of_selects (args := #[]) (mvT hZ (hw _ ow129))) (mvT hZ (hw _ ow129)) (mvT hZ (hw _ ow128)) (by decide) (backOf (W := 1) (og1 l Z a0 hw [] q pv ti la lo sp be al ms ac sa h4 n0 Zs11 Q9) hZ (hw _ ow130) (hw _ ow52) (by decide) (by decide)) q10a q10c (g := (mkF m 14 #[.val (.ref a), .val (.ref q)] [(.ref q), (.ref a)])) rfl (by rw [hml]; rfl) (Steps.refl _) (argsL := []) (rest := [(.ref a)]) (lenOf own_cc_pd1 rfl) rfl (by show 2 * 0 + _ ≤ _; exact Nat.le_of_eq rfl) (hb hby own_cc_d14) (fun _ _ => ⟨rfl, e4, (by decide : 0 + 0 ≤ _), (by decide : 0 + 0 ≤ _)⟩)
  dsimp only [Pt.U, Pt.locs, Pt.cells, Pt.slots] at X10 l10 y10 z10 st10 hQ10
  obtain rfl : k10 = 0 := y10
  obtain rfl : n10 = 0 := z10
  obtain ⟨rfl, N10q, R10⟩ := hQ10
  have N10 : Fr n0 L10 := l10 ▸ Fr.app N5 N10q
  refine ownStep (fun _ k => st10.trans k) ?_
  show ownGo p.tables e below (T10.setTop (mkF m 17 #[.val (.ref a), .val (.ref q)] [(.ref ti), (.ref a)])) _
  have Q13 := (G_time.other W4 (.inr (ownNe (.inl (hw _ ow132)) (.inr (hw _ ow125)))))
  have Q14 := (E.wr W4)
  obtain ⟨T15, h15, X15, e15, W15, st15⟩ := putF X10 hx hZ hown (host := "") (Or.inl (hw _ ow131)) Via.refl R10 Q13 Q14 (Or.inl (hw _ ow132)) (hw _ ow45) (ty := (.object "java/time/Instant")) (by decide) rfl rfl (g := (mkF m 17 #[.val (.ref a), .val (.ref q)] [(.ref ti), (.ref a)])) rfl rfl (hb hby own_cc_d17)
  have N16 := Fr.snoc X15 N10 g
  have KP17 : Keep h0 h15 [a] := KP6.wr W15 (Or.inl (List.mem_of_getElem? (i := 0) rfl))
  have F18 : Fld Z h15 a "com/example/fixd/fixd/client/Location" "time" "Ljava/time/Instant;" (.ref ti) := Q13.same W15
  refine ownStep st15 ?_
  refine ownStep (fun _ k => XS.aloadN X15.here hx rfl (hb hby own_cc_d20) rfl rfl k) ?_
  refine ownStep (fun _ k => XS.aloadN X15.here hx rfl (hb hby own_cc_d21) rfl rfl k) ?_
  show ownGo p.tables e below (T15.setTop (mkF m 22 #[.val (.ref a), .val (.ref q)] [(.ref q), (.ref a)])) _
  have Q19 := (Q9.other W15 ne8)
  have Zs21 : n0 ≤ h15.size := Nat.le_trans Z0 KP17.1
  have Q22 := (Q12.wr W15)
  obtain ⟨cq20, kq20, q20a, q20b, q20c⟩ := isOf hZ e15 Q22
  obtain ⟨_, _, ⟨T20, L20, k20, n20⟩, -, X20, ⟨Lc20, hQ20, l20, y20, z20⟩, st20⟩ := X15.virtualBack hx (y := (⟨"com/example/fixd/fixd/location/Location", "latitude", "()D"⟩ : MethodName)) (z := (⟨"com/example/fixd/fixd/location/Location", "latitude", "()D"⟩ : MethodName)) hown (mvT hZ (hw _ ow133)) (mvT hZ (hw _ ow134)) (notFace_of_selects (args := #[]) (mvT hZ (hw _ ow136))) (mvT hZ (hw _ ow136)) (mvT hZ (hw _ ow135)) (by decide) (backOf (W := 1) (og2 l Z a0 hw [] q pv ti la lo sp be al ms ac sa h15 n0 Zs21 Q19) hZ (hw _ ow137) (hw _ ow52) (by decide) (by decide)) q20a q20c (g := (mkF m 22 #[.val (.ref a), .val (.ref q)] [(.ref q), (.ref a)])) rfl (by rw [hml]; rfl) (Steps.refl _) (argsL := []) (rest := [(.ref a)]) (lenOf own_cc_pd2 rfl) rfl (by show 2 * 0 + _ ≤ _; exact Nat.le_of_eq rfl) (hb hby own_cc_d22) (fun _ _ => ⟨rfl, e15, (by decide : 0 + 0 ≤ _), (by decide : 0 + 0 ≤ _)⟩)
  dsimp only [Pt.U, Pt.locs, Pt.cells, Pt.slots] at X20 l20 y20 z20 st20 hQ20
  obtain rfl : k20 = 0 := y20
  obtain rfl : n20 = 0 := z20
  obtain ⟨rfl, N20q, R20⟩ := hQ20
  have N20 : Fr n0 L20 := l20 ▸ Fr.app N16 N20q
  refine ownStep (fun _ k => st20.trans k) ?_
  show ownGo p.tables e below (T20.setTop (mkF m 25 #[.val (.ref a), .val (.ref q)] [(.double la), (.ref a)])) _
  have Q23 := ((G_latitude.other W4 (.inr (ownNe (.inl (hw _ ow139)) (.inr (hw _ ow125))))).other W15 (.inr (ownNe (.inl (hw _ ow139)) (.inl (hw _ ow132)))))
  have Q24 := (Q14.wr W15)
  obtain ⟨T25, h25, X25, e25, W25, st25⟩ := putF X20 hx hZ hown (host := "") (Or.inl (hw _ ow138)) Via.refl R20 Q23 Q24 (Or.inl (hw _ ow139)) (hw _ ow45) (ty := .double) (by decide) rfl rfl (g := (mkF m 25 #[.val (.ref a), .val (.ref q)] [(.double la), (.ref a)])) rfl rfl (hb hby own_cc_d25)
  have N26 := Fr.snoc X25 N20 g
  have KP27 : Keep h0 h25 [a] := KP17.wr W25 (Or.inl (List.mem_of_getElem? (i := 0) rfl))
  have F28 : Fld Z h25 a "com/example/fixd/fixd/client/Location" "latitude" "D" (.double la) := Q23.same W25
  refine ownStep st25 ?_
  refine ownStep (fun _ k => XS.aloadN X25.here hx rfl (hb hby own_cc_d28) rfl rfl k) ?_
  refine ownStep (fun _ k => XS.aloadN X25.here hx rfl (hb hby own_cc_d29) rfl rfl k) ?_
  show ownGo p.tables e below (T25.setTop (mkF m 30 #[.val (.ref a), .val (.ref q)] [(.ref q), (.ref a)])) _
  have Q29 := (Q19.other W25 ne8)
  have Zs31 : n0 ≤ h25.size := Nat.le_trans Z0 KP27.1
  have Q32 := (Q22.wr W25)
  obtain ⟨cq30, kq30, q30a, q30b, q30c⟩ := isOf hZ e25 Q32
  obtain ⟨_, _, ⟨T30, L30, k30, n30⟩, -, X30, ⟨Lc30, hQ30, l30, y30, z30⟩, st30⟩ := X25.virtualBack hx (y := (⟨"com/example/fixd/fixd/location/Location", "longitude", "()D"⟩ : MethodName)) (z := (⟨"com/example/fixd/fixd/location/Location", "longitude", "()D"⟩ : MethodName)) hown (mvT hZ (hw _ ow140)) (mvT hZ (hw _ ow141)) (notFace_of_selects (args := #[]) (mvT hZ (hw _ ow143))) (mvT hZ (hw _ ow143)) (mvT hZ (hw _ ow142)) (by decide) (backOf (W := 1) (og3 l Z a0 hw [] q pv ti la lo sp be al ms ac sa h25 n0 Zs31 Q29) hZ (hw _ ow144) (hw _ ow52) (by decide) (by decide)) q30a q30c (g := (mkF m 30 #[.val (.ref a), .val (.ref q)] [(.ref q), (.ref a)])) rfl (by rw [hml]; rfl) (Steps.refl _) (argsL := []) (rest := [(.ref a)]) (lenOf own_cc_pd2 rfl) rfl (by show 2 * 0 + _ ≤ _; exact Nat.le_of_eq rfl) (hb hby own_cc_d30) (fun _ _ => ⟨rfl, e25, (by decide : 0 + 0 ≤ _), (by decide : 0 + 0 ≤ _)⟩)
  dsimp only [Pt.U, Pt.locs, Pt.cells, Pt.slots] at X30 l30 y30 z30 st30 hQ30
  obtain rfl : k30 = 0 := y30
  obtain rfl : n30 = 0 := z30
  obtain ⟨rfl, N30q, R30⟩ := hQ30
  have N30 : Fr n0 L30 := l30 ▸ Fr.app N26 N30q
  refine ownStep (fun _ k => st30.trans k) ?_
  show ownGo p.tables e below (T30.setTop (mkF m 33 #[.val (.ref a), .val (.ref q)] [(.double lo), (.ref a)])) _
  have Q33 := (((G_longitude.other W4 (.inr (ownNe (.inl (hw _ ow146)) (.inr (hw _ ow125))))).other W15 (.inr (ownNe (.inl (hw _ ow146)) (.inl (hw _ ow132))))).other W25 (.inr (ownNe (.inl (hw _ ow146)) (.inl (hw _ ow139)))))
  have Q34 := (Q24.wr W25)
  obtain ⟨T35, h35, X35, e35, W35, st35⟩ := putF X30 hx hZ hown (host := "") (Or.inl (hw _ ow145)) Via.refl R30 Q33 Q34 (Or.inl (hw _ ow146)) (hw _ ow45) (ty := .double) (by decide) rfl rfl (g := (mkF m 33 #[.val (.ref a), .val (.ref q)] [(.double lo), (.ref a)])) rfl rfl (hb hby own_cc_d33)
  have N36 := Fr.snoc X35 N30 g
  have KP37 : Keep h0 h35 [a] := KP27.wr W35 (Or.inl (List.mem_of_getElem? (i := 0) rfl))
  have F38 : Fld Z h35 a "com/example/fixd/fixd/client/Location" "longitude" "D" (.double lo) := Q33.same W35
  refine ownStep st35 ?_
  refine ownStep (fun _ k => XS.aloadN X35.here hx rfl (hb hby own_cc_d36) rfl rfl k) ?_
  refine ownStep (fun _ k => XS.aloadN X35.here hx rfl (hb hby own_cc_d37) rfl rfl k) ?_
  show ownGo p.tables e below (T35.setTop (mkF m 38 #[.val (.ref a), .val (.ref q)] [(.ref q), (.ref a)])) _
  have Q39 := (Q29.other W35 ne8)
  have Zs41 : n0 ≤ h35.size := Nat.le_trans Z0 KP37.1
  have Q42 := (Q32.wr W35)
  obtain ⟨cq40, kq40, q40a, q40b, q40c⟩ := isOf hZ e35 Q42
  obtain ⟨_, _, ⟨T40, L40, k40, n40⟩, -, X40, ⟨Lc40, hQ40, l40, y40, z40⟩, st40⟩ := X35.virtualBack hx (y := (⟨"com/example/fixd/fixd/location/Location", "speed", "()Ljava/util/OptionalDouble;"⟩ : MethodName)) (z := (⟨"com/example/fixd/fixd/location/Location", "speed", "()Ljava/util/OptionalDouble;"⟩ : MethodName)) hown (mvT hZ (hw _ ow147)) (mvT hZ (hw _ ow148)) (notFace_of_selects (args := #[]) (mvT hZ (hw _ ow150))) (mvT hZ (hw _ ow150)) (mvT hZ (hw _ ow149)) (by decide) (backOf (W := 1) (og4 l Z a0 hw [] q pv ti la lo sp be al ms ac sa h35 n0 Zs41 Q39) hZ (hw _ ow151) (hw _ ow52) (by decide) (by decide)) q40a q40c (g := (mkF m 38 #[.val (.ref a), .val (.ref q)] [(.ref q), (.ref a)])) rfl (by rw [hml]; rfl) (Steps.refl _) (argsL := []) (rest := [(.ref a)]) (lenOf own_cc_pd3 rfl) rfl (by show 2 * 0 + _ ≤ _; exact Nat.le_of_eq rfl) (hb hby own_cc_d38) (fun _ _ => ⟨rfl, e35, (by decide : 0 + 0 ≤ _), (by decide : 0 + 0 ≤ _)⟩)
  dsimp only [Pt.U, Pt.locs, Pt.cells, Pt.slots] at X40 l40 y40 z40 st40 hQ40
  obtain rfl : k40 = 0 := y40
  obtain rfl : n40 = 0 := z40
  obtain ⟨rfl, N40q, R40⟩ := hQ40
  have N40 : Fr n0 L40 := l40 ▸ Fr.app N36 N40q
  refine ownStep (fun _ k => st40.trans k) ?_
  show ownGo p.tables e below (T40.setTop (mkF m 41 #[.val (.ref a), .val (.ref q)] [(.ref sp), (.ref a)])) _
  have Q43 := ((((G_speed.other W4 (.inr (ownNe (.inl (hw _ ow153)) (.inr (hw _ ow125))))).other W15 (.inr (ownNe (.inl (hw _ ow153)) (.inl (hw _ ow132))))).other W25 (.inr (ownNe (.inl (hw _ ow153)) (.inl (hw _ ow139))))).other W35 (.inr (ownNe (.inl (hw _ ow153)) (.inl (hw _ ow146)))))
  have Q44 := (Q34.wr W35)
  obtain ⟨T45, h45, X45, e45, W45, st45⟩ := putF X40 hx hZ hown (host := "") (Or.inl (hw _ ow152)) Via.refl R40 Q43 Q44 (Or.inl (hw _ ow153)) (hw _ ow45) (ty := (.object "java/util/OptionalDouble")) (by decide) rfl rfl (g := (mkF m 41 #[.val (.ref a), .val (.ref q)] [(.ref sp), (.ref a)])) rfl rfl (hb hby own_cc_d41)
  have N46 := Fr.snoc X45 N40 g
  have KP47 : Keep h0 h45 [a] := KP37.wr W45 (Or.inl (List.mem_of_getElem? (i := 0) rfl))
  have F48 : Fld Z h45 a "com/example/fixd/fixd/client/Location" "speed" "Ljava/util/OptionalDouble;" (.ref sp) := Q43.same W45
  refine ownStep st45 ?_
  refine ownStep (fun _ k => XS.aloadN X45.here hx rfl (hb hby own_cc_d44) rfl rfl k) ?_
  refine ownStep (fun _ k => XS.aloadN X45.here hx rfl (hb hby own_cc_d45) rfl rfl k) ?_
  show ownGo p.tables e below (T45.setTop (mkF m 46 #[.val (.ref a), .val (.ref q)] [(.ref q), (.ref a)])) _
  have Q49 := (Q39.other W45 ne8)
  have Zs51 : n0 ≤ h45.size := Nat.le_trans Z0 KP47.1
  have Q52 := (Q42.wr W45)
  obtain ⟨cq50, kq50, q50a, q50b, q50c⟩ := isOf hZ e45 Q52
  obtain ⟨_, _, ⟨T50, L50, k50, n50⟩, -, X50, ⟨Lc50, hQ50, l50, y50, z50⟩, st50⟩ := X45.virtualBack hx (y := (⟨"com/example/fixd/fixd/location/Location", "bearing", "()Ljava/util/OptionalDouble;"⟩ : MethodName)) (z := (⟨"com/example/fixd/fixd/location/Location", "bearing", "()Ljava/util/OptionalDouble;"⟩ : MethodName)) hown (mvT hZ (hw _ ow154)) (mvT hZ (hw _ ow155)) (notFace_of_selects (args := #[]) (mvT hZ (hw _ ow157))) (mvT hZ (hw _ ow157)) (mvT hZ (hw _ ow156)) (by decide) (backOf (W := 1) (og5 l Z a0 hw [] q pv ti la lo sp be al ms ac sa h45 n0 Zs51 Q49) hZ (hw _ ow158) (hw _ ow52) (by decide) (by decide)) q50a q50c (g := (mkF m 46 #[.val (.ref a), .val (.ref q)] [(.ref q), (.ref a)])) rfl (by rw [hml]; rfl) (Steps.refl _) (argsL := []) (rest := [(.ref a)]) (lenOf own_cc_pd3 rfl) rfl (by show 2 * 0 + _ ≤ _; exact Nat.le_of_eq rfl) (hb hby own_cc_d46) (fun _ _ => ⟨rfl, e45, (by decide : 0 + 0 ≤ _), (by decide : 0 + 0 ≤ _)⟩)
  dsimp only [Pt.U, Pt.locs, Pt.cells, Pt.slots] at X50 l50 y50 z50 st50 hQ50
  obtain rfl : k50 = 0 := y50
  obtain rfl : n50 = 0 := z50
  obtain ⟨rfl, N50q, R50⟩ := hQ50
  have N50 : Fr n0 L50 := l50 ▸ Fr.app N46 N50q
  refine ownStep (fun _ k => st50.trans k) ?_
  show ownGo p.tables e below (T50.setTop (mkF m 49 #[.val (.ref a), .val (.ref q)] [(.ref be), (.ref a)])) _
  have Q53 := (((((G_bearing.other W4 (.inr (ownNe (.inl (hw _ ow160)) (.inr (hw _ ow125))))).other W15 (.inr (ownNe (.inl (hw _ ow160)) (.inl (hw _ ow132))))).other W25 (.inr (ownNe (.inl (hw _ ow160)) (.inl (hw _ ow139))))).other W35 (.inr (ownNe (.inl (hw _ ow160)) (.inl (hw _ ow146))))).other W45 (.inr (ownNe (.inl (hw _ ow160)) (.inl (hw _ ow153)))))
  have Q54 := (Q44.wr W45)
  obtain ⟨T55, h55, X55, e55, W55, st55⟩ := putF X50 hx hZ hown (host := "") (Or.inl (hw _ ow159)) Via.refl R50 Q53 Q54 (Or.inl (hw _ ow160)) (hw _ ow45) (ty := (.object "java/util/OptionalDouble")) (by decide) rfl rfl (g := (mkF m 49 #[.val (.ref a), .val (.ref q)] [(.ref be), (.ref a)])) rfl rfl (hb hby own_cc_d49)
  have N56 := Fr.snoc X55 N50 g
  have KP57 : Keep h0 h55 [a] := KP47.wr W55 (Or.inl (List.mem_of_getElem? (i := 0) rfl))
  have F58 : Fld Z h55 a "com/example/fixd/fixd/client/Location" "bearing" "Ljava/util/OptionalDouble;" (.ref be) := Q53.same W55
  refine ownStep st55 ?_
  refine ownStep (fun _ k => XS.aloadN X55.here hx rfl (hb hby own_cc_d52) rfl rfl k) ?_
  refine ownStep (fun _ k => XS.aloadN X55.here hx rfl (hb hby own_cc_d53) rfl rfl k) ?_
  show ownGo p.tables e below (T55.setTop (mkF m 54 #[.val (.ref a), .val (.ref q)] [(.ref q), (.ref a)])) _
  have Q59 := (Q49.other W55 ne8)
  have Zs61 : n0 ≤ h55.size := Nat.le_trans Z0 KP57.1
  have Q62 := (Q52.wr W55)
  obtain ⟨cq60, kq60, q60a, q60b, q60c⟩ := isOf hZ e55 Q62
  obtain ⟨_, _, ⟨T60, L60, k60, n60⟩, -, X60, ⟨Lc60, hQ60, l60, y60, z60⟩, st60⟩ := X55.virtualBack hx (y := (⟨"com/example/fixd/fixd/location/Location", "altitude", "()Ljava/util/OptionalDouble;"⟩ : MethodName)) (z := (⟨"com/example/fixd/fixd/location/Location", "altitude", "()Ljava/util/OptionalDouble;"⟩ : MethodName)) hown (mvT hZ (hw _ ow161)) (mvT hZ (hw _ ow162)) (notFace_of_selects (args := #[]) (mvT hZ (hw _ ow164))) (mvT hZ (hw _ ow164)) (mvT hZ (hw _ ow163)) (by decide) (backOf (W := 1) (og6 l Z a0 hw [] q pv ti la lo sp be al ms ac sa h55 n0 Zs61 Q59) hZ (hw _ ow165) (hw _ ow52) (by decide) (by decide)) q60a q60c (g := (mkF m 54 #[.val (.ref a), .val (.ref q)] [(.ref q), (.ref a)])) rfl (by rw [hml]; rfl) (Steps.refl _) (argsL := []) (rest := [(.ref a)]) (lenOf own_cc_pd3 rfl) rfl (by show 2 * 0 + _ ≤ _; exact Nat.le_of_eq rfl) (hb hby own_cc_d54) (fun _ _ => ⟨rfl, e55, (by decide : 0 + 0 ≤ _), (by decide : 0 + 0 ≤ _)⟩)
  dsimp only [Pt.U, Pt.locs, Pt.cells, Pt.slots] at X60 l60 y60 z60 st60 hQ60
  obtain rfl : k60 = 0 := y60
  obtain rfl : n60 = 0 := z60
  obtain ⟨rfl, N60q, R60⟩ := hQ60
  have N60 : Fr n0 L60 := l60 ▸ Fr.app N56 N60q
  refine ownStep (fun _ k => st60.trans k) ?_
  show ownGo p.tables e below (T60.setTop (mkF m 57 #[.val (.ref a), .val (.ref q)] [(.ref al), (.ref a)])) _
  have Q63 := ((((((G_altitude.other W4 (.inr (ownNe (.inl (hw _ ow167)) (.inr (hw _ ow125))))).other W15 (.inr (ownNe (.inl (hw _ ow167)) (.inl (hw _ ow132))))).other W25 (.inr (ownNe (.inl (hw _ ow167)) (.inl (hw _ ow139))))).other W35 (.inr (ownNe (.inl (hw _ ow167)) (.inl (hw _ ow146))))).other W45 (.inr (ownNe (.inl (hw _ ow167)) (.inl (hw _ ow153))))).other W55 (.inr (ownNe (.inl (hw _ ow167)) (.inl (hw _ ow160)))))
  have Q64 := (Q54.wr W55)
  obtain ⟨T65, h65, X65, e65, W65, st65⟩ := putF X60 hx hZ hown (host := "") (Or.inl (hw _ ow166)) Via.refl R60 Q63 Q64 (Or.inl (hw _ ow167)) (hw _ ow45) (ty := (.object "java/util/OptionalDouble")) (by decide) rfl rfl (g := (mkF m 57 #[.val (.ref a), .val (.ref q)] [(.ref al), (.ref a)])) rfl rfl (hb hby own_cc_d57)
  have N66 := Fr.snoc X65 N60 g
  have KP67 : Keep h0 h65 [a] := KP57.wr W65 (Or.inl (List.mem_of_getElem? (i := 0) rfl))
  have F68 : Fld Z h65 a "com/example/fixd/fixd/client/Location" "altitude" "Ljava/util/OptionalDouble;" (.ref al) := Q63.same W65
  refine ownStep st65 ?_
  refine ownStep (fun _ k => XS.aloadN X65.here hx rfl (hb hby own_cc_d60) rfl rfl k) ?_
  refine ownStep (fun _ k => XS.aloadN X65.here hx rfl (hb hby own_cc_d61) rfl rfl k) ?_
  show ownGo p.tables e below (T65.setTop (mkF m 62 #[.val (.ref a), .val (.ref q)] [(.ref q), (.ref a)])) _
  have Q69 := (Q59.other W65 ne8)
  have Zs71 : n0 ≤ h65.size := Nat.le_trans Z0 KP67.1
  have Q72 := (Q62.wr W65)
  obtain ⟨cq70, kq70, q70a, q70b, q70c⟩ := isOf hZ e65 Q72
  obtain ⟨_, _, ⟨T70, L70, k70, n70⟩, -, X70, ⟨Lc70, hQ70, l70, y70, z70⟩, st70⟩ := X65.virtualBack hx (y := (⟨"com/example/fixd/fixd/location/Location", "mslAltitude", "()Ljava/util/OptionalDouble;"⟩ : MethodName)) (z := (⟨"com/example/fixd/fixd/location/Location", "mslAltitude", "()Ljava/util/OptionalDouble;"⟩ : MethodName)) hown (mvT hZ (hw _ ow168)) (mvT hZ (hw _ ow169)) (notFace_of_selects (args := #[]) (mvT hZ (hw _ ow171))) (mvT hZ (hw _ ow171)) (mvT hZ (hw _ ow170)) (by decide) (backOf (W := 1) (og7 l Z a0 hw [] q pv ti la lo sp be al ms ac sa h65 n0 Zs71 Q69) hZ (hw _ ow172) (hw _ ow52) (by decide) (by decide)) q70a q70c (g := (mkF m 62 #[.val (.ref a), .val (.ref q)] [(.ref q), (.ref a)])) rfl (by rw [hml]; rfl) (Steps.refl _) (argsL := []) (rest := [(.ref a)]) (lenOf own_cc_pd3 rfl) rfl (by show 2 * 0 + _ ≤ _; exact Nat.le_of_eq rfl) (hb hby own_cc_d62) (fun _ _ => ⟨rfl, e65, (by decide : 0 + 0 ≤ _), (by decide : 0 + 0 ≤ _)⟩)
  dsimp only [Pt.U, Pt.locs, Pt.cells, Pt.slots] at X70 l70 y70 z70 st70 hQ70
  obtain rfl : k70 = 0 := y70
  obtain rfl : n70 = 0 := z70
  obtain ⟨rfl, N70q, R70⟩ := hQ70
  have N70 : Fr n0 L70 := l70 ▸ Fr.app N66 N70q
  refine ownStep (fun _ k => st70.trans k) ?_
  show ownGo p.tables e below (T70.setTop (mkF m 65 #[.val (.ref a), .val (.ref q)] [(.ref ms), (.ref a)])) _
  have Q73 := (((((((G_mslAltitude.other W4 (.inr (ownNe (.inl (hw _ ow174)) (.inr (hw _ ow125))))).other W15 (.inr (ownNe (.inl (hw _ ow174)) (.inl (hw _ ow132))))).other W25 (.inr (ownNe (.inl (hw _ ow174)) (.inl (hw _ ow139))))).other W35 (.inr (ownNe (.inl (hw _ ow174)) (.inl (hw _ ow146))))).other W45 (.inr (ownNe (.inl (hw _ ow174)) (.inl (hw _ ow153))))).other W55 (.inr (ownNe (.inl (hw _ ow174)) (.inl (hw _ ow160))))).other W65 (.inr (ownNe (.inl (hw _ ow174)) (.inl (hw _ ow167)))))
  have Q74 := (Q64.wr W65)
  obtain ⟨T75, h75, X75, e75, W75, st75⟩ := putF X70 hx hZ hown (host := "") (Or.inl (hw _ ow173)) Via.refl R70 Q73 Q74 (Or.inl (hw _ ow174)) (hw _ ow45) (ty := (.object "java/util/OptionalDouble")) (by decide) rfl rfl (g := (mkF m 65 #[.val (.ref a), .val (.ref q)] [(.ref ms), (.ref a)])) rfl rfl (hb hby own_cc_d65)
  have N76 := Fr.snoc X75 N70 g
  have KP77 : Keep h0 h75 [a] := KP67.wr W75 (Or.inl (List.mem_of_getElem? (i := 0) rfl))
  have F78 : Fld Z h75 a "com/example/fixd/fixd/client/Location" "mslAltitude" "Ljava/util/OptionalDouble;" (.ref ms) := Q73.same W75
  refine ownStep st75 ?_
  refine ownStep (fun _ k => XS.aloadN X75.here hx rfl (hb hby own_cc_d68) rfl rfl k) ?_
  refine ownStep (fun _ k => XS.aloadN X75.here hx rfl (hb hby own_cc_d69) rfl rfl k) ?_
  show ownGo p.tables e below (T75.setTop (mkF m 70 #[.val (.ref a), .val (.ref q)] [(.ref q), (.ref a)])) _
  have Q79 := (Q69.other W75 ne8)
  have Zs81 : n0 ≤ h75.size := Nat.le_trans Z0 KP77.1
  have Q82 := (Q72.wr W75)
  obtain ⟨cq80, kq80, q80a, q80b, q80c⟩ := isOf hZ e75 Q82
  obtain ⟨_, _, ⟨T80, L80, k80, n80⟩, -, X80, ⟨Lc80, hQ80, l80, y80, z80⟩, st80⟩ := X75.virtualBack hx (y := (⟨"com/example/fixd/fixd/location/Location", "accuracy", "()Ljava/util/OptionalDouble;"⟩ : MethodName)) (z := (⟨"com/example/fixd/fixd/location/Location", "accuracy", "()Ljava/util/OptionalDouble;"⟩ : MethodName)) hown (mvT hZ (hw _ ow175)) (mvT hZ (hw _ ow176)) (notFace_of_selects (args := #[]) (mvT hZ (hw _ ow178))) (mvT hZ (hw _ ow178)) (mvT hZ (hw _ ow177)) (by decide) (backOf (W := 1) (og8 l Z a0 hw [] q pv ti la lo sp be al ms ac sa h75 n0 Zs81 Q79) hZ (hw _ ow179) (hw _ ow52) (by decide) (by decide)) q80a q80c (g := (mkF m 70 #[.val (.ref a), .val (.ref q)] [(.ref q), (.ref a)])) rfl (by rw [hml]; rfl) (Steps.refl _) (argsL := []) (rest := [(.ref a)]) (lenOf own_cc_pd3 rfl) rfl (by show 2 * 0 + _ ≤ _; exact Nat.le_of_eq rfl) (hb hby own_cc_d70) (fun _ _ => ⟨rfl, e75, (by decide : 0 + 0 ≤ _), (by decide : 0 + 0 ≤ _)⟩)
  dsimp only [Pt.U, Pt.locs, Pt.cells, Pt.slots] at X80 l80 y80 z80 st80 hQ80
  obtain rfl : k80 = 0 := y80
  obtain rfl : n80 = 0 := z80
  obtain ⟨rfl, N80q, R80⟩ := hQ80
  have N80 : Fr n0 L80 := l80 ▸ Fr.app N76 N80q
  refine ownStep (fun _ k => st80.trans k) ?_
  show ownGo p.tables e below (T80.setTop (mkF m 73 #[.val (.ref a), .val (.ref q)] [(.ref ac), (.ref a)])) _
  have Q83 := ((((((((G_accuracy.other W4 (.inr (ownNe (.inl (hw _ ow181)) (.inr (hw _ ow125))))).other W15 (.inr (ownNe (.inl (hw _ ow181)) (.inl (hw _ ow132))))).other W25 (.inr (ownNe (.inl (hw _ ow181)) (.inl (hw _ ow139))))).other W35 (.inr (ownNe (.inl (hw _ ow181)) (.inl (hw _ ow146))))).other W45 (.inr (ownNe (.inl (hw _ ow181)) (.inl (hw _ ow153))))).other W55 (.inr (ownNe (.inl (hw _ ow181)) (.inl (hw _ ow160))))).other W65 (.inr (ownNe (.inl (hw _ ow181)) (.inl (hw _ ow167))))).other W75 (.inr (ownNe (.inl (hw _ ow181)) (.inl (hw _ ow174)))))
  have Q84 := (Q74.wr W75)
  obtain ⟨T85, h85, X85, e85, W85, st85⟩ := putF X80 hx hZ hown (host := "") (Or.inl (hw _ ow180)) Via.refl R80 Q83 Q84 (Or.inl (hw _ ow181)) (hw _ ow45) (ty := (.object "java/util/OptionalDouble")) (by decide) rfl rfl (g := (mkF m 73 #[.val (.ref a), .val (.ref q)] [(.ref ac), (.ref a)])) rfl rfl (hb hby own_cc_d73)
  have N86 := Fr.snoc X85 N80 g
  have KP87 : Keep h0 h85 [a] := KP77.wr W85 (Or.inl (List.mem_of_getElem? (i := 0) rfl))
  have F88 : Fld Z h85 a "com/example/fixd/fixd/client/Location" "accuracy" "Ljava/util/OptionalDouble;" (.ref ac) := Q83.same W85
  refine ownStep st85 ?_
  refine ownStep (fun _ k => XS.aloadN X85.here hx rfl (hb hby own_cc_d76) rfl rfl k) ?_
  refine ownStep (fun _ k => XS.aloadN X85.here hx rfl (hb hby own_cc_d77) rfl rfl k) ?_
  show ownGo p.tables e below (T85.setTop (mkF m 78 #[.val (.ref a), .val (.ref q)] [(.ref q), (.ref a)])) _
  have Q89 := (Q79.other W85 ne8)
  have Zs91 : n0 ≤ h85.size := Nat.le_trans Z0 KP87.1
  have Q92 := (Q82.wr W85)
  obtain ⟨cq90, kq90, q90a, q90b, q90c⟩ := isOf hZ e85 Q92
  obtain ⟨_, _, ⟨T90, L90, k90, n90⟩, -, X90, ⟨Lc90, hQ90, l90, y90, z90⟩, st90⟩ := X85.virtualBack hx (y := (⟨"com/example/fixd/fixd/location/Location", "satellites", "()Ljava/util/OptionalInt;"⟩ : MethodName)) (z := (⟨"com/example/fixd/fixd/location/Location", "satellites", "()Ljava/util/OptionalInt;"⟩ : MethodName)) hown (mvT hZ (hw _ ow182)) (mvT hZ (hw _ ow183)) (notFace_of_selects (args := #[]) (mvT hZ (hw _ ow185))) (mvT hZ (hw _ ow185)) (mvT hZ (hw _ ow184)) (by decide) (backOf (W := 1) (og9 l Z a0 hw [] q pv ti la lo sp be al ms ac sa h85 n0 Zs91 Q89) hZ (hw _ ow186) (hw _ ow52) (by decide) (by decide)) q90a q90c (g := (mkF m 78 #[.val (.ref a), .val (.ref q)] [(.ref q), (.ref a)])) rfl (by rw [hml]; rfl) (Steps.refl _) (argsL := []) (rest := [(.ref a)]) (lenOf own_cc_pd4 rfl) rfl (by show 2 * 0 + _ ≤ _; exact Nat.le_of_eq rfl) (hb hby own_cc_d78) (fun _ _ => ⟨rfl, e85, (by decide : 0 + 0 ≤ _), (by decide : 0 + 0 ≤ _)⟩)
  dsimp only [Pt.U, Pt.locs, Pt.cells, Pt.slots] at X90 l90 y90 z90 st90 hQ90
  obtain rfl : k90 = 0 := y90
  obtain rfl : n90 = 0 := z90
  obtain ⟨rfl, N90q, R90⟩ := hQ90
  have N90 : Fr n0 L90 := l90 ▸ Fr.app N86 N90q
  refine ownStep (fun _ k => st90.trans k) ?_
  show ownGo p.tables e below (T90.setTop (mkF m 81 #[.val (.ref a), .val (.ref q)] [(.ref sa), (.ref a)])) _
  have Q93 := (((((((((G_satellites.other W4 (.inr (ownNe (.inl (hw _ ow188)) (.inr (hw _ ow125))))).other W15 (.inr (ownNe (.inl (hw _ ow188)) (.inl (hw _ ow132))))).other W25 (.inr (ownNe (.inl (hw _ ow188)) (.inl (hw _ ow139))))).other W35 (.inr (ownNe (.inl (hw _ ow188)) (.inl (hw _ ow146))))).other W45 (.inr (ownNe (.inl (hw _ ow188)) (.inl (hw _ ow153))))).other W55 (.inr (ownNe (.inl (hw _ ow188)) (.inl (hw _ ow160))))).other W65 (.inr (ownNe (.inl (hw _ ow188)) (.inl (hw _ ow167))))).other W75 (.inr (ownNe (.inl (hw _ ow188)) (.inl (hw _ ow174))))).other W85 (.inr (ownNe (.inl (hw _ ow188)) (.inl (hw _ ow181)))))
  have Q94 := (Q84.wr W85)
  obtain ⟨T95, h95, X95, e95, W95, st95⟩ := putF X90 hx hZ hown (host := "") (Or.inl (hw _ ow187)) Via.refl R90 Q93 Q94 (Or.inl (hw _ ow188)) (hw _ ow45) (ty := (.object "java/util/OptionalInt")) (by decide) rfl rfl (g := (mkF m 81 #[.val (.ref a), .val (.ref q)] [(.ref sa), (.ref a)])) rfl rfl (hb hby own_cc_d81)
  have N96 := Fr.snoc X95 N90 g
  have KP97 : Keep h0 h95 [a] := KP87.wr W95 (Or.inl (List.mem_of_getElem? (i := 0) rfl))
  have F98 : Fld Z h95 a "com/example/fixd/fixd/client/Location" "satellites" "Ljava/util/OptionalInt;" (.ref sa) := Q93.same W95
  refine ownStep st95 ?_
  show ownGo p.tables e below (T95.setTop (mkF m 84 #[.val (.ref a), .val (.ref q)] [])) _
  have Q99 := (((((((((F7.other W15 (.inr (ownNe (.inr (hw _ ow125)) (.inl (hw _ ow132))))).other W25 (.inr (ownNe (.inr (hw _ ow125)) (.inl (hw _ ow139))))).other W35 (.inr (ownNe (.inr (hw _ ow125)) (.inl (hw _ ow146))))).other W45 (.inr (ownNe (.inr (hw _ ow125)) (.inl (hw _ ow153))))).other W55 (.inr (ownNe (.inr (hw _ ow125)) (.inl (hw _ ow160))))).other W65 (.inr (ownNe (.inr (hw _ ow125)) (.inl (hw _ ow167))))).other W75 (.inr (ownNe (.inr (hw _ ow125)) (.inl (hw _ ow174))))).other W85 (.inr (ownNe (.inr (hw _ ow125)) (.inl (hw _ ow181))))).other W95 (.inr (ownNe (.inr (hw _ ow125)) (.inl (hw _ ow188)))))
  have Q100 := ((((((((F18.other W25 (.inr (ownNe (.inl (hw _ ow132)) (.inl (hw _ ow139))))).other W35 (.inr (ownNe (.inl (hw _ ow132)) (.inl (hw _ ow146))))).other W45 (.inr (ownNe (.inl (hw _ ow132)) (.inl (hw _ ow153))))).other W55 (.inr (ownNe (.inl (hw _ ow132)) (.inl (hw _ ow160))))).other W65 (.inr (ownNe (.inl (hw _ ow132)) (.inl (hw _ ow167))))).other W75 (.inr (ownNe (.inl (hw _ ow132)) (.inl (hw _ ow174))))).other W85 (.inr (ownNe (.inl (hw _ ow132)) (.inl (hw _ ow181))))).other W95 (.inr (ownNe (.inl (hw _ ow132)) (.inl (hw _ ow188)))))
  have Q101 := (((((((F28.other W35 (.inr (ownNe (.inl (hw _ ow139)) (.inl (hw _ ow146))))).other W45 (.inr (ownNe (.inl (hw _ ow139)) (.inl (hw _ ow153))))).other W55 (.inr (ownNe (.inl (hw _ ow139)) (.inl (hw _ ow160))))).other W65 (.inr (ownNe (.inl (hw _ ow139)) (.inl (hw _ ow167))))).other W75 (.inr (ownNe (.inl (hw _ ow139)) (.inl (hw _ ow174))))).other W85 (.inr (ownNe (.inl (hw _ ow139)) (.inl (hw _ ow181))))).other W95 (.inr (ownNe (.inl (hw _ ow139)) (.inl (hw _ ow188)))))
  have Q102 := ((((((F38.other W45 (.inr (ownNe (.inl (hw _ ow146)) (.inl (hw _ ow153))))).other W55 (.inr (ownNe (.inl (hw _ ow146)) (.inl (hw _ ow160))))).other W65 (.inr (ownNe (.inl (hw _ ow146)) (.inl (hw _ ow167))))).other W75 (.inr (ownNe (.inl (hw _ ow146)) (.inl (hw _ ow174))))).other W85 (.inr (ownNe (.inl (hw _ ow146)) (.inl (hw _ ow181))))).other W95 (.inr (ownNe (.inl (hw _ ow146)) (.inl (hw _ ow188)))))
  have Q103 := (((((F48.other W55 (.inr (ownNe (.inl (hw _ ow153)) (.inl (hw _ ow160))))).other W65 (.inr (ownNe (.inl (hw _ ow153)) (.inl (hw _ ow167))))).other W75 (.inr (ownNe (.inl (hw _ ow153)) (.inl (hw _ ow174))))).other W85 (.inr (ownNe (.inl (hw _ ow153)) (.inl (hw _ ow181))))).other W95 (.inr (ownNe (.inl (hw _ ow153)) (.inl (hw _ ow188)))))
  have Q104 := ((((F58.other W65 (.inr (ownNe (.inl (hw _ ow160)) (.inl (hw _ ow167))))).other W75 (.inr (ownNe (.inl (hw _ ow160)) (.inl (hw _ ow174))))).other W85 (.inr (ownNe (.inl (hw _ ow160)) (.inl (hw _ ow181))))).other W95 (.inr (ownNe (.inl (hw _ ow160)) (.inl (hw _ ow188)))))
  have Q105 := (((F68.other W75 (.inr (ownNe (.inl (hw _ ow167)) (.inl (hw _ ow174))))).other W85 (.inr (ownNe (.inl (hw _ ow167)) (.inl (hw _ ow181))))).other W95 (.inr (ownNe (.inl (hw _ ow167)) (.inl (hw _ ow188)))))
  have Q106 := ((F78.other W85 (.inr (ownNe (.inl (hw _ ow174)) (.inl (hw _ ow181))))).other W95 (.inr (ownNe (.inl (hw _ ow174)) (.inl (hw _ ow188)))))
  have Q107 := (F88.other W95 (.inr (ownNe (.inl (hw _ ow181)) (.inl (hw _ ow188)))))
  exact ownRet X95 (v := none) Bd.notSynchronized (fun _ => rfl) (fun _ hr => X95.returnOut hx Bd.returns (hb hby own_cc_d84) hr) (by rw [e95]; exact ⟨rfl, N96, KP97, ⟨Q99, Q100, Q101, Q102, Q103, Q104, Q105, Q106, Q107, F98⟩⟩) (by decide) (by decide)
theorem own_cs_d0 : decode prog_5_method_1_code 0 = .ok (.aload_n 0, 1) := by decide +kernel
theorem own_cs_d1 : decode prog_5_method_1_code 1 = .ok (.new 1, 3) := by decide +kernel
theorem own_cs_d4 : decode prog_5_method_1_code 4 = .ok (.dup, 1) := by decide +kernel
theorem own_cs_d5 : decode prog_5_method_1_code 5 = .ok (.aload_n 1, 1) := by decide +kernel
theorem own_cs_d6 : decode prog_5_method_1_code 6 = .ok (.ldc 3, 2) := by decide +kernel
theorem own_cs_d8 : decode prog_5_method_1_code 8 = .ok (.invokestatic 5, 3) := by decide +kernel
theorem own_cs_d11 : decode prog_5_method_1_code 11 = .ok (.checkcast 11, 3) := by decide +kernel
theorem own_cs_d14 : decode prog_5_method_1_code 14 = .ok (.getstatic 13, 3) := by decide +kernel
theorem own_cs_d17 : decode prog_5_method_1_code 17 = .ok (.dconst 0, 1) := by decide +kernel
theorem own_cs_d18 : decode prog_5_method_1_code 18 = .ok (.dconst 0, 1) := by decide +kernel
theorem own_cs_d19 : decode prog_5_method_1_code 19 = .ok (.invokestatic 19, 3) := by decide +kernel
theorem own_cs_d22 : decode prog_5_method_1_code 22 = .ok (.invokestatic 19, 3) := by decide +kernel
theorem own_cs_d25 : decode prog_5_method_1_code 25 = .ok (.invokespecial 25, 3) := by decide +kernel
theorem own_cs_d28 : decode prog_5_method_1_code 28 = .ok (.invokespecial 29, 3) := by decide +kernel
theorem own_cs_d31 : decode prog_5_method_1_code 31 = .ok (.return_, 1) := by decide +kernel
theorem own_cs_pn : plainName "com/example/fixd/fixd/client/Location" = true := by first | (simp [plainName, overriddenIn]; done) | decide +kernel
theorem own_cs_pd0 : parseMethodDescriptor "(Ljava/lang/Object;Ljava/lang/String;)Ljava/lang/Object;" = some ⟨[(.object "java/lang/Object"), (.object "java/lang/String")], some (.object "java/lang/Object")⟩ := by decide +kernel
theorem own_cs_pd1 : parseMethodDescriptor "()Ljava/util/OptionalDouble;" = some ⟨[], some (.object "java/util/OptionalDouble")⟩ := by decide +kernel
theorem own_cs_pd2 : parseMethodDescriptor "(Ljava/lang/String;Ljava/time/Instant;DDLjava/util/OptionalDouble;Ljava/util/OptionalDouble;)V" = some ⟨[(.object "java/lang/String"), (.object "java/time/Instant"), .double, .double, (.object "java/util/OptionalDouble"), (.object "java/util/OptionalDouble")], none⟩ := by decide +kernel
theorem own_cs_pd3 : parseMethodDescriptor "(Lcom/example/fixd/fixd/location/Location;)V" = some ⟨[(.object "com/example/fixd/fixd/location/Location")], none⟩ := by decide +kernel
theorem own_cs_ef (m : MethodId) (x0 : Addr) (x1 : Addr) : entryFrame m #[(.ref x0), (.ref x1)] 2 = mkF m 0 #[.val (.ref x0), .val (.ref x1)] [] := by first | (simp [entryFrame, mkF, argsToLocals, Value.category]; done) | rfl
def own_cs_Q (Z : State) (em : Addr) (ei : Addr) (ep : Addr) (a : Addr) (pv : Addr) (h0 : Heap) (n0 : Nat) (vv_ : Option Value) (hh_ : Heap) (LL_ : List Loc) : Prop := vv_ = none ∧ Fr n0 LL_ ∧ Keep h0 hh_ [a] ∧ (Cli Z hh_ a pv ep FP.dconst0 FP.dconst0 em em em em em ei)
set_option maxRecDepth 65536 in
set_option maxHeartbeats 40000000 in
theorem own_cs (l : Launch) (Z : State) (a0 : Array Value) (hw : ∀ d ∈ tables_1, d.before a0 Z = true) (ws : List Jvm.Cond) (em : Addr) (ei : Addr) (ep : Addr) (a : Addr) (pv : Addr) (h0 : Heap) (n0 : Nat) (Z0 : n0 ≤ h0.size) (hOld : Old Z n0 h0) (Sem : Sta Z Z.heap "java/util/OptionalDouble" "EMPTY" "Ljava/util/OptionalDouble;" (.ref em)) (Oem : Opt Z Z.heap em (0 : Int32) 0) (Eem : Exa Z Z.heap em "java/util/OptionalDouble") (Sei : Sta Z Z.heap "java/util/OptionalInt" "EMPTY" "Ljava/util/OptionalInt;" (.ref ei)) (Eei : Exa Z Z.heap ei "java/util/OptionalInt") (Sep : Sta Z Z.heap "java/time/Instant" "EPOCH" "Ljava/time/Instant;" (.ref ep)) (Tep : Tim Z Z.heap ep (0 : Int64)) (Eep : Exa Z Z.heap ep "java/time/Instant") (E : Exa Z h0 a "com/example/fixd/fixd/client/Location") (g : n0 ≤ a) (Epv : Exa Z h0 pv "java/lang/String") (G_provider : Fld Z h0 a "com/example/fixd/fixd/client/Location" "provider" "Ljava/lang/String;" .null) (G_time : Fld Z h0 a "com/example/fixd/fixd/client/Location" "time" "Ljava/time/Instant;" .null) (G_latitude : Fld Z h0 a "com/example/fixd/fixd/client/Location" "latitude" "D" (.double 0)) (G_longitude : Fld Z h0 a "com/example/fixd/fixd/client/Location" "longitude" "D" (.double 0)) (G_speed : Fld Z h0 a "com/example/fixd/fixd/client/Location" "speed" "Ljava/util/OptionalDouble;" .null) (G_bearing : Fld Z h0 a "com/example/fixd/fixd/client/Location" "bearing" "Ljava/util/OptionalDouble;" .null) (G_altitude : Fld Z h0 a "com/example/fixd/fixd/client/Location" "altitude" "Ljava/util/OptionalDouble;" .null) (G_mslAltitude : Fld Z h0 a "com/example/fixd/fixd/client/Location" "mslAltitude" "Ljava/util/OptionalDouble;" .null) (G_accuracy : Fld Z h0 a "com/example/fixd/fixd/client/Location" "accuracy" "Ljava/util/OptionalDouble;" .null) (G_satellites : Fld Z h0 a "com/example/fixd/fixd/client/Location" "satellites" "Ljava/util/OptionalInt;" .null) :
    MetFree l (⟨"com/example/fixd/fixd/client/Location", "<init>", "(Ljava/lang/String;)V"⟩ : MethodName) (head1 (Jvm.Cond.code (⟨"com/example/fixd/fixd/client/Location", "<init>", "(Ljava/lang/String;)V"⟩ : MethodName) prog_5_method_1_code 2 none :: ws) ({ frames := 4, cells := 19, slots := 322, locals := 70 } : Room)) (fun aa_ UU_ => aa_ = #[(.ref a), (.ref pv)] ∧ Z.Warmed39 UU_.vm ∧ UU_.heap = h0) (fun _ _ _ _ _ => True) (fun _ UU_ oo_ UV_ => ∃ vv_ LL_, oo_ = .returned vv_ ∧ own_cs_Q Z em ei ep a pv h0 n0 vv_ UV_.heap LL_ ∧ ReturnedEndW UU_ oo_ UV_ LL_ ({ frames := 4, cells := 19, slots := 322, locals := 70 } : Room).cells ({ frames := 4, cells := 19, slots := 322, locals := 70 } : Room).slots) := by
  refine MetFree.of_bodySF (plainFor_of_name own_cs_pn) hisR ?_
  intro p e s m args below meth c s₁ Bd hml0 hP hK
  obtain ⟨rfl, hZ, hh⟩ := hP
  have hx := Bd.exec
  have hby := Bd.bytes
  have hml : c.maxLocals = 2 := hml0
  have hown : s.vm.findClass "com/example/fixd/fixd/client/Location" = some m.cls := findClass_of_methodNamed Bd.named
  have hnm := (name_of_methodNamed Bd.named Bd.method).1
  have X0 : Stand p l e ({ frames := 4, cells := 19, slots := 322, locals := 70 } : Room) (s.setVm s.vm) m #[(.ref a), (.ref pv)] below meth c s₁ [] 0 0 := Stand.of_body Bd
  have e0 : s₁.heap = h0 := by rw [← hh, Bd.state]; rfl
  have N0 := Fr.nil n0
  have KP0 : Keep h0 h0 [a] := Keep.refl _ _
  have hS : s.Since s.vm 0 := (State.WarmedH.refl s).since 0
  refine ownFinW (Q := own_cs_Q Z em ei ep a pv h0 n0) ?_
  refine ownStep (fun _ k => castTop (own_cs_ef m a pv) k) ?_
  show ownGo p.tables e below (s₁.setTop (mkF m 0 #[.val (.ref a), .val (.ref pv)] [])) _
  refine ownStep (fun _ k => XS.aloadN X0.here hx rfl (hb hby own_cs_d0) rfl rfl k) ?_
  show ownGo p.tables e below (s₁.setTop (mkF m 1 #[.val (.ref a), .val (.ref pv)] [(.ref a)])) _
  obtain ⟨T1, h1, X1, e1, E1, A1, D1, U1, st1⟩ := newO X0 hx hZ hown (hw _ ow50) (hw _ ow51) (hw _ ow52) e0 (g := (mkF m 1 #[.val (.ref a), .val (.ref pv)] [(.ref a)])) rfl (hb hby own_cs_d1) (by decide) (by decide)
  obtain ⟨b1, g1⟩ : ∃ z, z = h0.size := ⟨_, rfl⟩
  rw [← g1] at A1 D1 U1 st1
  have gh_b1 : h0.size ≤ b1 := Nat.le_trans KP0.1 (Nat.le_of_eq g1.symm)
  have gn_b1 : n0 ≤ b1 := Nat.le_trans Z0 gh_b1
  have KP2 : Keep h0 h1 [a] := KP0.ext E1
  have F3 : Fld Z h1 b1 "com/example/fixd/fixd/location/Location" "provider" "Ljava/lang/String;" .null := D1 (Or.inr (hw _ ow96)) (ty := (.object "java/lang/String")) (by decide)
  have F4 : Fld Z h1 b1 "com/example/fixd/fixd/location/Location" "time" "Ljava/time/Instant;" .null := D1 (Or.inr (hw _ ow98)) (ty := (.object "java/time/Instant")) (by decide)
  have F5 : Fld Z h1 b1 "com/example/fixd/fixd/location/Location" "latitude" "D" (.double 0) := D1 (Or.inr (hw _ ow100)) (ty := .double) (by decide)
  have F6 : Fld Z h1 b1 "com/example/fixd/fixd/location/Location" "longitude" "D" (.double 0) := D1 (Or.inr (hw _ ow102)) (ty := .double) (by decide)
  have F7 : Fld Z h1 b1 "com/example/fixd/fixd/location/Location" "speed" "Ljava/util/OptionalDouble;" .null := D1 (Or.inr (hw _ ow104)) (ty := (.object "java/util/OptionalDouble")) (by decide)
  have F8 : Fld Z h1 b1 "com/example/fixd/fixd/location/Location" "bearing" "Ljava/util/OptionalDouble;" .null := D1 (Or.inr (hw _ ow106)) (ty := (.object "java/util/OptionalDouble")) (by decide)
  have F9 : Fld Z h1 b1 "com/example/fixd/fixd/location/Location" "altitude" "Ljava/util/OptionalDouble;" .null := D1 (Or.inr (hw _ ow108)) (ty := (.object "java/util/OptionalDouble")) (by decide)
  have F10 : Fld Z h1 b1 "com/example/fixd/fixd/location/Location" "mslAltitude" "Ljava/util/OptionalDouble;" .null := D1 (Or.inr (hw _ ow110)) (ty := (.object "java/util/OptionalDouble")) (by decide)
  have F11 : Fld Z h1 b1 "com/example/fixd/fixd/location/Location" "accuracy" "Ljava/util/OptionalDouble;" .null := D1 (Or.inr (hw _ ow112)) (ty := (.object "java/util/OptionalDouble")) (by decide)
  have F12 : Fld Z h1 b1 "com/example/fixd/fixd/location/Location" "satellites" "Ljava/util/OptionalInt;" .null := D1 (Or.inr (hw _ ow114)) (ty := (.object "java/util/OptionalInt")) (by decide)
  refine ownStep st1 ?_
  refine ownStep (fun _ k => XS.dup X1.here hx rfl (hb hby own_cs_d4) rfl rfl k) ?_
  refine ownStep (fun _ k => XS.aloadN X1.here hx rfl (hb hby own_cs_d5) rfl rfl k) ?_
  show ownGo p.tables e below (T1.setTop (mkF m 6 #[.val (.ref a), .val (.ref pv)] [(.ref pv), (.ref b1), (.ref b1), (.ref a)])) _
  obtain ⟨b13, T13, h13, kk13, X13, e13, E13, hS, hk13, hZ, hown, st13⟩ := ldcS X1 hx hZ hown (hw _ ow53) (fun d hd => hw d (own_wS d hd)) e1 hS (Nat.le_trans (Nat.zero_le _) (Nat.le_trans (Nat.le_refl _) E1.1)) (g := (mkF m 6 #[.val (.ref a), .val (.ref pv)] [(.ref pv), (.ref b1), (.ref b1), (.ref a)])) rfl (hb hby own_cs_d6) (n := 32) (by decide +kernel) (by decide) (by decide) (by decide)
  have KP14 : Keep h0 h13 [a] := KP2.ext E13
  refine ownStep st13 ?_
  show ownGo p.tables e below (T13.setTop (mkF m 8 #[.val (.ref a), .val (.ref pv)] [(.ref b13), (.ref pv), (.ref b1), (.ref b1), (.ref a)])) _
  have Zs16 : n0 ≤ h13.size := Nat.le_trans Z0 KP14.1
  obtain ⟨_, _, ⟨T15, L15, k15, n15⟩, -, X15, ⟨Lc15, hQ15, l15, y15, z15⟩, st15⟩ := Jvm.LawKit.callS X13 hx (y := (⟨"java/util/Objects", "requireNonNull", "(Ljava/lang/Object;Ljava/lang/String;)Ljava/lang/Object;"⟩ : MethodName)) hown (mvT hZ (hw _ ow56)) (mvT hZ (hw _ ow57)) (mvT hZ (hw _ ow58)) (mvT hZ (hw _ ow59)) (by decide) (backOf (W := 3) (own_rnn l Z a0 hw [] pv b13 h13 n0 Zs16 ) hZ (hw _ ow59) (hw _ ow58) (by decide) (by decide)) (g := (mkF m 8 #[.val (.ref a), .val (.ref pv)] [(.ref b13), (.ref pv), (.ref b1), (.ref b1), (.ref a)])) rfl (by rw [hml]; rfl) (argsL := [(.ref pv), (.ref b13)]) (rest := [(.ref b1), (.ref b1), (.ref a)]) (lenOf own_cs_pd0 rfl) rfl (by show 2 * 0 + _ ≤ _; exact Nat.le_of_eq rfl) (hb hby own_cs_d8) (fun _ _ => ⟨rfl, e13, (by decide : 3 + 0 ≤ _), (by decide : 46 + 0 ≤ _)⟩)
  dsimp only [Pt.U, Pt.locs, Pt.cells, Pt.slots] at X15 l15 y15 z15 st15 hQ15
  obtain rfl : k15 = 3 := y15
  obtain rfl : n15 = 46 := z15
  obtain ⟨rfl, N15q, R15⟩ := hQ15
  have N15 : Fr n0 L15 := l15 ▸ Fr.app N0 N15q
  refine ownStep (fun _ k => st15 _ k) ?_
  show ownGo p.tables e below (T15.setTop (mkF m 11 #[.val (.ref a), .val (.ref pv)] [(.ref pv), (.ref b1), (.ref b1), (.ref a)])) _
  have Q18 := ((Epv.ext E1).ext E13)
  obtain ⟨T17, X17, e17, st17⟩ := castY X15 hx hZ hown (hw _ ow60) R15 (Ins.self Q18) (g := (mkF m 11 #[.val (.ref a), .val (.ref pv)] [(.ref pv), (.ref b1), (.ref b1), (.ref a)])) rfl rfl (hb hby own_cs_d11)
  refine ownStep st17 ?_
  show ownGo p.tables e below (T17.setTop (mkF m 14 #[.val (.ref a), .val (.ref pv)] [(.ref pv), (.ref b1), (.ref b1), (.ref a)])) _
  have Q19 := ((hOld.ext E1).ext E13)
  have Q20 := Sep.ext Q19.2
  obtain ⟨T21, X21, e21, st21⟩ := getS2 X17 hx hZ hown (host := "") (Or.inl (hw _ ow61)) Via.refl e17 Q20 (g := (mkF m 14 #[.val (.ref a), .val (.ref pv)] [(.ref pv), (.ref b1), (.ref b1), (.ref a)])) rfl (hb hby own_cs_d14)
  refine ownStep st21 ?_
  refine ownStep (fun _ k => XS.dconst0 X21.here hx rfl (hb hby own_cs_d17) rfl k) ?_
  refine ownStep (fun _ k => XS.dconst0 X21.here hx rfl (hb hby own_cs_d18) rfl k) ?_
  show ownGo p.tables e below (T21.setTop (mkF m 19 #[.val (.ref a), .val (.ref pv)] [(.double FP.dconst0), (.double FP.dconst0), (.ref ep), (.ref pv), (.ref b1), (.ref b1), (.ref a)])) _
  have Zs23 : n0 ≤ h13.size := Nat.le_trans Z0 KP14.1
  obtain ⟨_, _, ⟨T22, L22, k22, n22⟩, -, X22, ⟨Lc22, hQ22, l22, y22, z22⟩, st22⟩ := Jvm.LawKit.callS X21 hx (y := (⟨"java/util/OptionalDouble", "empty", "()Ljava/util/OptionalDouble;"⟩ : MethodName)) hown (mvT hZ (hw _ ow63)) (mvT hZ (hw _ ow64)) (mvT hZ (hw _ ow65)) (mvT hZ (hw _ ow66)) (by decide) (backOf (W := 9) (own_emp l Z a0 hw [] em h13 n0 Zs23 Q19 Sem Oem Eem) hZ (hw _ ow66) (hw _ ow65) (by decide) (by decide)) (g := (mkF m 19 #[.val (.ref a), .val (.ref pv)] [(.double FP.dconst0), (.double FP.dconst0), (.ref ep), (.ref pv), (.ref b1), (.ref b1), (.ref a)])) rfl (by rw [hml]; rfl) (argsL := []) (rest := [(.double FP.dconst0), (.double FP.dconst0), (.ref ep), (.ref pv), (.ref b1), (.ref b1), (.ref a)]) (lenOf own_cs_pd1 rfl) rfl (by show 2 * 0 + _ ≤ _; exact Nat.le_of_eq rfl) (hb hby own_cs_d19) (fun _ _ => ⟨rfl, e21, (by decide : 3 + 0 ≤ _), (by decide : 46 + 0 ≤ _)⟩)
  dsimp only [Pt.U, Pt.locs, Pt.cells, Pt.slots] at X22 l22 y22 z22 st22 hQ22
  obtain rfl : k22 = 3 := y22
  obtain rfl : n22 = 46 := z22
  obtain ⟨rfl, N22q, R22⟩ := hQ22
  have N22 : Fr n0 L22 := l22 ▸ Fr.app N15 N22q
  refine ownStep (fun _ k => st22 _ k) ?_
  show ownGo p.tables e below (T22.setTop (mkF m 22 #[.val (.ref a), .val (.ref pv)] [(.ref em), (.double FP.dconst0), (.double FP.dconst0), (.ref ep), (.ref pv), (.ref b1), (.ref b1), (.ref a)])) _
  have Zs25 : n0 ≤ h13.size := Nat.le_trans Z0 KP14.1
  obtain ⟨_, _, ⟨T24, L24, k24, n24⟩, -, X24, ⟨Lc24, hQ24, l24, y24, z24⟩, st24⟩ := Jvm.LawKit.callS X22 hx (y := (⟨"java/util/OptionalDouble", "empty", "()Ljava/util/OptionalDouble;"⟩ : MethodName)) hown (mvT hZ (hw _ ow63)) (mvT hZ (hw _ ow64)) (mvT hZ (hw _ ow65)) (mvT hZ (hw _ ow66)) (by decide) (backOf (W := 10) (own_emp l Z a0 hw [] em h13 n0 Zs25 Q19 Sem Oem Eem) hZ (hw _ ow66) (hw _ ow65) (by decide) (by decide)) (g := (mkF m 22 #[.val (.ref a), .val (.ref pv)] [(.ref em), (.double FP.dconst0), (.double FP.dconst0), (.ref ep), (.ref pv), (.ref b1), (.ref b1), (.ref a)])) rfl (by rw [hml]; rfl) (argsL := []) (rest := [(.ref em), (.double FP.dconst0), (.double FP.dconst0), (.ref ep), (.ref pv), (.ref b1), (.ref b1), (.ref a)]) (lenOf own_cs_pd1 rfl) rfl (by show 2 * 0 + _ ≤ _; exact Nat.le_of_eq rfl) (hb hby own_cs_d22) (fun _ _ => ⟨rfl, R22, (by decide : 3 + 0 ≤ _), (by decide : 46 + 0 ≤ _)⟩)
  dsimp only [Pt.U, Pt.locs, Pt.cells, Pt.slots] at X24 l24 y24 z24 st24 hQ24
  obtain rfl : k24 = 3 := y24
  obtain rfl : n24 = 46 := z24
  obtain ⟨rfl, N24q, R24⟩ := hQ24
  have N24 : Fr n0 L24 := l24 ▸ Fr.app N22 N24q
  refine ownStep (fun _ k => st24 _ k) ?_
  show ownGo p.tables e below (T24.setTop (mkF m 25 #[.val (.ref a), .val (.ref pv)] [(.ref em), (.ref em), (.double FP.dconst0), (.double FP.dconst0), (.ref ep), (.ref pv), (.ref b1), (.ref b1), (.ref a)])) _
  have Q26 := (A1.ext E13)
  have Q27 := (F3.ext E13)
  have Q28 := (F4.ext E13)
  have Q29 := (F5.ext E13)
  have Q30 := (F6.ext E13)
  have Q31 := (F7.ext E13)
  have Q32 := (F8.ext E13)
  have Q33 := (F9.ext E13)
  have Q34 := (F10.ext E13)
  have Q35 := (F11.ext E13)
  have Q36 := (F12.ext E13)
  have Zs38 : n0 ≤ h13.size := Nat.le_trans Z0 KP14.1
  obtain ⟨_, _, ⟨T37, L37, k37, n37⟩, -, X37, hSq37, gq37, ⟨Lc37, hQ37, l37, y37, z37⟩, st37⟩ := X24.specialBackS hx (y := (⟨"com/example/fixd/fixd/location/Location", "<init>", "(Ljava/lang/String;Ljava/time/Instant;DDLjava/util/OptionalDouble;Ljava/util/OptionalDouble;)V"⟩ : MethodName)) rfl hown (mvT hZ (hw _ ow68)) (mvT hZ (hw _ ow69)) (mvT hZ (hw _ ow70)) (by decide) (backOfS (W := 2) (own_ll6 l Z a0 hw [] em ei b1 pv ep FP.dconst0 FP.dconst0 em em h13 n0 Zs38 Q19 Sem Oem Eem Sei Eei Q26 gn_b1 Q27 Q28 Q29 Q30 Q31 Q32 Q33 Q34 Q35 Q36) hZ (hw _ ow70) (hw _ ow52) (by decide) (by decide)) (g := (mkF m 25 #[.val (.ref a), .val (.ref pv)] [(.ref em), (.ref em), (.double FP.dconst0), (.double FP.dconst0), (.ref ep), (.ref pv), (.ref b1), (.ref b1), (.ref a)])) rfl (by rw [hml]; rfl) (Steps.refl _) (a := b1) (argsL := [(.ref pv), (.ref ep), (.double FP.dconst0), (.double FP.dconst0), (.ref em), (.ref em)]) (rest := [(.ref b1), (.ref a)]) (lenOf own_cs_pd2 rfl) rfl (by show 2 * 0 + _ ≤ _; exact Nat.le_of_eq rfl) (hb hby own_cs_d25) (fun _ _ => ⟨rfl, R24, (by decide : 3 + 16 ≤ _), (by decide : 46 + 276 ≤ _)⟩)
  dsimp only [Pt.U, Pt.locs, Pt.cells, Pt.slots] at X37 l37 y37 z37 st37 hQ37 hSq37 gq37
  obtain ⟨X37, hS, hZ, hown⟩ := rebS hS (show _ ≤ T24.heap.size by rw [R24]; exact hk13) X37 hSq37 gq37 hZ hown
  obtain rfl : k37 = 19 := y37
  obtain rfl : n37 = 322 := z37
  obtain ⟨rfl, N37q, R37, P39⟩ := hQ37
  have N37 : Fr n0 L37 := l37 ▸ Fr.app N24 N37q
  refine ownStep (fun _ k => st37.trans k) ?_
  have KP40 : Keep h0 T37.heap [a] := KP14.trans R37 (allS (Or.inr gh_b1) all0)
  show ownGo p.tables e below (T37.setTop (mkF m 28 #[.val (.ref a), .val (.ref pv)] [(.ref b1), (.ref a)])) _
  have Q41 := (((E.ext E1).ext E13).keep R37)
  have Q42 := (Q26.keep R37)
  have ne43 : a ≠ b1 := Exa.ne ((E.ext E1).ext E13) Q26 (by decide)
  have Q44 := (((G_provider.ext E1).ext E13).keep R37 (ninS ne43 nin0))
  have Q45 := (((G_time.ext E1).ext E13).keep R37 (ninS ne43 nin0))
  have Q46 := (((G_latitude.ext E1).ext E13).keep R37 (ninS ne43 nin0))
  have Q47 := (((G_longitude.ext E1).ext E13).keep R37 (ninS ne43 nin0))
  have Q48 := (((G_speed.ext E1).ext E13).keep R37 (ninS ne43 nin0))
  have Q49 := (((G_bearing.ext E1).ext E13).keep R37 (ninS ne43 nin0))
  have Q50 := (((G_altitude.ext E1).ext E13).keep R37 (ninS ne43 nin0))
  have Q51 := (((G_mslAltitude.ext E1).ext E13).keep R37 (ninS ne43 nin0))
  have Q52 := (((G_accuracy.ext E1).ext E13).keep R37 (ninS ne43 nin0))
  have Q53 := (((G_satellites.ext E1).ext E13).keep R37 (ninS ne43 nin0))
  have Zs55 : n0 ≤ T37.heap.size := Nat.le_trans Z0 KP40.1
  obtain ⟨_, _, ⟨T54, L54, k54, n54⟩, -, X54, ⟨Lc54, hQ54, l54, y54, z54⟩, st54⟩ := X37.specialBack hx (y := (⟨"com/example/fixd/fixd/client/Location", "<init>", "(Lcom/example/fixd/fixd/location/Location;)V"⟩ : MethodName)) rfl hown (mvT hZ (hw _ ow115)) (mvT hZ (hw _ ow116)) (mvT hZ (hw _ ow117)) (by decide) (backOf (W := 0) (own_cc l Z a0 hw [] a b1 pv ep FP.dconst0 FP.dconst0 em em em em em ei T37.heap n0 Zs55 Q41 g Q42 P39 Q44 Q45 Q46 Q47 Q48 Q49 Q50 Q51 Q52 Q53) hZ (hw _ ow117) (hw _ ow46) (by decide) (by decide)) (g := (mkF m 28 #[.val (.ref a), .val (.ref pv)] [(.ref b1), (.ref a)])) rfl (by rw [hml]; rfl) (Steps.refl _) (a := a) (argsL := [(.ref b1)]) (rest := []) (lenOf own_cs_pd3 rfl) rfl (by show 2 * 0 + _ ≤ _; exact Nat.le_of_eq rfl) (hb hby own_cs_d28) (fun _ _ => ⟨rfl, rfl, (by decide : 19 + 0 ≤ _), (by decide : 322 + 0 ≤ _)⟩)
  dsimp only [Pt.U, Pt.locs, Pt.cells, Pt.slots] at X54 l54 y54 z54 st54 hQ54
  obtain rfl : k54 = 19 := y54
  obtain rfl : n54 = 322 := z54
  obtain ⟨rfl, N54q, R54, P56⟩ := hQ54
  have N54 : Fr n0 L54 := l54 ▸ Fr.app N37 N54q
  refine ownStep (fun _ k => st54.trans k) ?_
  have KP57 : Keep h0 T54.heap [a] := KP40.trans R54 (allS (Or.inl (List.mem_of_getElem? (i := 0) rfl)) all0)
  show ownGo p.tables e below (T54.setTop (mkF m 31 #[.val (.ref a), .val (.ref pv)] [])) _
  exact ownRetW X54 hS (Nat.le_trans (Nat.le_refl _) (Nat.le_trans (Nat.le_refl _) R54.1)) (v := none) Bd.notSynchronized (fun _ => rfl) (fun _ hr => X54.returnOut hx Bd.returns (hb hby own_cs_d31) hr) (⟨rfl, N54, KP57, P56⟩) (by decide) (by decide)
theorem own_sTime_d0 : decode prog_5_method_5_code 0 = .ok (.aload_n 0, 1) := by decide +kernel
theorem own_sTime_d1 : decode prog_5_method_5_code 1 = .ok (.lload_n 1, 1) := by decide +kernel
theorem own_sTime_d2 : decode prog_5_method_5_code 2 = .ok (.invokestatic 100, 3) := by decide +kernel
theorem own_sTime_d5 : decode prog_5_method_5_code 5 = .ok (.putfield 49, 3) := by decide +kernel
theorem own_sTime_d8 : decode prog_5_method_5_code 8 = .ok (.return_, 1) := by decide +kernel
theorem own_sTime_pn : plainName "com/example/fixd/fixd/client/Location" = true := by first | (simp [plainName, overriddenIn]; done) | decide +kernel
theorem own_sTime_pd0 : parseMethodDescriptor "(J)Ljava/time/Instant;" = some ⟨[.long], some (.object "java/time/Instant")⟩ := by decide +kernel
theorem own_sTime_ef (m : MethodId) (x0 : Addr) (x1 : Int64) : entryFrame m #[(.ref x0), (.long x1)] 3 = mkF m 0 #[.val (.ref x0), .val (.long x1), .second] [] := by first | (simp [entryFrame, mkF, argsToLocals, Value.category]; done) | rfl
def own_sTime_Q (Z : State) (ep : Addr) (a : Addr) (pv : Addr) (ti : Addr) (la : UInt64) (lo : UInt64) (sp : Addr) (be : Addr) (al : Addr) (ms : Addr) (ac : Addr) (sa : Addr) (t : Int64) (h0 : Heap) (n0 : Nat) (vv_ : Option Value) (hh_ : Heap) (LL_ : List Loc) : Prop := ∃ o : Addr, vv_ = none ∧ Fr n0 LL_ ∧ Keep h0 hh_ [a] ∧ (Cli Z hh_ a pv o la lo sp be al ms ac sa) ∧ (Tim Z hh_ o t)
set_option maxRecDepth 65536 in
set_option maxHeartbeats 40000000 in
theorem own_sTime (l : Launch) (Z : State) (a0 : Array Value) (hw : ∀ d ∈ tables_1, d.before a0 Z = true) (ws : List Jvm.Cond) (ep : Addr) (a : Addr) (pv : Addr) (ti : Addr) (la : UInt64) (lo : UInt64) (sp : Addr) (be : Addr) (al : Addr) (ms : Addr) (ac : Addr) (sa : Addr) (t : Int64) (h0 : Heap) (n0 : Nat) (Z0 : n0 ≤ h0.size) (hOld : Old Z n0 h0) (Sep : Sta Z Z.heap "java/time/Instant" "EPOCH" "Ljava/time/Instant;" (.ref ep)) (Tep : Tim Z Z.heap ep (0 : Int64)) (Eep : Exa Z Z.heap ep "java/time/Instant") (E : Exa Z h0 a "com/example/fixd/fixd/client/Location") (g : n0 ≤ a) (hC : Cli Z h0 a pv ti la lo sp be al ms ac sa) :
    MetFree l (⟨"com/example/fixd/fixd/client/Location", "setTime", "(J)V"⟩ : MethodName) (head1 (Jvm.Cond.code (⟨"com/example/fixd/fixd/client/Location", "setTime", "(J)V"⟩ : MethodName) prog_5_method_5_code 3 none :: ws) ({ frames := 4, cells := 1, slots := 2, locals := 59 } : Room)) (fun aa_ UU_ => aa_ = #[(.ref a), (.long t)] ∧ Z.Warmed39 UU_.vm ∧ UU_.heap = h0) (fun _ _ _ _ _ => True) (fun _ UU_ oo_ UV_ => ∃ vv_ LL_, oo_ = .returned vv_ ∧ own_sTime_Q Z ep a pv ti la lo sp be al ms ac sa t h0 n0 vv_ UV_.heap LL_ ∧ FrameEnd UU_ oo_ UV_ LL_ ({ frames := 4, cells := 1, slots := 2, locals := 59 } : Room).cells ({ frames := 4, cells := 1, slots := 2, locals := 59 } : Room).slots) := by
  refine MetFree.of_bodySF (plainFor_of_name own_sTime_pn) hisR ?_
  intro p e s m args below meth c s₁ Bd hml0 hP hK
  obtain ⟨rfl, hZ, hh⟩ := hP
  have hx := Bd.exec
  have hby := Bd.bytes
  have hml : c.maxLocals = 3 := hml0
  have hown : s.vm.findClass "com/example/fixd/fixd/client/Location" = some m.cls := findClass_of_methodNamed Bd.named
  have hnm := (name_of_methodNamed Bd.named Bd.method).1
  have X0 : Stand p l e ({ frames := 4, cells := 1, slots := 2, locals := 59 } : Room) s m #[(.ref a), (.long t)] below meth c s₁ [] 0 0 := Stand.of_body Bd
  have e0 : s₁.heap = h0 := by rw [← hh, Bd.state]; rfl
  have N0 := Fr.nil n0
  have KP0 : Keep h0 h0 [a] := Keep.refl _ _
  refine ownFin (Q := own_sTime_Q Z ep a pv ti la lo sp be al ms ac sa t h0 n0) ?_
  refine ownStep (fun _ k => castTop (own_sTime_ef m a t) k) ?_
  show ownGo p.tables e below (s₁.setTop (mkF m 0 #[.val (.ref a), .val (.long t), .second] [])) _
  have hC_ := hC
  obtain ⟨hC_provider, hC_time, hC_latitude, hC_longitude, hC_speed, hC_bearing, hC_altitude, hC_mslAltitude, hC_accuracy, hC_satellites⟩ := hC_
  refine ownStep (fun _ k => XS.aloadN X0.here hx rfl (hb hby own_sTime_d0) rfl rfl k) ?_
  refine ownStep (fun _ k => XS.lloadN X0.here hx rfl (hb hby own_sTime_d1) rfl  k) ?_
  show ownGo p.tables e below (s₁.setTop (mkF m 2 #[.val (.ref a), .val (.long t), .second] [(.long t), (.ref a)])) _
  have Zs2 : n0 ≤ h0.size := Nat.le_trans Z0 KP0.1
  obtain ⟨_, _, ⟨T1, L1, k1, n1⟩, -, X1, ⟨Lc1, hQ1, l1, y1, z1⟩, st1⟩ := Jvm.LawKit.callS X0 hx (y := (⟨"java/time/Instant", "ofEpochMilli", "(J)Ljava/time/Instant;"⟩ : MethodName)) hown (mvT hZ (hw _ ow194)) (mvT hZ (hw _ ow195)) (mvT hZ (hw _ ow62)) (mvT hZ (hw _ ow196)) (by decide) (backOf (W := 1) (own_ofe l Z a0 hw [] ep t h0 n0 Zs2 hOld Sep Tep Eep) hZ (hw _ ow196) (hw _ ow62) (by decide) (by decide)) (g := (mkF m 2 #[.val (.ref a), .val (.long t), .second] [(.long t), (.ref a)])) rfl (by rw [hml]; rfl) (argsL := [(.long t)]) (rest := [(.ref a)]) (lenOf own_sTime_pd0 rfl) rfl (by show 2 * 0 + _ ≤ _; exact Nat.le_of_eq rfl) (hb hby own_sTime_d2) (fun _ _ => ⟨rfl, e0, (by decide : 0 + 1 ≤ _), (by decide : 0 + 2 ≤ _)⟩)
  dsimp only [Pt.U, Pt.locs, Pt.cells, Pt.slots] at X1 l1 y1 z1 st1 hQ1
  obtain rfl : k1 = 1 := y1
  obtain rfl : n1 = 2 := z1
  obtain ⟨oo, rfl, N1q, R1, P3⟩ := hQ1
  have N1 : Fr n0 L1 := l1 ▸ Fr.app N0 N1q
  refine ownStep (fun _ k => st1 _ k) ?_
  have KP4 : Keep h0 T1.heap [a] := KP0.ext R1
  show ownGo p.tables e below (T1.setTop (mkF m 5 #[.val (.ref a), .val (.long t), .second] [(.ref oo), (.ref a)])) _
  have Q5 := (hC_time.ext R1)
  have Q6 := (E.ext R1)
  obtain ⟨T7, h7, X7, e7, W7, st7⟩ := putF X1 hx hZ hown (host := "") (Or.inl (hw _ ow131)) Via.refl rfl Q5 Q6 (Or.inl (hw _ ow132)) (hw _ ow45) (ty := (.object "java/time/Instant")) (by decide) rfl rfl (g := (mkF m 5 #[.val (.ref a), .val (.long t), .second] [(.ref oo), (.ref a)])) rfl rfl (hb hby own_sTime_d5)
  have N8 := Fr.snoc X7 N1 g
  have KP9 : Keep h0 h7 [a] := KP4.wr W7 (Or.inl (List.mem_of_getElem? (i := 0) rfl))
  have F10 : Fld Z h7 a "com/example/fixd/fixd/client/Location" "time" "Ljava/time/Instant;" (.ref oo) := Q5.same W7
  refine ownStep st7 ?_
  show ownGo p.tables e below (T7.setTop (mkF m 8 #[.val (.ref a), .val (.long t), .second] [])) _
  have Q11 := ((hC_provider.ext R1).other W7 (.inr (ownNe (.inr (hw _ ow125)) (.inl (hw _ ow132)))))
  have Q12 := ((hC_latitude.ext R1).other W7 (.inr (ownNe (.inl (hw _ ow139)) (.inl (hw _ ow132)))))
  have Q13 := ((hC_longitude.ext R1).other W7 (.inr (ownNe (.inl (hw _ ow146)) (.inl (hw _ ow132)))))
  have Q14 := ((hC_speed.ext R1).other W7 (.inr (ownNe (.inl (hw _ ow153)) (.inl (hw _ ow132)))))
  have Q15 := ((hC_bearing.ext R1).other W7 (.inr (ownNe (.inl (hw _ ow160)) (.inl (hw _ ow132)))))
  have Q16 := ((hC_altitude.ext R1).other W7 (.inr (ownNe (.inl (hw _ ow167)) (.inl (hw _ ow132)))))
  have Q17 := ((hC_mslAltitude.ext R1).other W7 (.inr (ownNe (.inl (hw _ ow174)) (.inl (hw _ ow132)))))
  have Q18 := ((hC_accuracy.ext R1).other W7 (.inr (ownNe (.inl (hw _ ow181)) (.inl (hw _ ow132)))))
  have Q19 := ((hC_satellites.ext R1).other W7 (.inr (ownNe (.inl (hw _ ow188)) (.inl (hw _ ow132)))))
  have ne20 : oo ≠ a := Exa.ne (P3.1) Q6 (by decide)
  have Q21 := (P3.other W7 ne20)
  exact ownRet X7 (v := none) Bd.notSynchronized (fun _ => rfl) (fun _ hr => X7.returnOut hx Bd.returns (hb hby own_sTime_d8) hr) (by rw [e7]; exact ⟨oo, rfl, N8, KP9, ⟨Q11, F10, Q12, Q13, Q14, Q15, Q16, Q17, Q18, Q19⟩, Q21⟩) (by decide) (by decide)
theorem os_la_d0 : decode prog_5_method_7_code 0 = .ok (.aload_n 0, 1) := by decide +kernel
theorem os_la_d1 : decode prog_5_method_7_code 1 = .ok (.dload_n 1, 1) := by decide +kernel
theorem os_la_d2 : decode prog_5_method_7_code 2 = .ok (.putfield 55, 3) := by decide +kernel
theorem os_la_d5 : decode prog_5_method_7_code 5 = .ok (.return_, 1) := by decide +kernel
theorem os_la_pn : plainName "com/example/fixd/fixd/client/Location" = true := by first | (simp [plainName, overriddenIn]; done) | decide +kernel
theorem os_la_ef (m : MethodId) (x0 : Addr) (x1 : UInt64) : entryFrame m #[(.ref x0), (.double x1)] 3 = mkF m 0 #[.val (.ref x0), .val (.double x1), .second] [] := by first | (simp [entryFrame, mkF, argsToLocals, Value.category]; done) | rfl
def os_la_Q (Z : State) (a : Addr) (pv : Addr) (ti : Addr) (la : UInt64) (lo : UInt64) (sp : Addr) (be : Addr) (al : Addr) (ms : Addr) (ac : Addr) (sa : Addr) (w : UInt64) (h0 : Heap) (n0 : Nat) (vv_ : Option Value) (hh_ : Heap) (LL_ : List Loc) : Prop := vv_ = none ∧ Fr n0 LL_ ∧ Keep h0 hh_ [a] ∧ (Cli Z hh_ a pv ti w lo sp be al ms ac sa)
set_option maxRecDepth 65536 in
set_option maxHeartbeats 40000000 in
theorem os_la (l : Launch) (Z : State) (a0 : Array Value) (hw : ∀ d ∈ tables_1, d.before a0 Z = true) (ws : List Jvm.Cond) (a : Addr) (pv : Addr) (ti : Addr) (la : UInt64) (lo : UInt64) (sp : Addr) (be : Addr) (al : Addr) (ms : Addr) (ac : Addr) (sa : Addr) (w : UInt64) (h0 : Heap) (n0 : Nat) (Z0 : n0 ≤ h0.size) (E : Exa Z h0 a "com/example/fixd/fixd/client/Location") (g : n0 ≤ a) (hC : Cli Z h0 a pv ti la lo sp be al ms ac sa) :
    MetFree l (⟨"com/example/fixd/fixd/client/Location", "setLatitude", "(D)V"⟩ : MethodName) (head1 (Jvm.Cond.code (⟨"com/example/fixd/fixd/client/Location", "setLatitude", "(D)V"⟩ : MethodName) prog_5_method_7_code 3 none :: ws) ({ frames := 0, cells := 0, slots := 0, locals := 0 } : Room)) (fun aa_ UU_ => aa_ = #[(.ref a), (.double w)] ∧ Z.Warmed39 UU_.vm ∧ UU_.heap = h0) (fun _ _ _ _ _ => True) (fun _ UU_ oo_ UV_ => ∃ vv_ LL_, oo_ = .returned vv_ ∧ os_la_Q Z a pv ti la lo sp be al ms ac sa w h0 n0 vv_ UV_.heap LL_ ∧ FrameEnd UU_ oo_ UV_ LL_ ({ frames := 0, cells := 0, slots := 0, locals := 0 } : Room).cells ({ frames := 0, cells := 0, slots := 0, locals := 0 } : Room).slots) := by
  refine MetFree.of_bodySF (plainFor_of_name os_la_pn) hisR ?_
  intro p e s m args below meth c s₁ Bd hml0 hP hK
  obtain ⟨rfl, hZ, hh⟩ := hP
  have hx := Bd.exec
  have hby := Bd.bytes
  have hml : c.maxLocals = 3 := hml0
  have hown : s.vm.findClass "com/example/fixd/fixd/client/Location" = some m.cls := findClass_of_methodNamed Bd.named
  have hnm := (name_of_methodNamed Bd.named Bd.method).1
  have X0 : Stand p l e ({ frames := 0, cells := 0, slots := 0, locals := 0 } : Room) s m #[(.ref a), (.double w)] below meth c s₁ [] 0 0 := Stand.of_body Bd
  have e0 : s₁.heap = h0 := by rw [← hh, Bd.state]; rfl
  have N0 := Fr.nil n0
  have KP0 : Keep h0 h0 [a] := Keep.refl _ _
  refine ownFin (Q := os_la_Q Z a pv ti la lo sp be al ms ac sa w h0 n0) ?_
  refine ownStep (fun _ k => castTop (os_la_ef m a w) k) ?_
  show ownGo p.tables e below (s₁.setTop (mkF m 0 #[.val (.ref a), .val (.double w), .second] [])) _
  have hC_ := hC
  obtain ⟨hC_provider, hC_time, hC_latitude, hC_longitude, hC_speed, hC_bearing, hC_altitude, hC_mslAltitude, hC_accuracy, hC_satellites⟩ := hC_
  refine ownStep (fun _ k => XS.aloadN X0.here hx rfl (hb hby os_la_d0) rfl rfl k) ?_
  refine ownStep (fun _ k => XS.dloadN X0.here hx rfl (hb hby os_la_d1) rfl k) ?_
  show ownGo p.tables e below (s₁.setTop (mkF m 2 #[.val (.ref a), .val (.double w), .second] [(.double w), (.ref a)])) _
  obtain ⟨T1, h1, X1, e1, W1, st1⟩ := putF X0 hx hZ hown (host := "") (Or.inl (hw _ ow138)) Via.refl e0 hC_latitude E (Or.inl (hw _ ow139)) (hw _ ow45) (ty := .double) (by decide) rfl rfl (g := (mkF m 2 #[.val (.ref a), .val (.double w), .second] [(.double w), (.ref a)])) rfl rfl (hb hby os_la_d2)
  have N2 := Fr.snoc X1 N0 g
  have KP3 : Keep h0 h1 [a] := KP0.wr W1 (Or.inl (List.mem_of_getElem? (i := 0) rfl))
  have F4 : Fld Z h1 a "com/example/fixd/fixd/client/Location" "latitude" "D" (.double w) := hC_latitude.same W1
  refine ownStep st1 ?_
  show ownGo p.tables e below (T1.setTop (mkF m 5 #[.val (.ref a), .val (.double w), .second] [])) _
  have Q5 := (hC_provider.other W1 (.inr (ownNe (.inr (hw _ ow125)) (.inl (hw _ ow139)))))
  have Q6 := (hC_time.other W1 (.inr (ownNe (.inl (hw _ ow132)) (.inl (hw _ ow139)))))
  have Q7 := (hC_longitude.other W1 (.inr (ownNe (.inl (hw _ ow146)) (.inl (hw _ ow139)))))
  have Q8 := (hC_speed.other W1 (.inr (ownNe (.inl (hw _ ow153)) (.inl (hw _ ow139)))))
  have Q9 := (hC_bearing.other W1 (.inr (ownNe (.inl (hw _ ow160)) (.inl (hw _ ow139)))))
  have Q10 := (hC_altitude.other W1 (.inr (ownNe (.inl (hw _ ow167)) (.inl (hw _ ow139)))))
  have Q11 := (hC_mslAltitude.other W1 (.inr (ownNe (.inl (hw _ ow174)) (.inl (hw _ ow139)))))
  have Q12 := (hC_accuracy.other W1 (.inr (ownNe (.inl (hw _ ow181)) (.inl (hw _ ow139)))))
  have Q13 := (hC_satellites.other W1 (.inr (ownNe (.inl (hw _ ow188)) (.inl (hw _ ow139)))))
  exact ownRet X1 (v := none) Bd.notSynchronized (fun _ => rfl) (fun _ hr => X1.returnOut hx Bd.returns (hb hby os_la_d5) hr) (by rw [e1]; exact ⟨rfl, N2, KP3, ⟨Q5, Q6, F4, Q7, Q8, Q9, Q10, Q11, Q12, Q13⟩⟩) (by decide) (by decide)
theorem os_lo_d0 : decode prog_5_method_9_code 0 = .ok (.aload_n 0, 1) := by decide +kernel
theorem os_lo_d1 : decode prog_5_method_9_code 1 = .ok (.dload_n 1, 1) := by decide +kernel
theorem os_lo_d2 : decode prog_5_method_9_code 2 = .ok (.putfield 61, 3) := by decide +kernel
theorem os_lo_d5 : decode prog_5_method_9_code 5 = .ok (.return_, 1) := by decide +kernel
theorem os_lo_pn : plainName "com/example/fixd/fixd/client/Location" = true := by first | (simp [plainName, overriddenIn]; done) | decide +kernel
theorem os_lo_ef (m : MethodId) (x0 : Addr) (x1 : UInt64) : entryFrame m #[(.ref x0), (.double x1)] 3 = mkF m 0 #[.val (.ref x0), .val (.double x1), .second] [] := by first | (simp [entryFrame, mkF, argsToLocals, Value.category]; done) | rfl
def os_lo_Q (Z : State) (a : Addr) (pv : Addr) (ti : Addr) (la : UInt64) (lo : UInt64) (sp : Addr) (be : Addr) (al : Addr) (ms : Addr) (ac : Addr) (sa : Addr) (w : UInt64) (h0 : Heap) (n0 : Nat) (vv_ : Option Value) (hh_ : Heap) (LL_ : List Loc) : Prop := vv_ = none ∧ Fr n0 LL_ ∧ Keep h0 hh_ [a] ∧ (Cli Z hh_ a pv ti la w sp be al ms ac sa)
set_option maxRecDepth 65536 in
set_option maxHeartbeats 40000000 in
theorem os_lo (l : Launch) (Z : State) (a0 : Array Value) (hw : ∀ d ∈ tables_1, d.before a0 Z = true) (ws : List Jvm.Cond) (a : Addr) (pv : Addr) (ti : Addr) (la : UInt64) (lo : UInt64) (sp : Addr) (be : Addr) (al : Addr) (ms : Addr) (ac : Addr) (sa : Addr) (w : UInt64) (h0 : Heap) (n0 : Nat) (Z0 : n0 ≤ h0.size) (E : Exa Z h0 a "com/example/fixd/fixd/client/Location") (g : n0 ≤ a) (hC : Cli Z h0 a pv ti la lo sp be al ms ac sa) :
    MetFree l (⟨"com/example/fixd/fixd/client/Location", "setLongitude", "(D)V"⟩ : MethodName) (head1 (Jvm.Cond.code (⟨"com/example/fixd/fixd/client/Location", "setLongitude", "(D)V"⟩ : MethodName) prog_5_method_9_code 3 none :: ws) ({ frames := 0, cells := 0, slots := 0, locals := 0 } : Room)) (fun aa_ UU_ => aa_ = #[(.ref a), (.double w)] ∧ Z.Warmed39 UU_.vm ∧ UU_.heap = h0) (fun _ _ _ _ _ => True) (fun _ UU_ oo_ UV_ => ∃ vv_ LL_, oo_ = .returned vv_ ∧ os_lo_Q Z a pv ti la lo sp be al ms ac sa w h0 n0 vv_ UV_.heap LL_ ∧ FrameEnd UU_ oo_ UV_ LL_ ({ frames := 0, cells := 0, slots := 0, locals := 0 } : Room).cells ({ frames := 0, cells := 0, slots := 0, locals := 0 } : Room).slots) := by
  refine MetFree.of_bodySF (plainFor_of_name os_lo_pn) hisR ?_
  intro p e s m args below meth c s₁ Bd hml0 hP hK
  obtain ⟨rfl, hZ, hh⟩ := hP
  have hx := Bd.exec
  have hby := Bd.bytes
  have hml : c.maxLocals = 3 := hml0
  have hown : s.vm.findClass "com/example/fixd/fixd/client/Location" = some m.cls := findClass_of_methodNamed Bd.named
  have hnm := (name_of_methodNamed Bd.named Bd.method).1
  have X0 : Stand p l e ({ frames := 0, cells := 0, slots := 0, locals := 0 } : Room) s m #[(.ref a), (.double w)] below meth c s₁ [] 0 0 := Stand.of_body Bd
  have e0 : s₁.heap = h0 := by rw [← hh, Bd.state]; rfl
  have N0 := Fr.nil n0
  have KP0 : Keep h0 h0 [a] := Keep.refl _ _
  refine ownFin (Q := os_lo_Q Z a pv ti la lo sp be al ms ac sa w h0 n0) ?_
  refine ownStep (fun _ k => castTop (os_lo_ef m a w) k) ?_
  show ownGo p.tables e below (s₁.setTop (mkF m 0 #[.val (.ref a), .val (.double w), .second] [])) _
  have hC_ := hC
  obtain ⟨hC_provider, hC_time, hC_latitude, hC_longitude, hC_speed, hC_bearing, hC_altitude, hC_mslAltitude, hC_accuracy, hC_satellites⟩ := hC_
  refine ownStep (fun _ k => XS.aloadN X0.here hx rfl (hb hby os_lo_d0) rfl rfl k) ?_
  refine ownStep (fun _ k => XS.dloadN X0.here hx rfl (hb hby os_lo_d1) rfl k) ?_
  show ownGo p.tables e below (s₁.setTop (mkF m 2 #[.val (.ref a), .val (.double w), .second] [(.double w), (.ref a)])) _
  obtain ⟨T1, h1, X1, e1, W1, st1⟩ := putF X0 hx hZ hown (host := "") (Or.inl (hw _ ow145)) Via.refl e0 hC_longitude E (Or.inl (hw _ ow146)) (hw _ ow45) (ty := .double) (by decide) rfl rfl (g := (mkF m 2 #[.val (.ref a), .val (.double w), .second] [(.double w), (.ref a)])) rfl rfl (hb hby os_lo_d2)
  have N2 := Fr.snoc X1 N0 g
  have KP3 : Keep h0 h1 [a] := KP0.wr W1 (Or.inl (List.mem_of_getElem? (i := 0) rfl))
  have F4 : Fld Z h1 a "com/example/fixd/fixd/client/Location" "longitude" "D" (.double w) := hC_longitude.same W1
  refine ownStep st1 ?_
  show ownGo p.tables e below (T1.setTop (mkF m 5 #[.val (.ref a), .val (.double w), .second] [])) _
  have Q5 := (hC_provider.other W1 (.inr (ownNe (.inr (hw _ ow125)) (.inl (hw _ ow146)))))
  have Q6 := (hC_time.other W1 (.inr (ownNe (.inl (hw _ ow132)) (.inl (hw _ ow146)))))
  have Q7 := (hC_latitude.other W1 (.inr (ownNe (.inl (hw _ ow139)) (.inl (hw _ ow146)))))
  have Q8 := (hC_speed.other W1 (.inr (ownNe (.inl (hw _ ow153)) (.inl (hw _ ow146)))))
  have Q9 := (hC_bearing.other W1 (.inr (ownNe (.inl (hw _ ow160)) (.inl (hw _ ow146)))))
  have Q10 := (hC_altitude.other W1 (.inr (ownNe (.inl (hw _ ow167)) (.inl (hw _ ow146)))))
  have Q11 := (hC_mslAltitude.other W1 (.inr (ownNe (.inl (hw _ ow174)) (.inl (hw _ ow146)))))
  have Q12 := (hC_accuracy.other W1 (.inr (ownNe (.inl (hw _ ow181)) (.inl (hw _ ow146)))))
  have Q13 := (hC_satellites.other W1 (.inr (ownNe (.inl (hw _ ow188)) (.inl (hw _ ow146)))))
  exact ownRet X1 (v := none) Bd.notSynchronized (fun _ => rfl) (fun _ hr => X1.returnOut hx Bd.returns (hb hby os_lo_d5) hr) (by rw [e1]; exact ⟨rfl, N2, KP3, ⟨Q5, Q6, Q7, F4, Q8, Q9, Q10, Q11, Q12, Q13⟩⟩) (by decide) (by decide)
theorem os_sp_d0 : decode prog_5_method_18_code 0 = .ok (.aload_n 0, 1) := by decide +kernel
theorem os_sp_d1 : decode prog_5_method_18_code 1 = .ok (.fload_n 1, 1) := by decide +kernel
theorem os_sp_d2 : decode prog_5_method_18_code 2 = .ok (.f2d, 1) := by decide +kernel
theorem os_sp_d3 : decode prog_5_method_18_code 3 = .ok (.invokestatic 112, 3) := by decide +kernel
theorem os_sp_d6 : decode prog_5_method_18_code 6 = .ok (.putfield 66, 3) := by decide +kernel
theorem os_sp_d9 : decode prog_5_method_18_code 9 = .ok (.return_, 1) := by decide +kernel
theorem os_sp_pn : plainName "com/example/fixd/fixd/client/Location" = true := by first | (simp [plainName, overriddenIn]; done) | decide +kernel
theorem os_sp_pd0 : parseMethodDescriptor "(D)Ljava/util/OptionalDouble;" = some ⟨[.double], some (.object "java/util/OptionalDouble")⟩ := by decide +kernel
theorem os_sp_ef (m : MethodId) (x0 : Addr) (x1 : UInt32) : entryFrame m #[(.ref x0), (.float x1)] 2 = mkF m 0 #[.val (.ref x0), .val (.float x1)] [] := by first | (simp [entryFrame, mkF, argsToLocals, Value.category]; done) | rfl
def os_sp_Q (Z : State) (a : Addr) (pv : Addr) (ti : Addr) (la : UInt64) (lo : UInt64) (sp : Addr) (be : Addr) (al : Addr) (ms : Addr) (ac : Addr) (sa : Addr) (w : UInt32) (h0 : Heap) (n0 : Nat) (vv_ : Option Value) (hh_ : Heap) (LL_ : List Loc) : Prop := ∃ o : Addr, vv_ = none ∧ Fr n0 LL_ ∧ Keep h0 hh_ [a] ∧ (Cli Z hh_ a pv ti la lo o be al ms ac sa) ∧ (Opt Z hh_ o (1 : Int32) (FP.f2d w))
set_option maxRecDepth 65536 in
set_option maxHeartbeats 40000000 in
theorem os_sp (l : Launch) (Z : State) (a0 : Array Value) (hw : ∀ d ∈ tables_1, d.before a0 Z = true) (ws : List Jvm.Cond) (a : Addr) (pv : Addr) (ti : Addr) (la : UInt64) (lo : UInt64) (sp : Addr) (be : Addr) (al : Addr) (ms : Addr) (ac : Addr) (sa : Addr) (w : UInt32) (h0 : Heap) (n0 : Nat) (Z0 : n0 ≤ h0.size) (E : Exa Z h0 a "com/example/fixd/fixd/client/Location") (g : n0 ≤ a) (hC : Cli Z h0 a pv ti la lo sp be al ms ac sa) (hn : NoNaN64 (FP.f2d w)) :
    MetFree l (⟨"com/example/fixd/fixd/client/Location", "setSpeed", "(F)V"⟩ : MethodName) (head1 (Jvm.Cond.code (⟨"com/example/fixd/fixd/client/Location", "setSpeed", "(F)V"⟩ : MethodName) prog_5_method_18_code 2 none :: ws) ({ frames := 3, cells := 1, slots := 2, locals := 41 } : Room)) (fun aa_ UU_ => aa_ = #[(.ref a), (.float w)] ∧ Z.Warmed39 UU_.vm ∧ UU_.heap = h0) (fun _ _ _ _ _ => True) (fun _ UU_ oo_ UV_ => ∃ vv_ LL_, oo_ = .returned vv_ ∧ os_sp_Q Z a pv ti la lo sp be al ms ac sa w h0 n0 vv_ UV_.heap LL_ ∧ FrameEnd UU_ oo_ UV_ LL_ ({ frames := 3, cells := 1, slots := 2, locals := 41 } : Room).cells ({ frames := 3, cells := 1, slots := 2, locals := 41 } : Room).slots) := by
  refine MetFree.of_bodySF (plainFor_of_name os_sp_pn) hisR ?_
  intro p e s m args below meth c s₁ Bd hml0 hP hK
  obtain ⟨rfl, hZ, hh⟩ := hP
  have hx := Bd.exec
  have hby := Bd.bytes
  have hml : c.maxLocals = 2 := hml0
  have hown : s.vm.findClass "com/example/fixd/fixd/client/Location" = some m.cls := findClass_of_methodNamed Bd.named
  have hnm := (name_of_methodNamed Bd.named Bd.method).1
  have X0 : Stand p l e ({ frames := 3, cells := 1, slots := 2, locals := 41 } : Room) s m #[(.ref a), (.float w)] below meth c s₁ [] 0 0 := Stand.of_body Bd
  have e0 : s₁.heap = h0 := by rw [← hh, Bd.state]; rfl
  have N0 := Fr.nil n0
  have KP0 : Keep h0 h0 [a] := Keep.refl _ _
  refine ownFin (Q := os_sp_Q Z a pv ti la lo sp be al ms ac sa w h0 n0) ?_
  refine ownStep (fun _ k => castTop (os_sp_ef m a w) k) ?_
  show ownGo p.tables e below (s₁.setTop (mkF m 0 #[.val (.ref a), .val (.float w)] [])) _
  have hC_ := hC
  obtain ⟨hC_provider, hC_time, hC_latitude, hC_longitude, hC_speed, hC_bearing, hC_altitude, hC_mslAltitude, hC_accuracy, hC_satellites⟩ := hC_
  refine ownStep (fun _ k => XS.aloadN X0.here hx rfl (hb hby os_sp_d0) rfl rfl k) ?_
  refine ownStep (fun _ k => XS.floadN X0.here hx rfl (hb hby os_sp_d1) rfl k) ?_
  refine ownStep (fun _ k => XS.f2dS X0.here hx rfl (hb hby os_sp_d2) rfl hn rfl k) ?_
  show ownGo p.tables e below (s₁.setTop (mkF m 3 #[.val (.ref a), .val (.float w)] [(.double (FP.f2d w)), (.ref a)])) _
  have Zs2 : n0 ≤ h0.size := Nat.le_trans Z0 KP0.1
  obtain ⟨_, _, ⟨T1, L1, k1, n1⟩, -, X1, ⟨Lc1, hQ1, l1, y1, z1⟩, st1⟩ := Jvm.LawKit.callS X0 hx (y := (⟨"java/util/OptionalDouble", "of", "(D)Ljava/util/OptionalDouble;"⟩ : MethodName)) hown (mvT hZ (hw _ ow353)) (mvT hZ (hw _ ow354)) (mvT hZ (hw _ ow65)) (mvT hZ (hw _ ow355)) (by decide) (backOf (W := 1) (own_odo l Z a0 hw [] (FP.f2d w) h0 n0 Zs2 ) hZ (hw _ ow355) (hw _ ow65) (by decide) (by decide)) (g := (mkF m 3 #[.val (.ref a), .val (.float w)] [(.double (FP.f2d w)), (.ref a)])) rfl (by rw [hml]; rfl) (argsL := [(.double (FP.f2d w))]) (rest := [(.ref a)]) (lenOf os_sp_pd0 rfl) rfl (by show 2 * 0 + _ ≤ _; exact Nat.le_of_eq rfl) (hb hby os_sp_d3) (fun _ _ => ⟨rfl, e0, (by decide : 0 + 1 ≤ _), (by decide : 0 + 2 ≤ _)⟩)
  dsimp only [Pt.U, Pt.locs, Pt.cells, Pt.slots] at X1 l1 y1 z1 st1 hQ1
  obtain rfl : k1 = 1 := y1
  obtain rfl : n1 = 2 := z1
  obtain ⟨oo, rfl, N1q, R1, P3⟩ := hQ1
  have N1 : Fr n0 L1 := l1 ▸ Fr.app N0 N1q
  refine ownStep (fun _ k => st1 _ k) ?_
  have KP4 : Keep h0 T1.heap [a] := KP0.ext R1
  show ownGo p.tables e below (T1.setTop (mkF m 6 #[.val (.ref a), .val (.float w)] [(.ref oo), (.ref a)])) _
  have Q5 := (hC_speed.ext R1)
  have Q6 := (E.ext R1)
  obtain ⟨T7, h7, X7, e7, W7, st7⟩ := putF X1 hx hZ hown (host := "") (Or.inl (hw _ ow152)) Via.refl rfl Q5 Q6 (Or.inl (hw _ ow153)) (hw _ ow45) (ty := (.object "java/util/OptionalDouble")) (by decide) rfl rfl (g := (mkF m 6 #[.val (.ref a), .val (.float w)] [(.ref oo), (.ref a)])) rfl rfl (hb hby os_sp_d6)
  have N8 := Fr.snoc X7 N1 g
  have KP9 : Keep h0 h7 [a] := KP4.wr W7 (Or.inl (List.mem_of_getElem? (i := 0) rfl))
  have F10 : Fld Z h7 a "com/example/fixd/fixd/client/Location" "speed" "Ljava/util/OptionalDouble;" (.ref oo) := Q5.same W7
  refine ownStep st7 ?_
  show ownGo p.tables e below (T7.setTop (mkF m 9 #[.val (.ref a), .val (.float w)] [])) _
  have Q11 := ((hC_provider.ext R1).other W7 (.inr (ownNe (.inr (hw _ ow125)) (.inl (hw _ ow153)))))
  have Q12 := ((hC_time.ext R1).other W7 (.inr (ownNe (.inl (hw _ ow132)) (.inl (hw _ ow153)))))
  have Q13 := ((hC_latitude.ext R1).other W7 (.inr (ownNe (.inl (hw _ ow139)) (.inl (hw _ ow153)))))
  have Q14 := ((hC_longitude.ext R1).other W7 (.inr (ownNe (.inl (hw _ ow146)) (.inl (hw _ ow153)))))
  have Q15 := ((hC_bearing.ext R1).other W7 (.inr (ownNe (.inl (hw _ ow160)) (.inl (hw _ ow153)))))
  have Q16 := ((hC_altitude.ext R1).other W7 (.inr (ownNe (.inl (hw _ ow167)) (.inl (hw _ ow153)))))
  have Q17 := ((hC_mslAltitude.ext R1).other W7 (.inr (ownNe (.inl (hw _ ow174)) (.inl (hw _ ow153)))))
  have Q18 := ((hC_accuracy.ext R1).other W7 (.inr (ownNe (.inl (hw _ ow181)) (.inl (hw _ ow153)))))
  have Q19 := ((hC_satellites.ext R1).other W7 (.inr (ownNe (.inl (hw _ ow188)) (.inl (hw _ ow153)))))
  have ne20 : oo ≠ a := Exa.ne (P3.1) Q6 (by decide)
  have Q21 := (P3.other W7 ne20)
  exact ownRet X7 (v := none) Bd.notSynchronized (fun _ => rfl) (fun _ hr => X7.returnOut hx Bd.returns (hb hby os_sp_d9) hr) (by rw [e7]; exact ⟨oo, rfl, N8, KP9, ⟨Q11, Q12, Q13, Q14, F10, Q15, Q16, Q17, Q18, Q19⟩, Q21⟩) (by decide) (by decide)
theorem os_be_d0 : decode prog_5_method_21_code 0 = .ok (.aload_n 0, 1) := by decide +kernel
theorem os_be_d1 : decode prog_5_method_21_code 1 = .ok (.fload_n 1, 1) := by decide +kernel
theorem os_be_d2 : decode prog_5_method_21_code 2 = .ok (.f2d, 1) := by decide +kernel
theorem os_be_d3 : decode prog_5_method_21_code 3 = .ok (.invokestatic 112, 3) := by decide +kernel
theorem os_be_d6 : decode prog_5_method_21_code 6 = .ok (.putfield 72, 3) := by decide +kernel
theorem os_be_d9 : decode prog_5_method_21_code 9 = .ok (.return_, 1) := by decide +kernel
theorem os_be_pn : plainName "com/example/fixd/fixd/client/Location" = true := by first | (simp [plainName, overriddenIn]; done) | decide +kernel
theorem os_be_pd0 : parseMethodDescriptor "(D)Ljava/util/OptionalDouble;" = some ⟨[.double], some (.object "java/util/OptionalDouble")⟩ := by decide +kernel
theorem os_be_ef (m : MethodId) (x0 : Addr) (x1 : UInt32) : entryFrame m #[(.ref x0), (.float x1)] 2 = mkF m 0 #[.val (.ref x0), .val (.float x1)] [] := by first | (simp [entryFrame, mkF, argsToLocals, Value.category]; done) | rfl
def os_be_Q (Z : State) (a : Addr) (pv : Addr) (ti : Addr) (la : UInt64) (lo : UInt64) (sp : Addr) (be : Addr) (al : Addr) (ms : Addr) (ac : Addr) (sa : Addr) (w : UInt32) (h0 : Heap) (n0 : Nat) (vv_ : Option Value) (hh_ : Heap) (LL_ : List Loc) : Prop := ∃ o : Addr, vv_ = none ∧ Fr n0 LL_ ∧ Keep h0 hh_ [a] ∧ (Cli Z hh_ a pv ti la lo sp o al ms ac sa) ∧ (Opt Z hh_ o (1 : Int32) (FP.f2d w))
set_option maxRecDepth 65536 in
set_option maxHeartbeats 40000000 in
theorem os_be (l : Launch) (Z : State) (a0 : Array Value) (hw : ∀ d ∈ tables_1, d.before a0 Z = true) (ws : List Jvm.Cond) (a : Addr) (pv : Addr) (ti : Addr) (la : UInt64) (lo : UInt64) (sp : Addr) (be : Addr) (al : Addr) (ms : Addr) (ac : Addr) (sa : Addr) (w : UInt32) (h0 : Heap) (n0 : Nat) (Z0 : n0 ≤ h0.size) (E : Exa Z h0 a "com/example/fixd/fixd/client/Location") (g : n0 ≤ a) (hC : Cli Z h0 a pv ti la lo sp be al ms ac sa) (hn : NoNaN64 (FP.f2d w)) :
    MetFree l (⟨"com/example/fixd/fixd/client/Location", "setBearing", "(F)V"⟩ : MethodName) (head1 (Jvm.Cond.code (⟨"com/example/fixd/fixd/client/Location", "setBearing", "(F)V"⟩ : MethodName) prog_5_method_21_code 2 none :: ws) ({ frames := 3, cells := 1, slots := 2, locals := 41 } : Room)) (fun aa_ UU_ => aa_ = #[(.ref a), (.float w)] ∧ Z.Warmed39 UU_.vm ∧ UU_.heap = h0) (fun _ _ _ _ _ => True) (fun _ UU_ oo_ UV_ => ∃ vv_ LL_, oo_ = .returned vv_ ∧ os_be_Q Z a pv ti la lo sp be al ms ac sa w h0 n0 vv_ UV_.heap LL_ ∧ FrameEnd UU_ oo_ UV_ LL_ ({ frames := 3, cells := 1, slots := 2, locals := 41 } : Room).cells ({ frames := 3, cells := 1, slots := 2, locals := 41 } : Room).slots) := by
  refine MetFree.of_bodySF (plainFor_of_name os_be_pn) hisR ?_
  intro p e s m args below meth c s₁ Bd hml0 hP hK
  obtain ⟨rfl, hZ, hh⟩ := hP
  have hx := Bd.exec
  have hby := Bd.bytes
  have hml : c.maxLocals = 2 := hml0
  have hown : s.vm.findClass "com/example/fixd/fixd/client/Location" = some m.cls := findClass_of_methodNamed Bd.named
  have hnm := (name_of_methodNamed Bd.named Bd.method).1
  have X0 : Stand p l e ({ frames := 3, cells := 1, slots := 2, locals := 41 } : Room) s m #[(.ref a), (.float w)] below meth c s₁ [] 0 0 := Stand.of_body Bd
  have e0 : s₁.heap = h0 := by rw [← hh, Bd.state]; rfl
  have N0 := Fr.nil n0
  have KP0 : Keep h0 h0 [a] := Keep.refl _ _
  refine ownFin (Q := os_be_Q Z a pv ti la lo sp be al ms ac sa w h0 n0) ?_
  refine ownStep (fun _ k => castTop (os_be_ef m a w) k) ?_
  show ownGo p.tables e below (s₁.setTop (mkF m 0 #[.val (.ref a), .val (.float w)] [])) _
  have hC_ := hC
  obtain ⟨hC_provider, hC_time, hC_latitude, hC_longitude, hC_speed, hC_bearing, hC_altitude, hC_mslAltitude, hC_accuracy, hC_satellites⟩ := hC_
  refine ownStep (fun _ k => XS.aloadN X0.here hx rfl (hb hby os_be_d0) rfl rfl k) ?_
  refine ownStep (fun _ k => XS.floadN X0.here hx rfl (hb hby os_be_d1) rfl k) ?_
  refine ownStep (fun _ k => XS.f2dS X0.here hx rfl (hb hby os_be_d2) rfl hn rfl k) ?_
  show ownGo p.tables e below (s₁.setTop (mkF m 3 #[.val (.ref a), .val (.float w)] [(.double (FP.f2d w)), (.ref a)])) _
  have Zs2 : n0 ≤ h0.size := Nat.le_trans Z0 KP0.1
  obtain ⟨_, _, ⟨T1, L1, k1, n1⟩, -, X1, ⟨Lc1, hQ1, l1, y1, z1⟩, st1⟩ := Jvm.LawKit.callS X0 hx (y := (⟨"java/util/OptionalDouble", "of", "(D)Ljava/util/OptionalDouble;"⟩ : MethodName)) hown (mvT hZ (hw _ ow353)) (mvT hZ (hw _ ow354)) (mvT hZ (hw _ ow65)) (mvT hZ (hw _ ow355)) (by decide) (backOf (W := 1) (own_odo l Z a0 hw [] (FP.f2d w) h0 n0 Zs2 ) hZ (hw _ ow355) (hw _ ow65) (by decide) (by decide)) (g := (mkF m 3 #[.val (.ref a), .val (.float w)] [(.double (FP.f2d w)), (.ref a)])) rfl (by rw [hml]; rfl) (argsL := [(.double (FP.f2d w))]) (rest := [(.ref a)]) (lenOf os_be_pd0 rfl) rfl (by show 2 * 0 + _ ≤ _; exact Nat.le_of_eq rfl) (hb hby os_be_d3) (fun _ _ => ⟨rfl, e0, (by decide : 0 + 1 ≤ _), (by decide : 0 + 2 ≤ _)⟩)
  dsimp only [Pt.U, Pt.locs, Pt.cells, Pt.slots] at X1 l1 y1 z1 st1 hQ1
  obtain rfl : k1 = 1 := y1
  obtain rfl : n1 = 2 := z1
  obtain ⟨oo, rfl, N1q, R1, P3⟩ := hQ1
  have N1 : Fr n0 L1 := l1 ▸ Fr.app N0 N1q
  refine ownStep (fun _ k => st1 _ k) ?_
  have KP4 : Keep h0 T1.heap [a] := KP0.ext R1
  show ownGo p.tables e below (T1.setTop (mkF m 6 #[.val (.ref a), .val (.float w)] [(.ref oo), (.ref a)])) _
  have Q5 := (hC_bearing.ext R1)
  have Q6 := (E.ext R1)
  obtain ⟨T7, h7, X7, e7, W7, st7⟩ := putF X1 hx hZ hown (host := "") (Or.inl (hw _ ow159)) Via.refl rfl Q5 Q6 (Or.inl (hw _ ow160)) (hw _ ow45) (ty := (.object "java/util/OptionalDouble")) (by decide) rfl rfl (g := (mkF m 6 #[.val (.ref a), .val (.float w)] [(.ref oo), (.ref a)])) rfl rfl (hb hby os_be_d6)
  have N8 := Fr.snoc X7 N1 g
  have KP9 : Keep h0 h7 [a] := KP4.wr W7 (Or.inl (List.mem_of_getElem? (i := 0) rfl))
  have F10 : Fld Z h7 a "com/example/fixd/fixd/client/Location" "bearing" "Ljava/util/OptionalDouble;" (.ref oo) := Q5.same W7
  refine ownStep st7 ?_
  show ownGo p.tables e below (T7.setTop (mkF m 9 #[.val (.ref a), .val (.float w)] [])) _
  have Q11 := ((hC_provider.ext R1).other W7 (.inr (ownNe (.inr (hw _ ow125)) (.inl (hw _ ow160)))))
  have Q12 := ((hC_time.ext R1).other W7 (.inr (ownNe (.inl (hw _ ow132)) (.inl (hw _ ow160)))))
  have Q13 := ((hC_latitude.ext R1).other W7 (.inr (ownNe (.inl (hw _ ow139)) (.inl (hw _ ow160)))))
  have Q14 := ((hC_longitude.ext R1).other W7 (.inr (ownNe (.inl (hw _ ow146)) (.inl (hw _ ow160)))))
  have Q15 := ((hC_speed.ext R1).other W7 (.inr (ownNe (.inl (hw _ ow153)) (.inl (hw _ ow160)))))
  have Q16 := ((hC_altitude.ext R1).other W7 (.inr (ownNe (.inl (hw _ ow167)) (.inl (hw _ ow160)))))
  have Q17 := ((hC_mslAltitude.ext R1).other W7 (.inr (ownNe (.inl (hw _ ow174)) (.inl (hw _ ow160)))))
  have Q18 := ((hC_accuracy.ext R1).other W7 (.inr (ownNe (.inl (hw _ ow181)) (.inl (hw _ ow160)))))
  have Q19 := ((hC_satellites.ext R1).other W7 (.inr (ownNe (.inl (hw _ ow188)) (.inl (hw _ ow160)))))
  have ne20 : oo ≠ a := Exa.ne (P3.1) Q6 (by decide)
  have Q21 := (P3.other W7 ne20)
  exact ownRet X7 (v := none) Bd.notSynchronized (fun _ => rfl) (fun _ hr => X7.returnOut hx Bd.returns (hb hby os_be_d9) hr) (by rw [e7]; exact ⟨oo, rfl, N8, KP9, ⟨Q11, Q12, Q13, Q14, Q15, F10, Q16, Q17, Q18, Q19⟩, Q21⟩) (by decide) (by decide)
theorem os_al_d0 : decode prog_5_method_12_code 0 = .ok (.aload_n 0, 1) := by decide +kernel
theorem os_al_d1 : decode prog_5_method_12_code 1 = .ok (.dload_n 1, 1) := by decide +kernel
theorem os_al_d2 : decode prog_5_method_12_code 2 = .ok (.invokestatic 112, 3) := by decide +kernel
theorem os_al_d5 : decode prog_5_method_12_code 5 = .ok (.putfield 77, 3) := by decide +kernel
theorem os_al_d8 : decode prog_5_method_12_code 8 = .ok (.return_, 1) := by decide +kernel
theorem os_al_pn : plainName "com/example/fixd/fixd/client/Location" = true := by first | (simp [plainName, overriddenIn]; done) | decide +kernel
theorem os_al_pd0 : parseMethodDescriptor "(D)Ljava/util/OptionalDouble;" = some ⟨[.double], some (.object "java/util/OptionalDouble")⟩ := by decide +kernel
theorem os_al_ef (m : MethodId) (x0 : Addr) (x1 : UInt64) : entryFrame m #[(.ref x0), (.double x1)] 3 = mkF m 0 #[.val (.ref x0), .val (.double x1), .second] [] := by first | (simp [entryFrame, mkF, argsToLocals, Value.category]; done) | rfl
def os_al_Q (Z : State) (a : Addr) (pv : Addr) (ti : Addr) (la : UInt64) (lo : UInt64) (sp : Addr) (be : Addr) (al : Addr) (ms : Addr) (ac : Addr) (sa : Addr) (w : UInt64) (h0 : Heap) (n0 : Nat) (vv_ : Option Value) (hh_ : Heap) (LL_ : List Loc) : Prop := ∃ o : Addr, vv_ = none ∧ Fr n0 LL_ ∧ Keep h0 hh_ [a] ∧ (Cli Z hh_ a pv ti la lo sp be o ms ac sa) ∧ (Opt Z hh_ o (1 : Int32) w)
set_option maxRecDepth 65536 in
set_option maxHeartbeats 40000000 in
theorem os_al (l : Launch) (Z : State) (a0 : Array Value) (hw : ∀ d ∈ tables_1, d.before a0 Z = true) (ws : List Jvm.Cond) (a : Addr) (pv : Addr) (ti : Addr) (la : UInt64) (lo : UInt64) (sp : Addr) (be : Addr) (al : Addr) (ms : Addr) (ac : Addr) (sa : Addr) (w : UInt64) (h0 : Heap) (n0 : Nat) (Z0 : n0 ≤ h0.size) (E : Exa Z h0 a "com/example/fixd/fixd/client/Location") (g : n0 ≤ a) (hC : Cli Z h0 a pv ti la lo sp be al ms ac sa) :
    MetFree l (⟨"com/example/fixd/fixd/client/Location", "setAltitude", "(D)V"⟩ : MethodName) (head1 (Jvm.Cond.code (⟨"com/example/fixd/fixd/client/Location", "setAltitude", "(D)V"⟩ : MethodName) prog_5_method_12_code 3 none :: ws) ({ frames := 3, cells := 1, slots := 2, locals := 41 } : Room)) (fun aa_ UU_ => aa_ = #[(.ref a), (.double w)] ∧ Z.Warmed39 UU_.vm ∧ UU_.heap = h0) (fun _ _ _ _ _ => True) (fun _ UU_ oo_ UV_ => ∃ vv_ LL_, oo_ = .returned vv_ ∧ os_al_Q Z a pv ti la lo sp be al ms ac sa w h0 n0 vv_ UV_.heap LL_ ∧ FrameEnd UU_ oo_ UV_ LL_ ({ frames := 3, cells := 1, slots := 2, locals := 41 } : Room).cells ({ frames := 3, cells := 1, slots := 2, locals := 41 } : Room).slots) := by
  refine MetFree.of_bodySF (plainFor_of_name os_al_pn) hisR ?_
  intro p e s m args below meth c s₁ Bd hml0 hP hK
  obtain ⟨rfl, hZ, hh⟩ := hP
  have hx := Bd.exec
  have hby := Bd.bytes
  have hml : c.maxLocals = 3 := hml0
  have hown : s.vm.findClass "com/example/fixd/fixd/client/Location" = some m.cls := findClass_of_methodNamed Bd.named
  have hnm := (name_of_methodNamed Bd.named Bd.method).1
  have X0 : Stand p l e ({ frames := 3, cells := 1, slots := 2, locals := 41 } : Room) s m #[(.ref a), (.double w)] below meth c s₁ [] 0 0 := Stand.of_body Bd
  have e0 : s₁.heap = h0 := by rw [← hh, Bd.state]; rfl
  have N0 := Fr.nil n0
  have KP0 : Keep h0 h0 [a] := Keep.refl _ _
  refine ownFin (Q := os_al_Q Z a pv ti la lo sp be al ms ac sa w h0 n0) ?_
  refine ownStep (fun _ k => castTop (os_al_ef m a w) k) ?_
  show ownGo p.tables e below (s₁.setTop (mkF m 0 #[.val (.ref a), .val (.double w), .second] [])) _
  have hC_ := hC
  obtain ⟨hC_provider, hC_time, hC_latitude, hC_longitude, hC_speed, hC_bearing, hC_altitude, hC_mslAltitude, hC_accuracy, hC_satellites⟩ := hC_
  refine ownStep (fun _ k => XS.aloadN X0.here hx rfl (hb hby os_al_d0) rfl rfl k) ?_
  refine ownStep (fun _ k => XS.dloadN X0.here hx rfl (hb hby os_al_d1) rfl k) ?_
  show ownGo p.tables e below (s₁.setTop (mkF m 2 #[.val (.ref a), .val (.double w), .second] [(.double w), (.ref a)])) _
  have Zs2 : n0 ≤ h0.size := Nat.le_trans Z0 KP0.1
  obtain ⟨_, _, ⟨T1, L1, k1, n1⟩, -, X1, ⟨Lc1, hQ1, l1, y1, z1⟩, st1⟩ := Jvm.LawKit.callS X0 hx (y := (⟨"java/util/OptionalDouble", "of", "(D)Ljava/util/OptionalDouble;"⟩ : MethodName)) hown (mvT hZ (hw _ ow353)) (mvT hZ (hw _ ow354)) (mvT hZ (hw _ ow65)) (mvT hZ (hw _ ow355)) (by decide) (backOf (W := 1) (own_odo l Z a0 hw [] w h0 n0 Zs2 ) hZ (hw _ ow355) (hw _ ow65) (by decide) (by decide)) (g := (mkF m 2 #[.val (.ref a), .val (.double w), .second] [(.double w), (.ref a)])) rfl (by rw [hml]; rfl) (argsL := [(.double w)]) (rest := [(.ref a)]) (lenOf os_al_pd0 rfl) rfl (by show 2 * 0 + _ ≤ _; exact Nat.le_of_eq rfl) (hb hby os_al_d2) (fun _ _ => ⟨rfl, e0, (by decide : 0 + 1 ≤ _), (by decide : 0 + 2 ≤ _)⟩)
  dsimp only [Pt.U, Pt.locs, Pt.cells, Pt.slots] at X1 l1 y1 z1 st1 hQ1
  obtain rfl : k1 = 1 := y1
  obtain rfl : n1 = 2 := z1
  obtain ⟨oo, rfl, N1q, R1, P3⟩ := hQ1
  have N1 : Fr n0 L1 := l1 ▸ Fr.app N0 N1q
  refine ownStep (fun _ k => st1 _ k) ?_
  have KP4 : Keep h0 T1.heap [a] := KP0.ext R1
  show ownGo p.tables e below (T1.setTop (mkF m 5 #[.val (.ref a), .val (.double w), .second] [(.ref oo), (.ref a)])) _
  have Q5 := (hC_altitude.ext R1)
  have Q6 := (E.ext R1)
  obtain ⟨T7, h7, X7, e7, W7, st7⟩ := putF X1 hx hZ hown (host := "") (Or.inl (hw _ ow166)) Via.refl rfl Q5 Q6 (Or.inl (hw _ ow167)) (hw _ ow45) (ty := (.object "java/util/OptionalDouble")) (by decide) rfl rfl (g := (mkF m 5 #[.val (.ref a), .val (.double w), .second] [(.ref oo), (.ref a)])) rfl rfl (hb hby os_al_d5)
  have N8 := Fr.snoc X7 N1 g
  have KP9 : Keep h0 h7 [a] := KP4.wr W7 (Or.inl (List.mem_of_getElem? (i := 0) rfl))
  have F10 : Fld Z h7 a "com/example/fixd/fixd/client/Location" "altitude" "Ljava/util/OptionalDouble;" (.ref oo) := Q5.same W7
  refine ownStep st7 ?_
  show ownGo p.tables e below (T7.setTop (mkF m 8 #[.val (.ref a), .val (.double w), .second] [])) _
  have Q11 := ((hC_provider.ext R1).other W7 (.inr (ownNe (.inr (hw _ ow125)) (.inl (hw _ ow167)))))
  have Q12 := ((hC_time.ext R1).other W7 (.inr (ownNe (.inl (hw _ ow132)) (.inl (hw _ ow167)))))
  have Q13 := ((hC_latitude.ext R1).other W7 (.inr (ownNe (.inl (hw _ ow139)) (.inl (hw _ ow167)))))
  have Q14 := ((hC_longitude.ext R1).other W7 (.inr (ownNe (.inl (hw _ ow146)) (.inl (hw _ ow167)))))
  have Q15 := ((hC_speed.ext R1).other W7 (.inr (ownNe (.inl (hw _ ow153)) (.inl (hw _ ow167)))))
  have Q16 := ((hC_bearing.ext R1).other W7 (.inr (ownNe (.inl (hw _ ow160)) (.inl (hw _ ow167)))))
  have Q17 := ((hC_mslAltitude.ext R1).other W7 (.inr (ownNe (.inl (hw _ ow174)) (.inl (hw _ ow167)))))
  have Q18 := ((hC_accuracy.ext R1).other W7 (.inr (ownNe (.inl (hw _ ow181)) (.inl (hw _ ow167)))))
  have Q19 := ((hC_satellites.ext R1).other W7 (.inr (ownNe (.inl (hw _ ow188)) (.inl (hw _ ow167)))))
  have ne20 : oo ≠ a := Exa.ne (P3.1) Q6 (by decide)
  have Q21 := (P3.other W7 ne20)
  exact ownRet X7 (v := none) Bd.notSynchronized (fun _ => rfl) (fun _ hr => X7.returnOut hx Bd.returns (hb hby os_al_d8) hr) (by rw [e7]; exact ⟨oo, rfl, N8, KP9, ⟨Q11, Q12, Q13, Q14, Q15, Q16, F10, Q17, Q18, Q19⟩, Q21⟩) (by decide) (by decide)
theorem os_ms_d0 : decode prog_5_method_15_code 0 = .ok (.aload_n 0, 1) := by decide +kernel
theorem os_ms_d1 : decode prog_5_method_15_code 1 = .ok (.dload_n 1, 1) := by decide +kernel
theorem os_ms_d2 : decode prog_5_method_15_code 2 = .ok (.invokestatic 112, 3) := by decide +kernel
theorem os_ms_d5 : decode prog_5_method_15_code 5 = .ok (.putfield 82, 3) := by decide +kernel
theorem os_ms_d8 : decode prog_5_method_15_code 8 = .ok (.return_, 1) := by decide +kernel
theorem os_ms_pn : plainName "com/example/fixd/fixd/client/Location" = true := by first | (simp [plainName, overriddenIn]; done) | decide +kernel
theorem os_ms_pd0 : parseMethodDescriptor "(D)Ljava/util/OptionalDouble;" = some ⟨[.double], some (.object "java/util/OptionalDouble")⟩ := by decide +kernel
theorem os_ms_ef (m : MethodId) (x0 : Addr) (x1 : UInt64) : entryFrame m #[(.ref x0), (.double x1)] 3 = mkF m 0 #[.val (.ref x0), .val (.double x1), .second] [] := by first | (simp [entryFrame, mkF, argsToLocals, Value.category]; done) | rfl
def os_ms_Q (Z : State) (a : Addr) (pv : Addr) (ti : Addr) (la : UInt64) (lo : UInt64) (sp : Addr) (be : Addr) (al : Addr) (ms : Addr) (ac : Addr) (sa : Addr) (w : UInt64) (h0 : Heap) (n0 : Nat) (vv_ : Option Value) (hh_ : Heap) (LL_ : List Loc) : Prop := ∃ o : Addr, vv_ = none ∧ Fr n0 LL_ ∧ Keep h0 hh_ [a] ∧ (Cli Z hh_ a pv ti la lo sp be al o ac sa) ∧ (Opt Z hh_ o (1 : Int32) w)
set_option maxRecDepth 65536 in
set_option maxHeartbeats 40000000 in
theorem os_ms (l : Launch) (Z : State) (a0 : Array Value) (hw : ∀ d ∈ tables_1, d.before a0 Z = true) (ws : List Jvm.Cond) (a : Addr) (pv : Addr) (ti : Addr) (la : UInt64) (lo : UInt64) (sp : Addr) (be : Addr) (al : Addr) (ms : Addr) (ac : Addr) (sa : Addr) (w : UInt64) (h0 : Heap) (n0 : Nat) (Z0 : n0 ≤ h0.size) (E : Exa Z h0 a "com/example/fixd/fixd/client/Location") (g : n0 ≤ a) (hC : Cli Z h0 a pv ti la lo sp be al ms ac sa) :
    MetFree l (⟨"com/example/fixd/fixd/client/Location", "setMslAltitude", "(D)V"⟩ : MethodName) (head1 (Jvm.Cond.code (⟨"com/example/fixd/fixd/client/Location", "setMslAltitude", "(D)V"⟩ : MethodName) prog_5_method_15_code 3 none :: ws) ({ frames := 3, cells := 1, slots := 2, locals := 41 } : Room)) (fun aa_ UU_ => aa_ = #[(.ref a), (.double w)] ∧ Z.Warmed39 UU_.vm ∧ UU_.heap = h0) (fun _ _ _ _ _ => True) (fun _ UU_ oo_ UV_ => ∃ vv_ LL_, oo_ = .returned vv_ ∧ os_ms_Q Z a pv ti la lo sp be al ms ac sa w h0 n0 vv_ UV_.heap LL_ ∧ FrameEnd UU_ oo_ UV_ LL_ ({ frames := 3, cells := 1, slots := 2, locals := 41 } : Room).cells ({ frames := 3, cells := 1, slots := 2, locals := 41 } : Room).slots) := by
  refine MetFree.of_bodySF (plainFor_of_name os_ms_pn) hisR ?_
  intro p e s m args below meth c s₁ Bd hml0 hP hK
  obtain ⟨rfl, hZ, hh⟩ := hP
  have hx := Bd.exec
  have hby := Bd.bytes
  have hml : c.maxLocals = 3 := hml0
  have hown : s.vm.findClass "com/example/fixd/fixd/client/Location" = some m.cls := findClass_of_methodNamed Bd.named
  have hnm := (name_of_methodNamed Bd.named Bd.method).1
  have X0 : Stand p l e ({ frames := 3, cells := 1, slots := 2, locals := 41 } : Room) s m #[(.ref a), (.double w)] below meth c s₁ [] 0 0 := Stand.of_body Bd
  have e0 : s₁.heap = h0 := by rw [← hh, Bd.state]; rfl
  have N0 := Fr.nil n0
  have KP0 : Keep h0 h0 [a] := Keep.refl _ _
  refine ownFin (Q := os_ms_Q Z a pv ti la lo sp be al ms ac sa w h0 n0) ?_
  refine ownStep (fun _ k => castTop (os_ms_ef m a w) k) ?_
  show ownGo p.tables e below (s₁.setTop (mkF m 0 #[.val (.ref a), .val (.double w), .second] [])) _
  have hC_ := hC
  obtain ⟨hC_provider, hC_time, hC_latitude, hC_longitude, hC_speed, hC_bearing, hC_altitude, hC_mslAltitude, hC_accuracy, hC_satellites⟩ := hC_
  refine ownStep (fun _ k => XS.aloadN X0.here hx rfl (hb hby os_ms_d0) rfl rfl k) ?_
  refine ownStep (fun _ k => XS.dloadN X0.here hx rfl (hb hby os_ms_d1) rfl k) ?_
  show ownGo p.tables e below (s₁.setTop (mkF m 2 #[.val (.ref a), .val (.double w), .second] [(.double w), (.ref a)])) _
  have Zs2 : n0 ≤ h0.size := Nat.le_trans Z0 KP0.1
  obtain ⟨_, _, ⟨T1, L1, k1, n1⟩, -, X1, ⟨Lc1, hQ1, l1, y1, z1⟩, st1⟩ := Jvm.LawKit.callS X0 hx (y := (⟨"java/util/OptionalDouble", "of", "(D)Ljava/util/OptionalDouble;"⟩ : MethodName)) hown (mvT hZ (hw _ ow353)) (mvT hZ (hw _ ow354)) (mvT hZ (hw _ ow65)) (mvT hZ (hw _ ow355)) (by decide) (backOf (W := 1) (own_odo l Z a0 hw [] w h0 n0 Zs2 ) hZ (hw _ ow355) (hw _ ow65) (by decide) (by decide)) (g := (mkF m 2 #[.val (.ref a), .val (.double w), .second] [(.double w), (.ref a)])) rfl (by rw [hml]; rfl) (argsL := [(.double w)]) (rest := [(.ref a)]) (lenOf os_ms_pd0 rfl) rfl (by show 2 * 0 + _ ≤ _; exact Nat.le_of_eq rfl) (hb hby os_ms_d2) (fun _ _ => ⟨rfl, e0, (by decide : 0 + 1 ≤ _), (by decide : 0 + 2 ≤ _)⟩)
  dsimp only [Pt.U, Pt.locs, Pt.cells, Pt.slots] at X1 l1 y1 z1 st1 hQ1
  obtain rfl : k1 = 1 := y1
  obtain rfl : n1 = 2 := z1
  obtain ⟨oo, rfl, N1q, R1, P3⟩ := hQ1
  have N1 : Fr n0 L1 := l1 ▸ Fr.app N0 N1q
  refine ownStep (fun _ k => st1 _ k) ?_
  have KP4 : Keep h0 T1.heap [a] := KP0.ext R1
  show ownGo p.tables e below (T1.setTop (mkF m 5 #[.val (.ref a), .val (.double w), .second] [(.ref oo), (.ref a)])) _
  have Q5 := (hC_mslAltitude.ext R1)
  have Q6 := (E.ext R1)
  obtain ⟨T7, h7, X7, e7, W7, st7⟩ := putF X1 hx hZ hown (host := "") (Or.inl (hw _ ow173)) Via.refl rfl Q5 Q6 (Or.inl (hw _ ow174)) (hw _ ow45) (ty := (.object "java/util/OptionalDouble")) (by decide) rfl rfl (g := (mkF m 5 #[.val (.ref a), .val (.double w), .second] [(.ref oo), (.ref a)])) rfl rfl (hb hby os_ms_d5)
  have N8 := Fr.snoc X7 N1 g
  have KP9 : Keep h0 h7 [a] := KP4.wr W7 (Or.inl (List.mem_of_getElem? (i := 0) rfl))
  have F10 : Fld Z h7 a "com/example/fixd/fixd/client/Location" "mslAltitude" "Ljava/util/OptionalDouble;" (.ref oo) := Q5.same W7
  refine ownStep st7 ?_
  show ownGo p.tables e below (T7.setTop (mkF m 8 #[.val (.ref a), .val (.double w), .second] [])) _
  have Q11 := ((hC_provider.ext R1).other W7 (.inr (ownNe (.inr (hw _ ow125)) (.inl (hw _ ow174)))))
  have Q12 := ((hC_time.ext R1).other W7 (.inr (ownNe (.inl (hw _ ow132)) (.inl (hw _ ow174)))))
  have Q13 := ((hC_latitude.ext R1).other W7 (.inr (ownNe (.inl (hw _ ow139)) (.inl (hw _ ow174)))))
  have Q14 := ((hC_longitude.ext R1).other W7 (.inr (ownNe (.inl (hw _ ow146)) (.inl (hw _ ow174)))))
  have Q15 := ((hC_speed.ext R1).other W7 (.inr (ownNe (.inl (hw _ ow153)) (.inl (hw _ ow174)))))
  have Q16 := ((hC_bearing.ext R1).other W7 (.inr (ownNe (.inl (hw _ ow160)) (.inl (hw _ ow174)))))
  have Q17 := ((hC_altitude.ext R1).other W7 (.inr (ownNe (.inl (hw _ ow167)) (.inl (hw _ ow174)))))
  have Q18 := ((hC_accuracy.ext R1).other W7 (.inr (ownNe (.inl (hw _ ow181)) (.inl (hw _ ow174)))))
  have Q19 := ((hC_satellites.ext R1).other W7 (.inr (ownNe (.inl (hw _ ow188)) (.inl (hw _ ow174)))))
  have ne20 : oo ≠ a := Exa.ne (P3.1) Q6 (by decide)
  have Q21 := (P3.other W7 ne20)
  exact ownRet X7 (v := none) Bd.notSynchronized (fun _ => rfl) (fun _ hr => X7.returnOut hx Bd.returns (hb hby os_ms_d8) hr) (by rw [e7]; exact ⟨oo, rfl, N8, KP9, ⟨Q11, Q12, Q13, Q14, Q15, Q16, Q17, F10, Q18, Q19⟩, Q21⟩) (by decide) (by decide)
theorem os_ac_d0 : decode prog_5_method_24_code 0 = .ok (.aload_n 0, 1) := by decide +kernel
theorem os_ac_d1 : decode prog_5_method_24_code 1 = .ok (.fload_n 1, 1) := by decide +kernel
theorem os_ac_d2 : decode prog_5_method_24_code 2 = .ok (.f2d, 1) := by decide +kernel
theorem os_ac_d3 : decode prog_5_method_24_code 3 = .ok (.invokestatic 112, 3) := by decide +kernel
theorem os_ac_d6 : decode prog_5_method_24_code 6 = .ok (.putfield 87, 3) := by decide +kernel
theorem os_ac_d9 : decode prog_5_method_24_code 9 = .ok (.return_, 1) := by decide +kernel
theorem os_ac_pn : plainName "com/example/fixd/fixd/client/Location" = true := by first | (simp [plainName, overriddenIn]; done) | decide +kernel
theorem os_ac_pd0 : parseMethodDescriptor "(D)Ljava/util/OptionalDouble;" = some ⟨[.double], some (.object "java/util/OptionalDouble")⟩ := by decide +kernel
theorem os_ac_ef (m : MethodId) (x0 : Addr) (x1 : UInt32) : entryFrame m #[(.ref x0), (.float x1)] 2 = mkF m 0 #[.val (.ref x0), .val (.float x1)] [] := by first | (simp [entryFrame, mkF, argsToLocals, Value.category]; done) | rfl
def os_ac_Q (Z : State) (a : Addr) (pv : Addr) (ti : Addr) (la : UInt64) (lo : UInt64) (sp : Addr) (be : Addr) (al : Addr) (ms : Addr) (ac : Addr) (sa : Addr) (w : UInt32) (h0 : Heap) (n0 : Nat) (vv_ : Option Value) (hh_ : Heap) (LL_ : List Loc) : Prop := ∃ o : Addr, vv_ = none ∧ Fr n0 LL_ ∧ Keep h0 hh_ [a] ∧ (Cli Z hh_ a pv ti la lo sp be al ms o sa) ∧ (Opt Z hh_ o (1 : Int32) (FP.f2d w))
set_option maxRecDepth 65536 in
set_option maxHeartbeats 40000000 in
theorem os_ac (l : Launch) (Z : State) (a0 : Array Value) (hw : ∀ d ∈ tables_1, d.before a0 Z = true) (ws : List Jvm.Cond) (a : Addr) (pv : Addr) (ti : Addr) (la : UInt64) (lo : UInt64) (sp : Addr) (be : Addr) (al : Addr) (ms : Addr) (ac : Addr) (sa : Addr) (w : UInt32) (h0 : Heap) (n0 : Nat) (Z0 : n0 ≤ h0.size) (E : Exa Z h0 a "com/example/fixd/fixd/client/Location") (g : n0 ≤ a) (hC : Cli Z h0 a pv ti la lo sp be al ms ac sa) (hn : NoNaN64 (FP.f2d w)) :
    MetFree l (⟨"com/example/fixd/fixd/client/Location", "setAccuracy", "(F)V"⟩ : MethodName) (head1 (Jvm.Cond.code (⟨"com/example/fixd/fixd/client/Location", "setAccuracy", "(F)V"⟩ : MethodName) prog_5_method_24_code 2 none :: ws) ({ frames := 3, cells := 1, slots := 2, locals := 41 } : Room)) (fun aa_ UU_ => aa_ = #[(.ref a), (.float w)] ∧ Z.Warmed39 UU_.vm ∧ UU_.heap = h0) (fun _ _ _ _ _ => True) (fun _ UU_ oo_ UV_ => ∃ vv_ LL_, oo_ = .returned vv_ ∧ os_ac_Q Z a pv ti la lo sp be al ms ac sa w h0 n0 vv_ UV_.heap LL_ ∧ FrameEnd UU_ oo_ UV_ LL_ ({ frames := 3, cells := 1, slots := 2, locals := 41 } : Room).cells ({ frames := 3, cells := 1, slots := 2, locals := 41 } : Room).slots) := by
  refine MetFree.of_bodySF (plainFor_of_name os_ac_pn) hisR ?_
  intro p e s m args below meth c s₁ Bd hml0 hP hK
  obtain ⟨rfl, hZ, hh⟩ := hP
  have hx := Bd.exec
  have hby := Bd.bytes
  have hml : c.maxLocals = 2 := hml0
  have hown : s.vm.findClass "com/example/fixd/fixd/client/Location" = some m.cls := findClass_of_methodNamed Bd.named
  have hnm := (name_of_methodNamed Bd.named Bd.method).1
  have X0 : Stand p l e ({ frames := 3, cells := 1, slots := 2, locals := 41 } : Room) s m #[(.ref a), (.float w)] below meth c s₁ [] 0 0 := Stand.of_body Bd
  have e0 : s₁.heap = h0 := by rw [← hh, Bd.state]; rfl
  have N0 := Fr.nil n0
  have KP0 : Keep h0 h0 [a] := Keep.refl _ _
  refine ownFin (Q := os_ac_Q Z a pv ti la lo sp be al ms ac sa w h0 n0) ?_
  refine ownStep (fun _ k => castTop (os_ac_ef m a w) k) ?_
  show ownGo p.tables e below (s₁.setTop (mkF m 0 #[.val (.ref a), .val (.float w)] [])) _
  have hC_ := hC
  obtain ⟨hC_provider, hC_time, hC_latitude, hC_longitude, hC_speed, hC_bearing, hC_altitude, hC_mslAltitude, hC_accuracy, hC_satellites⟩ := hC_
  refine ownStep (fun _ k => XS.aloadN X0.here hx rfl (hb hby os_ac_d0) rfl rfl k) ?_
  refine ownStep (fun _ k => XS.floadN X0.here hx rfl (hb hby os_ac_d1) rfl k) ?_
  refine ownStep (fun _ k => XS.f2dS X0.here hx rfl (hb hby os_ac_d2) rfl hn rfl k) ?_
  show ownGo p.tables e below (s₁.setTop (mkF m 3 #[.val (.ref a), .val (.float w)] [(.double (FP.f2d w)), (.ref a)])) _
  have Zs2 : n0 ≤ h0.size := Nat.le_trans Z0 KP0.1
  obtain ⟨_, _, ⟨T1, L1, k1, n1⟩, -, X1, ⟨Lc1, hQ1, l1, y1, z1⟩, st1⟩ := Jvm.LawKit.callS X0 hx (y := (⟨"java/util/OptionalDouble", "of", "(D)Ljava/util/OptionalDouble;"⟩ : MethodName)) hown (mvT hZ (hw _ ow353)) (mvT hZ (hw _ ow354)) (mvT hZ (hw _ ow65)) (mvT hZ (hw _ ow355)) (by decide) (backOf (W := 1) (own_odo l Z a0 hw [] (FP.f2d w) h0 n0 Zs2 ) hZ (hw _ ow355) (hw _ ow65) (by decide) (by decide)) (g := (mkF m 3 #[.val (.ref a), .val (.float w)] [(.double (FP.f2d w)), (.ref a)])) rfl (by rw [hml]; rfl) (argsL := [(.double (FP.f2d w))]) (rest := [(.ref a)]) (lenOf os_ac_pd0 rfl) rfl (by show 2 * 0 + _ ≤ _; exact Nat.le_of_eq rfl) (hb hby os_ac_d3) (fun _ _ => ⟨rfl, e0, (by decide : 0 + 1 ≤ _), (by decide : 0 + 2 ≤ _)⟩)
  dsimp only [Pt.U, Pt.locs, Pt.cells, Pt.slots] at X1 l1 y1 z1 st1 hQ1
  obtain rfl : k1 = 1 := y1
  obtain rfl : n1 = 2 := z1
  obtain ⟨oo, rfl, N1q, R1, P3⟩ := hQ1
  have N1 : Fr n0 L1 := l1 ▸ Fr.app N0 N1q
  refine ownStep (fun _ k => st1 _ k) ?_
  have KP4 : Keep h0 T1.heap [a] := KP0.ext R1
  show ownGo p.tables e below (T1.setTop (mkF m 6 #[.val (.ref a), .val (.float w)] [(.ref oo), (.ref a)])) _
  have Q5 := (hC_accuracy.ext R1)
  have Q6 := (E.ext R1)
  obtain ⟨T7, h7, X7, e7, W7, st7⟩ := putF X1 hx hZ hown (host := "") (Or.inl (hw _ ow180)) Via.refl rfl Q5 Q6 (Or.inl (hw _ ow181)) (hw _ ow45) (ty := (.object "java/util/OptionalDouble")) (by decide) rfl rfl (g := (mkF m 6 #[.val (.ref a), .val (.float w)] [(.ref oo), (.ref a)])) rfl rfl (hb hby os_ac_d6)
  have N8 := Fr.snoc X7 N1 g
  have KP9 : Keep h0 h7 [a] := KP4.wr W7 (Or.inl (List.mem_of_getElem? (i := 0) rfl))
  have F10 : Fld Z h7 a "com/example/fixd/fixd/client/Location" "accuracy" "Ljava/util/OptionalDouble;" (.ref oo) := Q5.same W7
  refine ownStep st7 ?_
  show ownGo p.tables e below (T7.setTop (mkF m 9 #[.val (.ref a), .val (.float w)] [])) _
  have Q11 := ((hC_provider.ext R1).other W7 (.inr (ownNe (.inr (hw _ ow125)) (.inl (hw _ ow181)))))
  have Q12 := ((hC_time.ext R1).other W7 (.inr (ownNe (.inl (hw _ ow132)) (.inl (hw _ ow181)))))
  have Q13 := ((hC_latitude.ext R1).other W7 (.inr (ownNe (.inl (hw _ ow139)) (.inl (hw _ ow181)))))
  have Q14 := ((hC_longitude.ext R1).other W7 (.inr (ownNe (.inl (hw _ ow146)) (.inl (hw _ ow181)))))
  have Q15 := ((hC_speed.ext R1).other W7 (.inr (ownNe (.inl (hw _ ow153)) (.inl (hw _ ow181)))))
  have Q16 := ((hC_bearing.ext R1).other W7 (.inr (ownNe (.inl (hw _ ow160)) (.inl (hw _ ow181)))))
  have Q17 := ((hC_altitude.ext R1).other W7 (.inr (ownNe (.inl (hw _ ow167)) (.inl (hw _ ow181)))))
  have Q18 := ((hC_mslAltitude.ext R1).other W7 (.inr (ownNe (.inl (hw _ ow174)) (.inl (hw _ ow181)))))
  have Q19 := ((hC_satellites.ext R1).other W7 (.inr (ownNe (.inl (hw _ ow188)) (.inl (hw _ ow181)))))
  have ne20 : oo ≠ a := Exa.ne (P3.1) Q6 (by decide)
  have Q21 := (P3.other W7 ne20)
  exact ownRet X7 (v := none) Bd.notSynchronized (fun _ => rfl) (fun _ hr => X7.returnOut hx Bd.returns (hb hby os_ac_d9) hr) (by rw [e7]; exact ⟨oo, rfl, N8, KP9, ⟨Q11, Q12, Q13, Q14, Q15, Q16, Q17, Q18, F10, Q19⟩, Q21⟩) (by decide) (by decide)
theorem own_fix_d0 : decode prog_5_method_26_code 0 = .ok (.new 1, 3) := by decide +kernel
theorem own_fix_d3 : decode prog_5_method_26_code 3 = .ok (.dup, 1) := by decide +kernel
theorem own_fix_d4 : decode prog_5_method_26_code 4 = .ok (.aload_n 1, 1) := by decide +kernel
theorem own_fix_d5 : decode prog_5_method_26_code 5 = .ok (.aload_n 0, 1) := by decide +kernel
theorem own_fix_d6 : decode prog_5_method_26_code 6 = .ok (.getfield 49, 3) := by decide +kernel
theorem own_fix_d9 : decode prog_5_method_26_code 9 = .ok (.aload_n 0, 1) := by decide +kernel
theorem own_fix_d10 : decode prog_5_method_26_code 10 = .ok (.getfield 55, 3) := by decide +kernel
theorem own_fix_d13 : decode prog_5_method_26_code 13 = .ok (.aload_n 0, 1) := by decide +kernel
theorem own_fix_d14 : decode prog_5_method_26_code 14 = .ok (.getfield 61, 3) := by decide +kernel
theorem own_fix_d17 : decode prog_5_method_26_code 17 = .ok (.aload_n 0, 1) := by decide +kernel
theorem own_fix_d18 : decode prog_5_method_26_code 18 = .ok (.getfield 66, 3) := by decide +kernel
theorem own_fix_d21 : decode prog_5_method_26_code 21 = .ok (.aload_n 0, 1) := by decide +kernel
theorem own_fix_d22 : decode prog_5_method_26_code 22 = .ok (.getfield 72, 3) := by decide +kernel
theorem own_fix_d25 : decode prog_5_method_26_code 25 = .ok (.aload_n 0, 1) := by decide +kernel
theorem own_fix_d26 : decode prog_5_method_26_code 26 = .ok (.getfield 77, 3) := by decide +kernel
theorem own_fix_d29 : decode prog_5_method_26_code 29 = .ok (.aload_n 0, 1) := by decide +kernel
theorem own_fix_d30 : decode prog_5_method_26_code 30 = .ok (.getfield 82, 3) := by decide +kernel
theorem own_fix_d33 : decode prog_5_method_26_code 33 = .ok (.aload_n 0, 1) := by decide +kernel
theorem own_fix_d34 : decode prog_5_method_26_code 34 = .ok (.getfield 87, 3) := by decide +kernel
theorem own_fix_d37 : decode prog_5_method_26_code 37 = .ok (.aload_n 0, 1) := by decide +kernel
theorem own_fix_d38 : decode prog_5_method_26_code 38 = .ok (.getfield 93, 3) := by decide +kernel
theorem own_fix_d41 : decode prog_5_method_26_code 41 = .ok (.invokespecial 124, 3) := by decide +kernel
theorem own_fix_d44 : decode prog_5_method_26_code 44 = .ok (.areturn, 1) := by decide +kernel
theorem own_fix_pn : plainName "com/example/fixd/fixd/client/Location" = true := by first | (simp [plainName, overriddenIn]; done) | decide +kernel
theorem own_fix_pd0 : parseMethodDescriptor "(Ljava/lang/String;Ljava/time/Instant;DDLjava/util/OptionalDouble;Ljava/util/OptionalDouble;Ljava/util/OptionalDouble;Ljava/util/OptionalDouble;Ljava/util/OptionalDouble;Ljava/util/OptionalInt;)V" = some ⟨[(.object "java/lang/String"), (.object "java/time/Instant"), .double, .double, (.object "java/util/OptionalDouble"), (.object "java/util/OptionalDouble"), (.object "java/util/OptionalDouble"), (.object "java/util/OptionalDouble"), (.object "java/util/OptionalDouble"), (.object "java/util/OptionalInt")], none⟩ := by decide +kernel
theorem own_fix_ef (m : MethodId) (x0 : Addr) (x1 : Addr) : entryFrame m #[(.ref x0), (.ref x1)] 2 = mkF m 0 #[.val (.ref x0), .val (.ref x1)] [] := by first | (simp [entryFrame, mkF, argsToLocals, Value.category]; done) | rfl
def own_fix_Q (Z : State) (a : Addr) (pv : Addr) (ti : Addr) (la : UInt64) (lo : UInt64) (sp : Addr) (be : Addr) (al : Addr) (ms : Addr) (ac : Addr) (sa : Addr) (rb : Addr) (h0 : Heap) (n0 : Nat) (vv_ : Option Value) (hh_ : Heap) (LL_ : List Loc) : Prop := ∃ o : Addr, vv_ = some (.ref o) ∧ Fr n0 LL_ ∧ Ext h0 hh_ ∧ (h0.size ≤ o) ∧ (Llo Z hh_ o rb ti la lo sp be al ms ac sa) ∧ (Exa Z hh_ o "com/example/fixd/fixd/location/Location")
set_option maxRecDepth 65536 in
set_option maxHeartbeats 40000000 in
theorem own_fix (l : Launch) (Z : State) (a0 : Array Value) (hw : ∀ d ∈ tables_1, d.before a0 Z = true) (ws : List Jvm.Cond) (a : Addr) (pv : Addr) (ti : Addr) (la : UInt64) (lo : UInt64) (sp : Addr) (be : Addr) (al : Addr) (ms : Addr) (ac : Addr) (sa : Addr) (rb : Addr) (h0 : Heap) (n0 : Nat) (Z0 : n0 ≤ h0.size) (E : Exa Z h0 a "com/example/fixd/fixd/client/Location") (g : n0 ≤ a) (hC : Cli Z h0 a pv ti la lo sp be al ms ac sa) :
    MetFree l (⟨"com/example/fixd/fixd/client/Location", "fix", "(Ljava/lang/String;)Lcom/example/fixd/fixd/location/Location;"⟩ : MethodName) (head1 (Jvm.Cond.code (⟨"com/example/fixd/fixd/client/Location", "fix", "(Ljava/lang/String;)Lcom/example/fixd/fixd/location/Location;"⟩ : MethodName) prog_5_method_26_code 2 (some (.object "com/example/fixd/fixd/location/Location")) :: ws) ({ frames := 3, cells := 17, slots := 286, locals := 49 } : Room)) (fun aa_ UU_ => aa_ = #[(.ref a), (.ref rb)] ∧ Z.Warmed39 UU_.vm ∧ UU_.heap = h0) (fun _ _ _ _ _ => True) (fun _ UU_ oo_ UV_ => ∃ vv_ LL_, oo_ = .returned vv_ ∧ own_fix_Q Z a pv ti la lo sp be al ms ac sa rb h0 n0 vv_ UV_.heap LL_ ∧ ReturnedEndW UU_ oo_ UV_ LL_ ({ frames := 3, cells := 17, slots := 286, locals := 49 } : Room).cells ({ frames := 3, cells := 17, slots := 286, locals := 49 } : Room).slots) := by
  refine MetFree.of_bodySF (plainFor_of_name own_fix_pn) hisR ?_
  intro p e s m args below meth c s₁ Bd hml0 hP hK
  obtain ⟨rfl, hZ, hh⟩ := hP
  have hx := Bd.exec
  have hby := Bd.bytes
  have hml : c.maxLocals = 2 := hml0
  have hown : s.vm.findClass "com/example/fixd/fixd/client/Location" = some m.cls := findClass_of_methodNamed Bd.named
  have hnm := (name_of_methodNamed Bd.named Bd.method).1
  have X0 : Stand p l e ({ frames := 3, cells := 17, slots := 286, locals := 49 } : Room) (s.setVm s.vm) m #[(.ref a), (.ref rb)] below meth c s₁ [] 0 0 := Stand.of_body Bd
  have e0 : s₁.heap = h0 := by rw [← hh, Bd.state]; rfl
  have N0 := Fr.nil n0
  have KP0 : Keep h0 h0 [] := Keep.refl _ _
  have hS : s.Since s.vm 0 := (State.WarmedH.refl s).since 0
  refine ownFinW (Q := own_fix_Q Z a pv ti la lo sp be al ms ac sa rb h0 n0) ?_
  refine ownStep (fun _ k => castTop (own_fix_ef m a rb) k) ?_
  show ownGo p.tables e below (s₁.setTop (mkF m 0 #[.val (.ref a), .val (.ref rb)] [])) _
  have hC_ := hC
  obtain ⟨hC_provider, hC_time, hC_latitude, hC_longitude, hC_speed, hC_bearing, hC_altitude, hC_mslAltitude, hC_accuracy, hC_satellites⟩ := hC_
  obtain ⟨T1, h1, X1, e1, E1, A1, D1, U1, st1⟩ := newO X0 hx hZ hown (hw _ ow50) (hw _ ow51) (hw _ ow52) e0 (g := (mkF m 0 #[.val (.ref a), .val (.ref rb)] [])) rfl (hb hby own_fix_d0) (by decide) (by decide)
  obtain ⟨b1, g1⟩ : ∃ z, z = h0.size := ⟨_, rfl⟩
  rw [← g1] at A1 D1 U1 st1
  have gh_b1 : h0.size ≤ b1 := Nat.le_trans KP0.1 (Nat.le_of_eq g1.symm)
  have gn_b1 : n0 ≤ b1 := Nat.le_trans Z0 gh_b1
  have KP2 : Keep h0 h1 [] := KP0.ext E1
  have F3 : Fld Z h1 b1 "com/example/fixd/fixd/location/Location" "provider" "Ljava/lang/String;" .null := D1 (Or.inr (hw _ ow96)) (ty := (.object "java/lang/String")) (by decide)
  have F4 : Fld Z h1 b1 "com/example/fixd/fixd/location/Location" "time" "Ljava/time/Instant;" .null := D1 (Or.inr (hw _ ow98)) (ty := (.object "java/time/Instant")) (by decide)
  have F5 : Fld Z h1 b1 "com/example/fixd/fixd/location/Location" "latitude" "D" (.double 0) := D1 (Or.inr (hw _ ow100)) (ty := .double) (by decide)
  have F6 : Fld Z h1 b1 "com/example/fixd/fixd/location/Location" "longitude" "D" (.double 0) := D1 (Or.inr (hw _ ow102)) (ty := .double) (by decide)
  have F7 : Fld Z h1 b1 "com/example/fixd/fixd/location/Location" "speed" "Ljava/util/OptionalDouble;" .null := D1 (Or.inr (hw _ ow104)) (ty := (.object "java/util/OptionalDouble")) (by decide)
  have F8 : Fld Z h1 b1 "com/example/fixd/fixd/location/Location" "bearing" "Ljava/util/OptionalDouble;" .null := D1 (Or.inr (hw _ ow106)) (ty := (.object "java/util/OptionalDouble")) (by decide)
  have F9 : Fld Z h1 b1 "com/example/fixd/fixd/location/Location" "altitude" "Ljava/util/OptionalDouble;" .null := D1 (Or.inr (hw _ ow108)) (ty := (.object "java/util/OptionalDouble")) (by decide)
  have F10 : Fld Z h1 b1 "com/example/fixd/fixd/location/Location" "mslAltitude" "Ljava/util/OptionalDouble;" .null := D1 (Or.inr (hw _ ow110)) (ty := (.object "java/util/OptionalDouble")) (by decide)
  have F11 : Fld Z h1 b1 "com/example/fixd/fixd/location/Location" "accuracy" "Ljava/util/OptionalDouble;" .null := D1 (Or.inr (hw _ ow112)) (ty := (.object "java/util/OptionalDouble")) (by decide)
  have F12 : Fld Z h1 b1 "com/example/fixd/fixd/location/Location" "satellites" "Ljava/util/OptionalInt;" .null := D1 (Or.inr (hw _ ow114)) (ty := (.object "java/util/OptionalInt")) (by decide)
  refine ownStep st1 ?_
  refine ownStep (fun _ k => XS.dup X1.here hx rfl (hb hby own_fix_d3) rfl rfl k) ?_
  refine ownStep (fun _ k => XS.aloadN X1.here hx rfl (hb hby own_fix_d4) rfl rfl k) ?_
  refine ownStep (fun _ k => XS.aloadN X1.here hx rfl (hb hby own_fix_d5) rfl rfl k) ?_
  show ownGo p.tables e below (T1.setTop (mkF m 6 #[.val (.ref a), .val (.ref rb)] [(.ref a), (.ref rb), (.ref b1), (.ref b1)])) _
  have Q13 := (hC_time.ext E1)
  obtain ⟨T14, X14, e14, st14⟩ := getF X1 hx hZ hown (host := "") (Or.inl (hw _ ow131)) Via.refl e1 Q13 (g := (mkF m 6 #[.val (.ref a), .val (.ref rb)] [(.ref a), (.ref rb), (.ref b1), (.ref b1)])) rfl rfl (hb hby own_fix_d6)
  refine ownStep st14 ?_
  refine ownStep (fun _ k => XS.aloadN X14.here hx rfl (hb hby own_fix_d9) rfl rfl k) ?_
  show ownGo p.tables e below (T14.setTop (mkF m 10 #[.val (.ref a), .val (.ref rb)] [(.ref a), (.ref ti), (.ref rb), (.ref b1), (.ref b1)])) _
  have Q15 := (hC_latitude.ext E1)
  obtain ⟨T16, X16, e16, st16⟩ := getF X14 hx hZ hown (host := "") (Or.inl (hw _ ow138)) Via.refl e14 Q15 (g := (mkF m 10 #[.val (.ref a), .val (.ref rb)] [(.ref a), (.ref ti), (.ref rb), (.ref b1), (.ref b1)])) rfl rfl (hb hby own_fix_d10)
  refine ownStep st16 ?_
  refine ownStep (fun _ k => XS.aloadN X16.here hx rfl (hb hby own_fix_d13) rfl rfl k) ?_
  show ownGo p.tables e below (T16.setTop (mkF m 14 #[.val (.ref a), .val (.ref rb)] [(.ref a), (.double la), (.ref ti), (.ref rb), (.ref b1), (.ref b1)])) _
  have Q17 := (hC_longitude.ext E1)
  obtain ⟨T18, X18, e18, st18⟩ := getF X16 hx hZ hown (host := "") (Or.inl (hw _ ow145)) Via.refl e16 Q17 (g := (mkF m 14 #[.val (.ref a), .val (.ref rb)] [(.ref a), (.double la), (.ref ti), (.ref rb), (.ref b1), (.ref b1)])) rfl rfl (hb hby own_fix_d14)
  refine ownStep st18 ?_
  refine ownStep (fun _ k => XS.aloadN X18.here hx rfl (hb hby own_fix_d17) rfl rfl k) ?_
  show ownGo p.tables e below (T18.setTop (mkF m 18 #[.val (.ref a), .val (.ref rb)] [(.ref a), (.double lo), (.double la), (.ref ti), (.ref rb), (.ref b1), (.ref b1)])) _
  have Q19 := (hC_speed.ext E1)
  obtain ⟨T20, X20, e20, st20⟩ := getF X18 hx hZ hown (host := "") (Or.inl (hw _ ow152)) Via.refl e18 Q19 (g := (mkF m 18 #[.val (.ref a), .val (.ref rb)] [(.ref a), (.double lo), (.double la), (.ref ti), (.ref rb), (.ref b1), (.ref b1)])) rfl rfl (hb hby own_fix_d18)
  refine ownStep st20 ?_
  refine ownStep (fun _ k => XS.aloadN X20.here hx rfl (hb hby own_fix_d21) rfl rfl k) ?_
  show ownGo p.tables e below (T20.setTop (mkF m 22 #[.val (.ref a), .val (.ref rb)] [(.ref a), (.ref sp), (.double lo), (.double la), (.ref ti), (.ref rb), (.ref b1), (.ref b1)])) _
  have Q21 := (hC_bearing.ext E1)
  obtain ⟨T22, X22, e22, st22⟩ := getF X20 hx hZ hown (host := "") (Or.inl (hw _ ow159)) Via.refl e20 Q21 (g := (mkF m 22 #[.val (.ref a), .val (.ref rb)] [(.ref a), (.ref sp), (.double lo), (.double la), (.ref ti), (.ref rb), (.ref b1), (.ref b1)])) rfl rfl (hb hby own_fix_d22)
  refine ownStep st22 ?_
  refine ownStep (fun _ k => XS.aloadN X22.here hx rfl (hb hby own_fix_d25) rfl rfl k) ?_
  show ownGo p.tables e below (T22.setTop (mkF m 26 #[.val (.ref a), .val (.ref rb)] [(.ref a), (.ref be), (.ref sp), (.double lo), (.double la), (.ref ti), (.ref rb), (.ref b1), (.ref b1)])) _
  have Q23 := (hC_altitude.ext E1)
  obtain ⟨T24, X24, e24, st24⟩ := getF X22 hx hZ hown (host := "") (Or.inl (hw _ ow166)) Via.refl e22 Q23 (g := (mkF m 26 #[.val (.ref a), .val (.ref rb)] [(.ref a), (.ref be), (.ref sp), (.double lo), (.double la), (.ref ti), (.ref rb), (.ref b1), (.ref b1)])) rfl rfl (hb hby own_fix_d26)
  refine ownStep st24 ?_
  refine ownStep (fun _ k => XS.aloadN X24.here hx rfl (hb hby own_fix_d29) rfl rfl k) ?_
  show ownGo p.tables e below (T24.setTop (mkF m 30 #[.val (.ref a), .val (.ref rb)] [(.ref a), (.ref al), (.ref be), (.ref sp), (.double lo), (.double la), (.ref ti), (.ref rb), (.ref b1), (.ref b1)])) _
  have Q25 := (hC_mslAltitude.ext E1)
  obtain ⟨T26, X26, e26, st26⟩ := getF X24 hx hZ hown (host := "") (Or.inl (hw _ ow173)) Via.refl e24 Q25 (g := (mkF m 30 #[.val (.ref a), .val (.ref rb)] [(.ref a), (.ref al), (.ref be), (.ref sp), (.double lo), (.double la), (.ref ti), (.ref rb), (.ref b1), (.ref b1)])) rfl rfl (hb hby own_fix_d30)
  refine ownStep st26 ?_
  refine ownStep (fun _ k => XS.aloadN X26.here hx rfl (hb hby own_fix_d33) rfl rfl k) ?_
  show ownGo p.tables e below (T26.setTop (mkF m 34 #[.val (.ref a), .val (.ref rb)] [(.ref a), (.ref ms), (.ref al), (.ref be), (.ref sp), (.double lo), (.double la), (.ref ti), (.ref rb), (.ref b1), (.ref b1)])) _
  have Q27 := (hC_accuracy.ext E1)
  obtain ⟨T28, X28, e28, st28⟩ := getF X26 hx hZ hown (host := "") (Or.inl (hw _ ow180)) Via.refl e26 Q27 (g := (mkF m 34 #[.val (.ref a), .val (.ref rb)] [(.ref a), (.ref ms), (.ref al), (.ref be), (.ref sp), (.double lo), (.double la), (.ref ti), (.ref rb), (.ref b1), (.ref b1)])) rfl rfl (hb hby own_fix_d34)
  refine ownStep st28 ?_
  refine ownStep (fun _ k => XS.aloadN X28.here hx rfl (hb hby own_fix_d37) rfl rfl k) ?_
  show ownGo p.tables e below (T28.setTop (mkF m 38 #[.val (.ref a), .val (.ref rb)] [(.ref a), (.ref ac), (.ref ms), (.ref al), (.ref be), (.ref sp), (.double lo), (.double la), (.ref ti), (.ref rb), (.ref b1), (.ref b1)])) _
  have Q29 := (hC_satellites.ext E1)
  obtain ⟨T30, X30, e30, st30⟩ := getF X28 hx hZ hown (host := "") (Or.inl (hw _ ow187)) Via.refl e28 Q29 (g := (mkF m 38 #[.val (.ref a), .val (.ref rb)] [(.ref a), (.ref ac), (.ref ms), (.ref al), (.ref be), (.ref sp), (.double lo), (.double la), (.ref ti), (.ref rb), (.ref b1), (.ref b1)])) rfl rfl (hb hby own_fix_d38)
  refine ownStep st30 ?_
  show ownGo p.tables e below (T30.setTop (mkF m 41 #[.val (.ref a), .val (.ref rb)] [(.ref sa), (.ref ac), (.ref ms), (.ref al), (.ref be), (.ref sp), (.double lo), (.double la), (.ref ti), (.ref rb), (.ref b1), (.ref b1)])) _
  have Zs32 : n0 ≤ h1.size := Nat.le_trans Z0 KP2.1
  obtain ⟨_, _, ⟨T31, L31, k31, n31⟩, -, X31, hSq31, gq31, ⟨Lc31, hQ31, l31, y31, z31⟩, st31⟩ := X30.specialBackS hx (y := (⟨"com/example/fixd/fixd/location/Location", "<init>", "(Ljava/lang/String;Ljava/time/Instant;DDLjava/util/OptionalDouble;Ljava/util/OptionalDouble;Ljava/util/OptionalDouble;Ljava/util/OptionalDouble;Ljava/util/OptionalDouble;Ljava/util/OptionalInt;)V"⟩ : MethodName)) rfl hown (mvT hZ (hw _ ow242)) (mvT hZ (hw _ ow78)) (mvT hZ (hw _ ow79)) (by decide) (backOfS (W := 1) (own_ll l Z a0 hw [] b1 rb ti la lo sp be al ms ac sa h1 n0 Zs32 A1 gn_b1 F3 F4 F5 F6 F7 F8 F9 F10 F11 F12) hZ (hw _ ow79) (hw _ ow52) (by decide) (by decide)) (g := (mkF m 41 #[.val (.ref a), .val (.ref rb)] [(.ref sa), (.ref ac), (.ref ms), (.ref al), (.ref be), (.ref sp), (.double lo), (.double la), (.ref ti), (.ref rb), (.ref b1), (.ref b1)])) rfl (by rw [hml]; rfl) (Steps.refl _) (a := b1) (argsL := [(.ref rb), (.ref ti), (.double la), (.double lo), (.ref sp), (.ref be), (.ref al), (.ref ms), (.ref ac), (.ref sa)]) (rest := [(.ref b1)]) (lenOf own_fix_pd0 rfl) rfl (by show 2 * 0 + _ ≤ _; exact Nat.le_of_eq rfl) (hb hby own_fix_d41) (fun _ _ => ⟨rfl, e30, (by decide : 1 + 16 ≤ _), (by decide : 10 + 276 ≤ _)⟩)
  dsimp only [Pt.U, Pt.locs, Pt.cells, Pt.slots] at X31 l31 y31 z31 st31 hQ31 hSq31 gq31
  obtain ⟨X31, hS, hZ, hown⟩ := rebS hS (show _ ≤ T30.heap.size by rw [e30]; exact (Nat.le_trans (Nat.zero_le _) (Nat.le_trans (Nat.le_refl _) E1.1))) X31 hSq31 gq31 hZ hown
  obtain rfl : k31 = 17 := y31
  obtain rfl : n31 = 286 := z31
  obtain ⟨rfl, N31q, R31, P33⟩ := hQ31
  have N31 : Fr n0 L31 := l31 ▸ Fr.app N0 N31q
  refine ownStep (fun _ k => st31.trans k) ?_
  have KP34 : Keep h0 T31.heap [] := KP2.trans R31 (allS (Or.inr gh_b1) all0)
  show ownGo p.tables e below (T31.setTop (mkF m 44 #[.val (.ref a), .val (.ref rb)] [(.ref b1)])) _
  have Q35 := (A1.keep R31)
  exact ownRetW X31 hS (Nat.le_refl _) (v := some (.ref b1)) Bd.notSynchronized (fun h => by rw [Bd.returns] at h; cases h) (fun _ hr => retOut X31 hx (t := (.object "com/example/fixd/fixd/location/Location")) Bd.returns rfl (Or.inr (Or.inr (Or.inr (Or.inr ⟨rfl, rfl, rfl⟩)))) (hb hby own_fix_d44) hr) (⟨b1, rfl, N31, (own_extOf KP34), gh_b1, P33, Q35⟩) (by decide) (by decide)
theorem own_gP_d0 : decode prog_5_method_3_code 0 = .ok (.aload_n 0, 1) := by decide +kernel
theorem own_gP_d1 : decode prog_5_method_3_code 1 = .ok (.getfield 42, 3) := by decide +kernel
theorem own_gP_d4 : decode prog_5_method_3_code 4 = .ok (.areturn, 1) := by decide +kernel
theorem own_gP_pn : plainName "com/example/fixd/fixd/client/Location" = true := by first | (simp [plainName, overriddenIn]; done) | decide +kernel
theorem own_gP_ef (m : MethodId) (x0 : Addr) : entryFrame m #[(.ref x0)] 1 = mkF m 0 #[.val (.ref x0)] [] := by first | (simp [entryFrame, mkF, argsToLocals, Value.category]; done) | rfl
def own_gP_Q (Z : State) (a : Addr) (pv : Addr) (ti : Addr) (la : UInt64) (lo : UInt64) (sp : Addr) (be : Addr) (al : Addr) (ms : Addr) (ac : Addr) (sa : Addr) (h0 : Heap) (n0 : Nat) (vv_ : Option Value) (hh_ : Heap) (LL_ : List Loc) : Prop := vv_ = some (.ref pv) ∧ Fr n0 LL_ ∧ hh_ = h0
set_option maxRecDepth 65536 in
set_option maxHeartbeats 40000000 in
theorem own_gP (l : Launch) (Z : State) (a0 : Array Value) (hw : ∀ d ∈ tables_1, d.before a0 Z = true) (ws : List Jvm.Cond) (a : Addr) (pv : Addr) (ti : Addr) (la : UInt64) (lo : UInt64) (sp : Addr) (be : Addr) (al : Addr) (ms : Addr) (ac : Addr) (sa : Addr) (h0 : Heap) (n0 : Nat) (Z0 : n0 ≤ h0.size) (hC : Cli Z h0 a pv ti la lo sp be al ms ac sa) :
    MetFree l (⟨"com/example/fixd/fixd/client/Location", "getProvider", "()Ljava/lang/String;"⟩ : MethodName) (head1 (Jvm.Cond.code (⟨"com/example/fixd/fixd/client/Location", "getProvider", "()Ljava/lang/String;"⟩ : MethodName) prog_5_method_3_code 1 (some (.object "java/lang/String")) :: ws) ({ frames := 0, cells := 0, slots := 0, locals := 0 } : Room)) (fun aa_ UU_ => aa_ = #[(.ref a)] ∧ Z.Warmed39 UU_.vm ∧ UU_.heap = h0) (fun _ _ _ _ _ => True) (fun _ UU_ oo_ UV_ => ∃ vv_ LL_, oo_ = .returned vv_ ∧ own_gP_Q Z a pv ti la lo sp be al ms ac sa h0 n0 vv_ UV_.heap LL_ ∧ FrameEnd UU_ oo_ UV_ LL_ ({ frames := 0, cells := 0, slots := 0, locals := 0 } : Room).cells ({ frames := 0, cells := 0, slots := 0, locals := 0 } : Room).slots) := by
  refine MetFree.of_bodySF (plainFor_of_name own_gP_pn) hisR ?_
  intro p e s m args below meth c s₁ Bd hml0 hP hK
  obtain ⟨rfl, hZ, hh⟩ := hP
  have hx := Bd.exec
  have hby := Bd.bytes
  have hml : c.maxLocals = 1 := hml0
  have hown : s.vm.findClass "com/example/fixd/fixd/client/Location" = some m.cls := findClass_of_methodNamed Bd.named
  have hnm := (name_of_methodNamed Bd.named Bd.method).1
  have X0 : Stand p l e ({ frames := 0, cells := 0, slots := 0, locals := 0 } : Room) s m #[(.ref a)] below meth c s₁ [] 0 0 := Stand.of_body Bd
  have e0 : s₁.heap = h0 := by rw [← hh, Bd.state]; rfl
  have N0 := Fr.nil n0
  have KP0 : Keep h0 h0 [] := Keep.refl _ _
  refine ownFin (Q := own_gP_Q Z a pv ti la lo sp be al ms ac sa h0 n0) ?_
  refine ownStep (fun _ k => castTop (own_gP_ef m a) k) ?_
  show ownGo p.tables e below (s₁.setTop (mkF m 0 #[.val (.ref a)] [])) _
  have hC_ := hC
  obtain ⟨hC_provider, hC_time, hC_latitude, hC_longitude, hC_speed, hC_bearing, hC_altitude, hC_mslAltitude, hC_accuracy, hC_satellites⟩ := hC_
  refine ownStep (fun _ k => XS.aloadN X0.here hx rfl (hb hby own_gP_d0) rfl rfl k) ?_
  show ownGo p.tables e below (s₁.setTop (mkF m 1 #[.val (.ref a)] [(.ref a)])) _
  obtain ⟨T1, X1, e1, st1⟩ := getF X0 hx hZ hown (host := "") (Or.inl (hw _ ow124)) Via.refl e0 hC_provider (g := (mkF m 1 #[.val (.ref a)] [(.ref a)])) rfl rfl (hb hby own_gP_d1)
  refine ownStep st1 ?_
  show ownGo p.tables e below (T1.setTop (mkF m 4 #[.val (.ref a)] [(.ref pv)])) _
  exact ownRet X1 (v := some (.ref pv)) Bd.notSynchronized (fun h => by rw [Bd.returns] at h; cases h) (fun _ hr => retOut X1 hx (t := (.object "java/lang/String")) Bd.returns rfl (Or.inr (Or.inr (Or.inr (Or.inr ⟨rfl, rfl, rfl⟩)))) (hb hby own_gP_d4) hr) (by rw [e1]; exact ⟨rfl, N0, rfl⟩) (by decide) (by decide)
theorem own_gT_d0 : decode prog_5_method_4_code 0 = .ok (.aload_n 0, 1) := by decide +kernel
theorem own_gT_d1 : decode prog_5_method_4_code 1 = .ok (.getfield 49, 3) := by decide +kernel
theorem own_gT_d4 : decode prog_5_method_4_code 4 = .ok (.invokevirtual 96, 3) := by decide +kernel
theorem own_gT_d7 : decode prog_5_method_4_code 7 = .ok (.lreturn, 1) := by decide +kernel
theorem own_gT_pn : plainName "com/example/fixd/fixd/client/Location" = true := by first | (simp [plainName, overriddenIn]; done) | decide +kernel
theorem own_gT_pd0 : parseMethodDescriptor "()J" = some ⟨[], some .long⟩ := by decide +kernel
theorem own_gT_ef (m : MethodId) (x0 : Addr) : entryFrame m #[(.ref x0)] 1 = mkF m 0 #[.val (.ref x0)] [] := by first | (simp [entryFrame, mkF, argsToLocals, Value.category]; done) | rfl
def own_gT_Q (Z : State) (a : Addr) (pv : Addr) (ti : Addr) (la : UInt64) (lo : UInt64) (sp : Addr) (be : Addr) (al : Addr) (ms : Addr) (ac : Addr) (sa : Addr) (t : Int64) (h0 : Heap) (n0 : Nat) (vv_ : Option Value) (hh_ : Heap) (LL_ : List Loc) : Prop := vv_ = some (.long t) ∧ Fr n0 LL_ ∧ hh_ = h0
set_option maxRecDepth 65536 in
set_option maxHeartbeats 40000000 in
theorem own_gT (l : Launch) (Z : State) (a0 : Array Value) (hw : ∀ d ∈ tables_1, d.before a0 Z = true) (ws : List Jvm.Cond) (a : Addr) (pv : Addr) (ti : Addr) (la : UInt64) (lo : UInt64) (sp : Addr) (be : Addr) (al : Addr) (ms : Addr) (ac : Addr) (sa : Addr) (t : Int64) (h0 : Heap) (n0 : Nat) (Z0 : n0 ≤ h0.size) (hC : Cli Z h0 a pv ti la lo sp be al ms ac sa) (hT : Tim Z h0 ti t) (Eti : Exa Z h0 ti "java/time/Instant") :
    MetFree l (⟨"com/example/fixd/fixd/client/Location", "getTime", "()J"⟩ : MethodName) (head1 (Jvm.Cond.code (⟨"com/example/fixd/fixd/client/Location", "getTime", "()J"⟩ : MethodName) prog_5_method_4_code 1 (some .long) :: ws) ({ frames := 4, cells := 0, slots := 0, locals := 64 } : Room)) (fun aa_ UU_ => aa_ = #[(.ref a)] ∧ Z.Warmed39 UU_.vm ∧ UU_.heap = h0) (fun _ _ _ _ _ => True) (fun _ UU_ oo_ UV_ => ∃ vv_ LL_, oo_ = .returned vv_ ∧ own_gT_Q Z a pv ti la lo sp be al ms ac sa t h0 n0 vv_ UV_.heap LL_ ∧ FrameEnd UU_ oo_ UV_ LL_ ({ frames := 4, cells := 0, slots := 0, locals := 64 } : Room).cells ({ frames := 4, cells := 0, slots := 0, locals := 64 } : Room).slots) := by
  refine MetFree.of_bodySF (plainFor_of_name own_gT_pn) hisR ?_
  intro p e s m args below meth c s₁ Bd hml0 hP hK
  obtain ⟨rfl, hZ, hh⟩ := hP
  have hx := Bd.exec
  have hby := Bd.bytes
  have hml : c.maxLocals = 1 := hml0
  have hown : s.vm.findClass "com/example/fixd/fixd/client/Location" = some m.cls := findClass_of_methodNamed Bd.named
  have hnm := (name_of_methodNamed Bd.named Bd.method).1
  have X0 : Stand p l e ({ frames := 4, cells := 0, slots := 0, locals := 64 } : Room) s m #[(.ref a)] below meth c s₁ [] 0 0 := Stand.of_body Bd
  have e0 : s₁.heap = h0 := by rw [← hh, Bd.state]; rfl
  have N0 := Fr.nil n0
  have KP0 : Keep h0 h0 [] := Keep.refl _ _
  refine ownFin (Q := own_gT_Q Z a pv ti la lo sp be al ms ac sa t h0 n0) ?_
  refine ownStep (fun _ k => castTop (own_gT_ef m a) k) ?_
  show ownGo p.tables e below (s₁.setTop (mkF m 0 #[.val (.ref a)] [])) _
  have hC_ := hC
  obtain ⟨hC_provider, hC_time, hC_latitude, hC_longitude, hC_speed, hC_bearing, hC_altitude, hC_mslAltitude, hC_accuracy, hC_satellites⟩ := hC_
  refine ownStep (fun _ k => XS.aloadN X0.here hx rfl (hb hby own_gT_d0) rfl rfl k) ?_
  show ownGo p.tables e below (s₁.setTop (mkF m 1 #[.val (.ref a)] [(.ref a)])) _
  obtain ⟨T1, X1, e1, st1⟩ := getF X0 hx hZ hown (host := "") (Or.inl (hw _ ow131)) Via.refl e0 hC_time (g := (mkF m 1 #[.val (.ref a)] [(.ref a)])) rfl rfl (hb hby own_gT_d1)
  refine ownStep st1 ?_
  show ownGo p.tables e below (T1.setTop (mkF m 4 #[.val (.ref a)] [(.ref ti)])) _
  have Zs3 : n0 ≤ h0.size := Nat.le_trans Z0 KP0.1
  obtain ⟨cq2, kq2, q2a, q2b, q2c⟩ := isOf hZ e1 Eti
  obtain ⟨_, _, ⟨T2, L2, k2, n2⟩, -, X2, ⟨Lc2, hQ2, l2, y2, z2⟩, st2⟩ := X1.virtualBack hx (y := (⟨"java/time/Instant", "toEpochMilli", "()J"⟩ : MethodName)) (z := (⟨"java/time/Instant", "toEpochMilli", "()J"⟩ : MethodName)) hown (mvT hZ (hw _ ow259)) (mvT hZ (hw _ ow260)) (notFace_of_selects (args := #[]) (mvT hZ (hw _ ow262))) (mvT hZ (hw _ ow262)) (mvT hZ (hw _ ow261)) (by decide) (backOf (W := 0) (own_tem l Z a0 hw [] ti t h0 n0 Zs3 hT) hZ (hw _ ow263) (hw _ ow62) (by decide) (by decide)) q2a q2c (g := (mkF m 4 #[.val (.ref a)] [(.ref ti)])) rfl (by rw [hml]; rfl) (Steps.refl _) (argsL := []) (rest := []) (lenOf own_gT_pd0 rfl) rfl (by show 2 * 0 + _ ≤ _; exact Nat.le_of_eq rfl) (hb hby own_gT_d4) (fun _ _ => ⟨rfl, e1, (by decide : 0 + 0 ≤ _), (by decide : 0 + 0 ≤ _)⟩)
  dsimp only [Pt.U, Pt.locs, Pt.cells, Pt.slots] at X2 l2 y2 z2 st2 hQ2
  obtain rfl : k2 = 0 := y2
  obtain rfl : n2 = 0 := z2
  obtain ⟨rfl, N2q, R2⟩ := hQ2
  have N2 : Fr n0 L2 := l2 ▸ Fr.app N0 N2q
  refine ownStep (fun _ k => st2.trans k) ?_
  show ownGo p.tables e below (T2.setTop (mkF m 7 #[.val (.ref a)] [(.long t)])) _
  exact ownRet X2 (v := some (.long t)) Bd.notSynchronized (fun h => by rw [Bd.returns] at h; cases h) (fun _ hr => retOut X2 hx (t := .long) Bd.returns rfl (Or.inr (Or.inl ⟨rfl, rfl, _, rfl⟩)) (hb hby own_gT_d7) hr) (by rw [R2]; exact ⟨rfl, N2, rfl⟩) (by decide) (by decide)
theorem od_la_d0 : decode prog_5_method_6_code 0 = .ok (.aload_n 0, 1) := by decide +kernel
theorem od_la_d1 : decode prog_5_method_6_code 1 = .ok (.getfield 55, 3) := by decide +kernel
theorem od_la_d4 : decode prog_5_method_6_code 4 = .ok (.dreturn, 1) := by decide +kernel
theorem od_la_pn : plainName "com/example/fixd/fixd/client/Location" = true := by first | (simp [plainName, overriddenIn]; done) | decide +kernel
theorem od_la_ef (m : MethodId) (x0 : Addr) : entryFrame m #[(.ref x0)] 1 = mkF m 0 #[.val (.ref x0)] [] := by first | (simp [entryFrame, mkF, argsToLocals, Value.category]; done) | rfl
def od_la_Q (Z : State) (a : Addr) (pv : Addr) (ti : Addr) (la : UInt64) (lo : UInt64) (sp : Addr) (be : Addr) (al : Addr) (ms : Addr) (ac : Addr) (sa : Addr) (h0 : Heap) (n0 : Nat) (vv_ : Option Value) (hh_ : Heap) (LL_ : List Loc) : Prop := vv_ = some (.double la) ∧ Fr n0 LL_ ∧ hh_ = h0
set_option maxRecDepth 65536 in
set_option maxHeartbeats 40000000 in
theorem od_la (l : Launch) (Z : State) (a0 : Array Value) (hw : ∀ d ∈ tables_1, d.before a0 Z = true) (ws : List Jvm.Cond) (a : Addr) (pv : Addr) (ti : Addr) (la : UInt64) (lo : UInt64) (sp : Addr) (be : Addr) (al : Addr) (ms : Addr) (ac : Addr) (sa : Addr) (h0 : Heap) (n0 : Nat) (Z0 : n0 ≤ h0.size) (hC : Cli Z h0 a pv ti la lo sp be al ms ac sa) :
    MetFree l (⟨"com/example/fixd/fixd/client/Location", "getLatitude", "()D"⟩ : MethodName) (head1 (Jvm.Cond.code (⟨"com/example/fixd/fixd/client/Location", "getLatitude", "()D"⟩ : MethodName) prog_5_method_6_code 1 (some .double) :: ws) ({ frames := 0, cells := 0, slots := 0, locals := 0 } : Room)) (fun aa_ UU_ => aa_ = #[(.ref a)] ∧ Z.Warmed39 UU_.vm ∧ UU_.heap = h0) (fun _ _ _ _ _ => True) (fun _ UU_ oo_ UV_ => ∃ vv_ LL_, oo_ = .returned vv_ ∧ od_la_Q Z a pv ti la lo sp be al ms ac sa h0 n0 vv_ UV_.heap LL_ ∧ FrameEnd UU_ oo_ UV_ LL_ ({ frames := 0, cells := 0, slots := 0, locals := 0 } : Room).cells ({ frames := 0, cells := 0, slots := 0, locals := 0 } : Room).slots) := by
  refine MetFree.of_bodySF (plainFor_of_name od_la_pn) hisR ?_
  intro p e s m args below meth c s₁ Bd hml0 hP hK
  obtain ⟨rfl, hZ, hh⟩ := hP
  have hx := Bd.exec
  have hby := Bd.bytes
  have hml : c.maxLocals = 1 := hml0
  have hown : s.vm.findClass "com/example/fixd/fixd/client/Location" = some m.cls := findClass_of_methodNamed Bd.named
  have hnm := (name_of_methodNamed Bd.named Bd.method).1
  have X0 : Stand p l e ({ frames := 0, cells := 0, slots := 0, locals := 0 } : Room) s m #[(.ref a)] below meth c s₁ [] 0 0 := Stand.of_body Bd
  have e0 : s₁.heap = h0 := by rw [← hh, Bd.state]; rfl
  have N0 := Fr.nil n0
  have KP0 : Keep h0 h0 [] := Keep.refl _ _
  refine ownFin (Q := od_la_Q Z a pv ti la lo sp be al ms ac sa h0 n0) ?_
  refine ownStep (fun _ k => castTop (od_la_ef m a) k) ?_
  show ownGo p.tables e below (s₁.setTop (mkF m 0 #[.val (.ref a)] [])) _
  have hC_ := hC
  obtain ⟨hC_provider, hC_time, hC_latitude, hC_longitude, hC_speed, hC_bearing, hC_altitude, hC_mslAltitude, hC_accuracy, hC_satellites⟩ := hC_
  refine ownStep (fun _ k => XS.aloadN X0.here hx rfl (hb hby od_la_d0) rfl rfl k) ?_
  show ownGo p.tables e below (s₁.setTop (mkF m 1 #[.val (.ref a)] [(.ref a)])) _
  obtain ⟨T1, X1, e1, st1⟩ := getF X0 hx hZ hown (host := "") (Or.inl (hw _ ow138)) Via.refl e0 hC_latitude (g := (mkF m 1 #[.val (.ref a)] [(.ref a)])) rfl rfl (hb hby od_la_d1)
  refine ownStep st1 ?_
  show ownGo p.tables e below (T1.setTop (mkF m 4 #[.val (.ref a)] [(.double la)])) _
  exact ownRet X1 (v := some (.double la)) Bd.notSynchronized (fun h => by rw [Bd.returns] at h; cases h) (fun _ hr => retOut X1 hx (t := .double) Bd.returns rfl (Or.inr (Or.inr (Or.inl ⟨rfl, rfl, _, rfl⟩))) (hb hby od_la_d4) hr) (by rw [e1]; exact ⟨rfl, N0, rfl⟩) (by decide) (by decide)
theorem od_lo_d0 : decode prog_5_method_8_code 0 = .ok (.aload_n 0, 1) := by decide +kernel
theorem od_lo_d1 : decode prog_5_method_8_code 1 = .ok (.getfield 61, 3) := by decide +kernel
theorem od_lo_d4 : decode prog_5_method_8_code 4 = .ok (.dreturn, 1) := by decide +kernel
theorem od_lo_pn : plainName "com/example/fixd/fixd/client/Location" = true := by first | (simp [plainName, overriddenIn]; done) | decide +kernel
theorem od_lo_ef (m : MethodId) (x0 : Addr) : entryFrame m #[(.ref x0)] 1 = mkF m 0 #[.val (.ref x0)] [] := by first | (simp [entryFrame, mkF, argsToLocals, Value.category]; done) | rfl
def od_lo_Q (Z : State) (a : Addr) (pv : Addr) (ti : Addr) (la : UInt64) (lo : UInt64) (sp : Addr) (be : Addr) (al : Addr) (ms : Addr) (ac : Addr) (sa : Addr) (h0 : Heap) (n0 : Nat) (vv_ : Option Value) (hh_ : Heap) (LL_ : List Loc) : Prop := vv_ = some (.double lo) ∧ Fr n0 LL_ ∧ hh_ = h0
set_option maxRecDepth 65536 in
set_option maxHeartbeats 40000000 in
theorem od_lo (l : Launch) (Z : State) (a0 : Array Value) (hw : ∀ d ∈ tables_1, d.before a0 Z = true) (ws : List Jvm.Cond) (a : Addr) (pv : Addr) (ti : Addr) (la : UInt64) (lo : UInt64) (sp : Addr) (be : Addr) (al : Addr) (ms : Addr) (ac : Addr) (sa : Addr) (h0 : Heap) (n0 : Nat) (Z0 : n0 ≤ h0.size) (hC : Cli Z h0 a pv ti la lo sp be al ms ac sa) :
    MetFree l (⟨"com/example/fixd/fixd/client/Location", "getLongitude", "()D"⟩ : MethodName) (head1 (Jvm.Cond.code (⟨"com/example/fixd/fixd/client/Location", "getLongitude", "()D"⟩ : MethodName) prog_5_method_8_code 1 (some .double) :: ws) ({ frames := 0, cells := 0, slots := 0, locals := 0 } : Room)) (fun aa_ UU_ => aa_ = #[(.ref a)] ∧ Z.Warmed39 UU_.vm ∧ UU_.heap = h0) (fun _ _ _ _ _ => True) (fun _ UU_ oo_ UV_ => ∃ vv_ LL_, oo_ = .returned vv_ ∧ od_lo_Q Z a pv ti la lo sp be al ms ac sa h0 n0 vv_ UV_.heap LL_ ∧ FrameEnd UU_ oo_ UV_ LL_ ({ frames := 0, cells := 0, slots := 0, locals := 0 } : Room).cells ({ frames := 0, cells := 0, slots := 0, locals := 0 } : Room).slots) := by
  refine MetFree.of_bodySF (plainFor_of_name od_lo_pn) hisR ?_
  intro p e s m args below meth c s₁ Bd hml0 hP hK
  obtain ⟨rfl, hZ, hh⟩ := hP
  have hx := Bd.exec
  have hby := Bd.bytes
  have hml : c.maxLocals = 1 := hml0
  have hown : s.vm.findClass "com/example/fixd/fixd/client/Location" = some m.cls := findClass_of_methodNamed Bd.named
  have hnm := (name_of_methodNamed Bd.named Bd.method).1
  have X0 : Stand p l e ({ frames := 0, cells := 0, slots := 0, locals := 0 } : Room) s m #[(.ref a)] below meth c s₁ [] 0 0 := Stand.of_body Bd
  have e0 : s₁.heap = h0 := by rw [← hh, Bd.state]; rfl
  have N0 := Fr.nil n0
  have KP0 : Keep h0 h0 [] := Keep.refl _ _
  refine ownFin (Q := od_lo_Q Z a pv ti la lo sp be al ms ac sa h0 n0) ?_
  refine ownStep (fun _ k => castTop (od_lo_ef m a) k) ?_
  show ownGo p.tables e below (s₁.setTop (mkF m 0 #[.val (.ref a)] [])) _
  have hC_ := hC
  obtain ⟨hC_provider, hC_time, hC_latitude, hC_longitude, hC_speed, hC_bearing, hC_altitude, hC_mslAltitude, hC_accuracy, hC_satellites⟩ := hC_
  refine ownStep (fun _ k => XS.aloadN X0.here hx rfl (hb hby od_lo_d0) rfl rfl k) ?_
  show ownGo p.tables e below (s₁.setTop (mkF m 1 #[.val (.ref a)] [(.ref a)])) _
  obtain ⟨T1, X1, e1, st1⟩ := getF X0 hx hZ hown (host := "") (Or.inl (hw _ ow145)) Via.refl e0 hC_longitude (g := (mkF m 1 #[.val (.ref a)] [(.ref a)])) rfl rfl (hb hby od_lo_d1)
  refine ownStep st1 ?_
  show ownGo p.tables e below (T1.setTop (mkF m 4 #[.val (.ref a)] [(.double lo)])) _
  exact ownRet X1 (v := some (.double lo)) Bd.notSynchronized (fun h => by rw [Bd.returns] at h; cases h) (fun _ hr => retOut X1 hx (t := .double) Bd.returns rfl (Or.inr (Or.inr (Or.inl ⟨rfl, rfl, _, rfl⟩))) (hb hby od_lo_d4) hr) (by rw [e1]; exact ⟨rfl, N0, rfl⟩) (by decide) (by decide)
theorem oh_sp_d0 : decode prog_5_method_16_code 0 = .ok (.aload_n 0, 1) := by decide +kernel
theorem oh_sp_d1 : decode prog_5_method_16_code 1 = .ok (.getfield 66, 3) := by decide +kernel
theorem oh_sp_d4 : decode prog_5_method_16_code 4 = .ok (.invokevirtual 104, 3) := by decide +kernel
theorem oh_sp_d7 : decode prog_5_method_16_code 7 = .ok (.ireturn, 1) := by decide +kernel
theorem oh_sp_pn : plainName "com/example/fixd/fixd/client/Location" = true := by first | (simp [plainName, overriddenIn]; done) | decide +kernel
theorem oh_sp_pd0 : parseMethodDescriptor "()Z" = some ⟨[], some .boolean⟩ := by decide +kernel
theorem oh_sp_ef (m : MethodId) (x0 : Addr) : entryFrame m #[(.ref x0)] 1 = mkF m 0 #[.val (.ref x0)] [] := by first | (simp [entryFrame, mkF, argsToLocals, Value.category]; done) | rfl
def oh_sp_Q (Z : State) (a : Addr) (pv : Addr) (ti : Addr) (la : UInt64) (lo : UInt64) (sp : Addr) (be : Addr) (al : Addr) (ms : Addr) (ac : Addr) (sa : Addr) (f : Int32) (v : UInt64) (h0 : Heap) (n0 : Nat) (vv_ : Option Value) (hh_ : Heap) (LL_ : List Loc) : Prop := vv_ = some (.int f) ∧ Fr n0 LL_ ∧ hh_ = h0
set_option maxRecDepth 65536 in
set_option maxHeartbeats 40000000 in
theorem oh_sp (l : Launch) (Z : State) (a0 : Array Value) (hw : ∀ d ∈ tables_1, d.before a0 Z = true) (ws : List Jvm.Cond) (a : Addr) (pv : Addr) (ti : Addr) (la : UInt64) (lo : UInt64) (sp : Addr) (be : Addr) (al : Addr) (ms : Addr) (ac : Addr) (sa : Addr) (f : Int32) (v : UInt64) (h0 : Heap) (n0 : Nat) (Z0 : n0 ≤ h0.size) (hC : Cli Z h0 a pv ti la lo sp be al ms ac sa) (hO : Opt Z h0 sp f v) (Eo : Exa Z h0 sp "java/util/OptionalDouble") (hfb : f = (0 : Int32) ∨ f = (1 : Int32)) :
    MetFree l (⟨"com/example/fixd/fixd/client/Location", "hasSpeed", "()Z"⟩ : MethodName) (head1 (Jvm.Cond.code (⟨"com/example/fixd/fixd/client/Location", "hasSpeed", "()Z"⟩ : MethodName) prog_5_method_16_code 1 (some .boolean) :: ws) ({ frames := 1, cells := 0, slots := 0, locals := 12 } : Room)) (fun aa_ UU_ => aa_ = #[(.ref a)] ∧ Z.Warmed39 UU_.vm ∧ UU_.heap = h0) (fun _ _ _ _ _ => True) (fun _ UU_ oo_ UV_ => ∃ vv_ LL_, oo_ = .returned vv_ ∧ oh_sp_Q Z a pv ti la lo sp be al ms ac sa f v h0 n0 vv_ UV_.heap LL_ ∧ FrameEnd UU_ oo_ UV_ LL_ ({ frames := 1, cells := 0, slots := 0, locals := 12 } : Room).cells ({ frames := 1, cells := 0, slots := 0, locals := 12 } : Room).slots) := by
  refine MetFree.of_bodySF (plainFor_of_name oh_sp_pn) hisR ?_
  intro p e s m args below meth c s₁ Bd hml0 hP hK
  obtain ⟨rfl, hZ, hh⟩ := hP
  have hx := Bd.exec
  have hby := Bd.bytes
  have hml : c.maxLocals = 1 := hml0
  have hown : s.vm.findClass "com/example/fixd/fixd/client/Location" = some m.cls := findClass_of_methodNamed Bd.named
  have hnm := (name_of_methodNamed Bd.named Bd.method).1
  have X0 : Stand p l e ({ frames := 1, cells := 0, slots := 0, locals := 12 } : Room) s m #[(.ref a)] below meth c s₁ [] 0 0 := Stand.of_body Bd
  have e0 : s₁.heap = h0 := by rw [← hh, Bd.state]; rfl
  have N0 := Fr.nil n0
  have KP0 : Keep h0 h0 [] := Keep.refl _ _
  refine ownFin (Q := oh_sp_Q Z a pv ti la lo sp be al ms ac sa f v h0 n0) ?_
  refine ownStep (fun _ k => castTop (oh_sp_ef m a) k) ?_
  show ownGo p.tables e below (s₁.setTop (mkF m 0 #[.val (.ref a)] [])) _
  have hC_ := hC
  obtain ⟨hC_provider, hC_time, hC_latitude, hC_longitude, hC_speed, hC_bearing, hC_altitude, hC_mslAltitude, hC_accuracy, hC_satellites⟩ := hC_
  refine ownStep (fun _ k => XS.aloadN X0.here hx rfl (hb hby oh_sp_d0) rfl rfl k) ?_
  show ownGo p.tables e below (s₁.setTop (mkF m 1 #[.val (.ref a)] [(.ref a)])) _
  obtain ⟨T1, X1, e1, st1⟩ := getF X0 hx hZ hown (host := "") (Or.inl (hw _ ow152)) Via.refl e0 hC_speed (g := (mkF m 1 #[.val (.ref a)] [(.ref a)])) rfl rfl (hb hby oh_sp_d1)
  refine ownStep st1 ?_
  show ownGo p.tables e below (T1.setTop (mkF m 4 #[.val (.ref a)] [(.ref sp)])) _
  have Zs3 : n0 ≤ h0.size := Nat.le_trans Z0 KP0.1
  obtain ⟨cq2, kq2, q2a, q2b, q2c⟩ := isOf hZ e1 Eo
  obtain ⟨_, _, ⟨T2, L2, k2, n2⟩, -, X2, ⟨Lc2, hQ2, l2, y2, z2⟩, st2⟩ := X1.virtualBack hx (y := (⟨"java/util/OptionalDouble", "isPresent", "()Z"⟩ : MethodName)) (z := (⟨"java/util/OptionalDouble", "isPresent", "()Z"⟩ : MethodName)) hown (mvT hZ (hw _ ow291)) (mvT hZ (hw _ ow292)) (notFace_of_selects (args := #[]) (mvT hZ (hw _ ow294))) (mvT hZ (hw _ ow294)) (mvT hZ (hw _ ow293)) (by decide) (backOf (W := 0) (own_isp l Z a0 hw [] sp f v h0 n0 Zs3 hO hfb) hZ (hw _ ow295) (hw _ ow65) (by decide) (by decide)) q2a q2c (g := (mkF m 4 #[.val (.ref a)] [(.ref sp)])) rfl (by rw [hml]; rfl) (Steps.refl _) (argsL := []) (rest := []) (lenOf oh_sp_pd0 rfl) rfl (by show 2 * 0 + _ ≤ _; exact Nat.le_of_eq rfl) (hb hby oh_sp_d4) (fun _ _ => ⟨rfl, e1, (by decide : 0 + 0 ≤ _), (by decide : 0 + 0 ≤ _)⟩)
  dsimp only [Pt.U, Pt.locs, Pt.cells, Pt.slots] at X2 l2 y2 z2 st2 hQ2
  obtain rfl : k2 = 0 := y2
  obtain rfl : n2 = 0 := z2
  obtain ⟨rfl, N2q, R2⟩ := hQ2
  have N2 : Fr n0 L2 := l2 ▸ Fr.app N0 N2q
  refine ownStep (fun _ k => st2.trans k) ?_
  show ownGo p.tables e below (T2.setTop (mkF m 7 #[.val (.ref a)] [(.int f)])) _
  exact ownRet X2 (v := some (.int (nar .boolean f))) Bd.notSynchronized (fun h => by rw [Bd.returns] at h; cases h) (fun _ hr => retN X2 hx (t := .boolean) Bd.returns (by simp) (hb hby oh_sp_d7) hr) (by rw [R2]; exact ⟨(by rw [own_nb hfb]), N2, rfl⟩) (by decide) (by decide)
theorem ot_sp_d0 : decode prog_5_method_17_code 0 = .ok (.aload_n 0, 1) := by decide +kernel
theorem ot_sp_d1 : decode prog_5_method_17_code 1 = .ok (.getfield 66, 3) := by decide +kernel
theorem ot_sp_d4 : decode prog_5_method_17_code 4 = .ok (.dconst 0, 1) := by decide +kernel
theorem ot_sp_d5 : decode prog_5_method_17_code 5 = .ok (.invokevirtual 108, 3) := by decide +kernel
theorem ot_sp_d8 : decode prog_5_method_17_code 8 = .ok (.d2f, 1) := by decide +kernel
theorem ot_sp_d9 : decode prog_5_method_17_code 9 = .ok (.freturn, 1) := by decide +kernel
theorem ot_sp_pn : plainName "com/example/fixd/fixd/client/Location" = true := by first | (simp [plainName, overriddenIn]; done) | decide +kernel
theorem ot_sp_pd0 : parseMethodDescriptor "(D)D" = some ⟨[.double], some .double⟩ := by decide +kernel
theorem ot_sp_ef (m : MethodId) (x0 : Addr) : entryFrame m #[(.ref x0)] 1 = mkF m 0 #[.val (.ref x0)] [] := by first | (simp [entryFrame, mkF, argsToLocals, Value.category]; done) | rfl
def ot_sp_Q (Z : State) (a : Addr) (pv : Addr) (ti : Addr) (la : UInt64) (lo : UInt64) (sp : Addr) (be : Addr) (al : Addr) (ms : Addr) (ac : Addr) (sa : Addr) (f : Int32) (v : UInt64) (h0 : Heap) (n0 : Nat) (vv_ : Option Value) (hh_ : Heap) (LL_ : List Loc) : Prop := vv_ = some (.float (FP.d2f (if f = (0 : Int32) then FP.dconst0 else v))) ∧ Fr n0 LL_ ∧ hh_ = h0
set_option maxRecDepth 65536 in
set_option maxHeartbeats 40000000 in
theorem ot_sp (l : Launch) (Z : State) (a0 : Array Value) (hw : ∀ d ∈ tables_1, d.before a0 Z = true) (ws : List Jvm.Cond) (a : Addr) (pv : Addr) (ti : Addr) (la : UInt64) (lo : UInt64) (sp : Addr) (be : Addr) (al : Addr) (ms : Addr) (ac : Addr) (sa : Addr) (f : Int32) (v : UInt64) (h0 : Heap) (n0 : Nat) (Z0 : n0 ≤ h0.size) (hC : Cli Z h0 a pv ti la lo sp be al ms ac sa) (hO : Opt Z h0 sp f v) (Eo : Exa Z h0 sp "java/util/OptionalDouble") (hfb : f = (0 : Int32) ∨ f = (1 : Int32)) (hn : NoNaN32 (FP.d2f (if f = (0 : Int32) then FP.dconst0 else v))) :
    MetFree l (⟨"com/example/fixd/fixd/client/Location", "getSpeed", "()F"⟩ : MethodName) (head1 (Jvm.Cond.code (⟨"com/example/fixd/fixd/client/Location", "getSpeed", "()F"⟩ : MethodName) prog_5_method_17_code 1 (some .float) :: ws) ({ frames := 1, cells := 0, slots := 0, locals := 14 } : Room)) (fun aa_ UU_ => aa_ = #[(.ref a)] ∧ Z.Warmed39 UU_.vm ∧ UU_.heap = h0) (fun _ _ _ _ _ => True) (fun _ UU_ oo_ UV_ => ∃ vv_ LL_, oo_ = .returned vv_ ∧ ot_sp_Q Z a pv ti la lo sp be al ms ac sa f v h0 n0 vv_ UV_.heap LL_ ∧ FrameEnd UU_ oo_ UV_ LL_ ({ frames := 1, cells := 0, slots := 0, locals := 14 } : Room).cells ({ frames := 1, cells := 0, slots := 0, locals := 14 } : Room).slots) := by
  refine MetFree.of_bodySF (plainFor_of_name ot_sp_pn) hisR ?_
  intro p e s m args below meth c s₁ Bd hml0 hP hK
  obtain ⟨rfl, hZ, hh⟩ := hP
  have hx := Bd.exec
  have hby := Bd.bytes
  have hml : c.maxLocals = 1 := hml0
  have hown : s.vm.findClass "com/example/fixd/fixd/client/Location" = some m.cls := findClass_of_methodNamed Bd.named
  have hnm := (name_of_methodNamed Bd.named Bd.method).1
  have X0 : Stand p l e ({ frames := 1, cells := 0, slots := 0, locals := 14 } : Room) s m #[(.ref a)] below meth c s₁ [] 0 0 := Stand.of_body Bd
  have e0 : s₁.heap = h0 := by rw [← hh, Bd.state]; rfl
  have N0 := Fr.nil n0
  have KP0 : Keep h0 h0 [] := Keep.refl _ _
  refine ownFin (Q := ot_sp_Q Z a pv ti la lo sp be al ms ac sa f v h0 n0) ?_
  refine ownStep (fun _ k => castTop (ot_sp_ef m a) k) ?_
  show ownGo p.tables e below (s₁.setTop (mkF m 0 #[.val (.ref a)] [])) _
  have hC_ := hC
  obtain ⟨hC_provider, hC_time, hC_latitude, hC_longitude, hC_speed, hC_bearing, hC_altitude, hC_mslAltitude, hC_accuracy, hC_satellites⟩ := hC_
  refine ownStep (fun _ k => XS.aloadN X0.here hx rfl (hb hby ot_sp_d0) rfl rfl k) ?_
  show ownGo p.tables e below (s₁.setTop (mkF m 1 #[.val (.ref a)] [(.ref a)])) _
  obtain ⟨T1, X1, e1, st1⟩ := getF X0 hx hZ hown (host := "") (Or.inl (hw _ ow152)) Via.refl e0 hC_speed (g := (mkF m 1 #[.val (.ref a)] [(.ref a)])) rfl rfl (hb hby ot_sp_d1)
  refine ownStep st1 ?_
  refine ownStep (fun _ k => XS.dconst0 X1.here hx rfl (hb hby ot_sp_d4) rfl k) ?_
  show ownGo p.tables e below (T1.setTop (mkF m 5 #[.val (.ref a)] [(.double FP.dconst0), (.ref sp)])) _
  have Zs3 : n0 ≤ h0.size := Nat.le_trans Z0 KP0.1
  obtain ⟨cq2, kq2, q2a, q2b, q2c⟩ := isOf hZ e1 Eo
  obtain ⟨_, _, ⟨T2, L2, k2, n2⟩, -, X2, ⟨Lc2, hQ2, l2, y2, z2⟩, st2⟩ := X1.virtualBack hx (y := (⟨"java/util/OptionalDouble", "orElse", "(D)D"⟩ : MethodName)) (z := (⟨"java/util/OptionalDouble", "orElse", "(D)D"⟩ : MethodName)) hown (mvT hZ (hw _ ow303)) (mvT hZ (hw _ ow304)) (notFace_of_selects (args := #[]) (mvT hZ (hw _ ow306))) (mvT hZ (hw _ ow306)) (mvT hZ (hw _ ow305)) (by decide) (backOf (W := 0) (own_ore l Z a0 hw [] sp f v h0 n0 Zs3 hO) hZ (hw _ ow307) (hw _ ow65) (by decide) (by decide)) q2a q2c (g := (mkF m 5 #[.val (.ref a)] [(.double FP.dconst0), (.ref sp)])) rfl (by rw [hml]; rfl) (Steps.refl _) (argsL := [(.double FP.dconst0)]) (rest := []) (lenOf ot_sp_pd0 rfl) rfl (by show 2 * 0 + _ ≤ _; exact Nat.le_of_eq rfl) (hb hby ot_sp_d5) (fun _ _ => ⟨rfl, e1, (by decide : 0 + 0 ≤ _), (by decide : 0 + 0 ≤ _)⟩)
  dsimp only [Pt.U, Pt.locs, Pt.cells, Pt.slots] at X2 l2 y2 z2 st2 hQ2
  obtain rfl : k2 = 0 := y2
  obtain rfl : n2 = 0 := z2
  obtain ⟨rfl, N2q, R2⟩ := hQ2
  have N2 : Fr n0 L2 := l2 ▸ Fr.app N0 N2q
  refine ownStep (fun _ k => st2.trans k) ?_
  refine ownStep (fun _ k => XS.d2fS X2.here hx rfl (hb hby ot_sp_d8) rfl hn rfl k) ?_
  show ownGo p.tables e below (T2.setTop (mkF m 9 #[.val (.ref a)] [(.float (FP.d2f (if f = (0 : Int32) then FP.dconst0 else v)))])) _
  exact ownRet X2 (v := some (.float (FP.d2f (if f = (0 : Int32) then FP.dconst0 else v)))) Bd.notSynchronized (fun h => by rw [Bd.returns] at h; cases h) (fun _ hr => retOut X2 hx (t := .float) Bd.returns rfl (Or.inr (Or.inr (Or.inr (Or.inl ⟨rfl, rfl, _, rfl⟩)))) (hb hby ot_sp_d9) hr) (by rw [R2]; exact ⟨rfl, N2, rfl⟩) (by decide) (by decide)
theorem oh_be_d0 : decode prog_5_method_19_code 0 = .ok (.aload_n 0, 1) := by decide +kernel
theorem oh_be_d1 : decode prog_5_method_19_code 1 = .ok (.getfield 72, 3) := by decide +kernel
theorem oh_be_d4 : decode prog_5_method_19_code 4 = .ok (.invokevirtual 104, 3) := by decide +kernel
theorem oh_be_d7 : decode prog_5_method_19_code 7 = .ok (.ireturn, 1) := by decide +kernel
theorem oh_be_pn : plainName "com/example/fixd/fixd/client/Location" = true := by first | (simp [plainName, overriddenIn]; done) | decide +kernel
theorem oh_be_pd0 : parseMethodDescriptor "()Z" = some ⟨[], some .boolean⟩ := by decide +kernel
theorem oh_be_ef (m : MethodId) (x0 : Addr) : entryFrame m #[(.ref x0)] 1 = mkF m 0 #[.val (.ref x0)] [] := by first | (simp [entryFrame, mkF, argsToLocals, Value.category]; done) | rfl
def oh_be_Q (Z : State) (a : Addr) (pv : Addr) (ti : Addr) (la : UInt64) (lo : UInt64) (sp : Addr) (be : Addr) (al : Addr) (ms : Addr) (ac : Addr) (sa : Addr) (f : Int32) (v : UInt64) (h0 : Heap) (n0 : Nat) (vv_ : Option Value) (hh_ : Heap) (LL_ : List Loc) : Prop := vv_ = some (.int f) ∧ Fr n0 LL_ ∧ hh_ = h0
set_option maxRecDepth 65536 in
set_option maxHeartbeats 40000000 in
theorem oh_be (l : Launch) (Z : State) (a0 : Array Value) (hw : ∀ d ∈ tables_1, d.before a0 Z = true) (ws : List Jvm.Cond) (a : Addr) (pv : Addr) (ti : Addr) (la : UInt64) (lo : UInt64) (sp : Addr) (be : Addr) (al : Addr) (ms : Addr) (ac : Addr) (sa : Addr) (f : Int32) (v : UInt64) (h0 : Heap) (n0 : Nat) (Z0 : n0 ≤ h0.size) (hC : Cli Z h0 a pv ti la lo sp be al ms ac sa) (hO : Opt Z h0 be f v) (Eo : Exa Z h0 be "java/util/OptionalDouble") (hfb : f = (0 : Int32) ∨ f = (1 : Int32)) :
    MetFree l (⟨"com/example/fixd/fixd/client/Location", "hasBearing", "()Z"⟩ : MethodName) (head1 (Jvm.Cond.code (⟨"com/example/fixd/fixd/client/Location", "hasBearing", "()Z"⟩ : MethodName) prog_5_method_19_code 1 (some .boolean) :: ws) ({ frames := 1, cells := 0, slots := 0, locals := 12 } : Room)) (fun aa_ UU_ => aa_ = #[(.ref a)] ∧ Z.Warmed39 UU_.vm ∧ UU_.heap = h0) (fun _ _ _ _ _ => True) (fun _ UU_ oo_ UV_ => ∃ vv_ LL_, oo_ = .returned vv_ ∧ oh_be_Q Z a pv ti la lo sp be al ms ac sa f v h0 n0 vv_ UV_.heap LL_ ∧ FrameEnd UU_ oo_ UV_ LL_ ({ frames := 1, cells := 0, slots := 0, locals := 12 } : Room).cells ({ frames := 1, cells := 0, slots := 0, locals := 12 } : Room).slots) := by
  refine MetFree.of_bodySF (plainFor_of_name oh_be_pn) hisR ?_
  intro p e s m args below meth c s₁ Bd hml0 hP hK
  obtain ⟨rfl, hZ, hh⟩ := hP
  have hx := Bd.exec
  have hby := Bd.bytes
  have hml : c.maxLocals = 1 := hml0
  have hown : s.vm.findClass "com/example/fixd/fixd/client/Location" = some m.cls := findClass_of_methodNamed Bd.named
  have hnm := (name_of_methodNamed Bd.named Bd.method).1
  have X0 : Stand p l e ({ frames := 1, cells := 0, slots := 0, locals := 12 } : Room) s m #[(.ref a)] below meth c s₁ [] 0 0 := Stand.of_body Bd
  have e0 : s₁.heap = h0 := by rw [← hh, Bd.state]; rfl
  have N0 := Fr.nil n0
  have KP0 : Keep h0 h0 [] := Keep.refl _ _
  refine ownFin (Q := oh_be_Q Z a pv ti la lo sp be al ms ac sa f v h0 n0) ?_
  refine ownStep (fun _ k => castTop (oh_be_ef m a) k) ?_
  show ownGo p.tables e below (s₁.setTop (mkF m 0 #[.val (.ref a)] [])) _
  have hC_ := hC
  obtain ⟨hC_provider, hC_time, hC_latitude, hC_longitude, hC_speed, hC_bearing, hC_altitude, hC_mslAltitude, hC_accuracy, hC_satellites⟩ := hC_
  refine ownStep (fun _ k => XS.aloadN X0.here hx rfl (hb hby oh_be_d0) rfl rfl k) ?_
  show ownGo p.tables e below (s₁.setTop (mkF m 1 #[.val (.ref a)] [(.ref a)])) _
  obtain ⟨T1, X1, e1, st1⟩ := getF X0 hx hZ hown (host := "") (Or.inl (hw _ ow159)) Via.refl e0 hC_bearing (g := (mkF m 1 #[.val (.ref a)] [(.ref a)])) rfl rfl (hb hby oh_be_d1)
  refine ownStep st1 ?_
  show ownGo p.tables e below (T1.setTop (mkF m 4 #[.val (.ref a)] [(.ref be)])) _
  have Zs3 : n0 ≤ h0.size := Nat.le_trans Z0 KP0.1
  obtain ⟨cq2, kq2, q2a, q2b, q2c⟩ := isOf hZ e1 Eo
  obtain ⟨_, _, ⟨T2, L2, k2, n2⟩, -, X2, ⟨Lc2, hQ2, l2, y2, z2⟩, st2⟩ := X1.virtualBack hx (y := (⟨"java/util/OptionalDouble", "isPresent", "()Z"⟩ : MethodName)) (z := (⟨"java/util/OptionalDouble", "isPresent", "()Z"⟩ : MethodName)) hown (mvT hZ (hw _ ow291)) (mvT hZ (hw _ ow292)) (notFace_of_selects (args := #[]) (mvT hZ (hw _ ow294))) (mvT hZ (hw _ ow294)) (mvT hZ (hw _ ow293)) (by decide) (backOf (W := 0) (own_isp l Z a0 hw [] be f v h0 n0 Zs3 hO hfb) hZ (hw _ ow295) (hw _ ow65) (by decide) (by decide)) q2a q2c (g := (mkF m 4 #[.val (.ref a)] [(.ref be)])) rfl (by rw [hml]; rfl) (Steps.refl _) (argsL := []) (rest := []) (lenOf oh_be_pd0 rfl) rfl (by show 2 * 0 + _ ≤ _; exact Nat.le_of_eq rfl) (hb hby oh_be_d4) (fun _ _ => ⟨rfl, e1, (by decide : 0 + 0 ≤ _), (by decide : 0 + 0 ≤ _)⟩)
  dsimp only [Pt.U, Pt.locs, Pt.cells, Pt.slots] at X2 l2 y2 z2 st2 hQ2
  obtain rfl : k2 = 0 := y2
  obtain rfl : n2 = 0 := z2
  obtain ⟨rfl, N2q, R2⟩ := hQ2
  have N2 : Fr n0 L2 := l2 ▸ Fr.app N0 N2q
  refine ownStep (fun _ k => st2.trans k) ?_
  show ownGo p.tables e below (T2.setTop (mkF m 7 #[.val (.ref a)] [(.int f)])) _
  exact ownRet X2 (v := some (.int (nar .boolean f))) Bd.notSynchronized (fun h => by rw [Bd.returns] at h; cases h) (fun _ hr => retN X2 hx (t := .boolean) Bd.returns (by simp) (hb hby oh_be_d7) hr) (by rw [R2]; exact ⟨(by rw [own_nb hfb]), N2, rfl⟩) (by decide) (by decide)
theorem ot_be_d0 : decode prog_5_method_20_code 0 = .ok (.aload_n 0, 1) := by decide +kernel
theorem ot_be_d1 : decode prog_5_method_20_code 1 = .ok (.getfield 72, 3) := by decide +kernel
theorem ot_be_d4 : decode prog_5_method_20_code 4 = .ok (.dconst 0, 1) := by decide +kernel
theorem ot_be_d5 : decode prog_5_method_20_code 5 = .ok (.invokevirtual 108, 3) := by decide +kernel
theorem ot_be_d8 : decode prog_5_method_20_code 8 = .ok (.d2f, 1) := by decide +kernel
theorem ot_be_d9 : decode prog_5_method_20_code 9 = .ok (.freturn, 1) := by decide +kernel
theorem ot_be_pn : plainName "com/example/fixd/fixd/client/Location" = true := by first | (simp [plainName, overriddenIn]; done) | decide +kernel
theorem ot_be_pd0 : parseMethodDescriptor "(D)D" = some ⟨[.double], some .double⟩ := by decide +kernel
theorem ot_be_ef (m : MethodId) (x0 : Addr) : entryFrame m #[(.ref x0)] 1 = mkF m 0 #[.val (.ref x0)] [] := by first | (simp [entryFrame, mkF, argsToLocals, Value.category]; done) | rfl
def ot_be_Q (Z : State) (a : Addr) (pv : Addr) (ti : Addr) (la : UInt64) (lo : UInt64) (sp : Addr) (be : Addr) (al : Addr) (ms : Addr) (ac : Addr) (sa : Addr) (f : Int32) (v : UInt64) (h0 : Heap) (n0 : Nat) (vv_ : Option Value) (hh_ : Heap) (LL_ : List Loc) : Prop := vv_ = some (.float (FP.d2f (if f = (0 : Int32) then FP.dconst0 else v))) ∧ Fr n0 LL_ ∧ hh_ = h0
set_option maxRecDepth 65536 in
set_option maxHeartbeats 40000000 in
theorem ot_be (l : Launch) (Z : State) (a0 : Array Value) (hw : ∀ d ∈ tables_1, d.before a0 Z = true) (ws : List Jvm.Cond) (a : Addr) (pv : Addr) (ti : Addr) (la : UInt64) (lo : UInt64) (sp : Addr) (be : Addr) (al : Addr) (ms : Addr) (ac : Addr) (sa : Addr) (f : Int32) (v : UInt64) (h0 : Heap) (n0 : Nat) (Z0 : n0 ≤ h0.size) (hC : Cli Z h0 a pv ti la lo sp be al ms ac sa) (hO : Opt Z h0 be f v) (Eo : Exa Z h0 be "java/util/OptionalDouble") (hfb : f = (0 : Int32) ∨ f = (1 : Int32)) (hn : NoNaN32 (FP.d2f (if f = (0 : Int32) then FP.dconst0 else v))) :
    MetFree l (⟨"com/example/fixd/fixd/client/Location", "getBearing", "()F"⟩ : MethodName) (head1 (Jvm.Cond.code (⟨"com/example/fixd/fixd/client/Location", "getBearing", "()F"⟩ : MethodName) prog_5_method_20_code 1 (some .float) :: ws) ({ frames := 1, cells := 0, slots := 0, locals := 14 } : Room)) (fun aa_ UU_ => aa_ = #[(.ref a)] ∧ Z.Warmed39 UU_.vm ∧ UU_.heap = h0) (fun _ _ _ _ _ => True) (fun _ UU_ oo_ UV_ => ∃ vv_ LL_, oo_ = .returned vv_ ∧ ot_be_Q Z a pv ti la lo sp be al ms ac sa f v h0 n0 vv_ UV_.heap LL_ ∧ FrameEnd UU_ oo_ UV_ LL_ ({ frames := 1, cells := 0, slots := 0, locals := 14 } : Room).cells ({ frames := 1, cells := 0, slots := 0, locals := 14 } : Room).slots) := by
  refine MetFree.of_bodySF (plainFor_of_name ot_be_pn) hisR ?_
  intro p e s m args below meth c s₁ Bd hml0 hP hK
  obtain ⟨rfl, hZ, hh⟩ := hP
  have hx := Bd.exec
  have hby := Bd.bytes
  have hml : c.maxLocals = 1 := hml0
  have hown : s.vm.findClass "com/example/fixd/fixd/client/Location" = some m.cls := findClass_of_methodNamed Bd.named
  have hnm := (name_of_methodNamed Bd.named Bd.method).1
  have X0 : Stand p l e ({ frames := 1, cells := 0, slots := 0, locals := 14 } : Room) s m #[(.ref a)] below meth c s₁ [] 0 0 := Stand.of_body Bd
  have e0 : s₁.heap = h0 := by rw [← hh, Bd.state]; rfl
  have N0 := Fr.nil n0
  have KP0 : Keep h0 h0 [] := Keep.refl _ _
  refine ownFin (Q := ot_be_Q Z a pv ti la lo sp be al ms ac sa f v h0 n0) ?_
  refine ownStep (fun _ k => castTop (ot_be_ef m a) k) ?_
  show ownGo p.tables e below (s₁.setTop (mkF m 0 #[.val (.ref a)] [])) _
  have hC_ := hC
  obtain ⟨hC_provider, hC_time, hC_latitude, hC_longitude, hC_speed, hC_bearing, hC_altitude, hC_mslAltitude, hC_accuracy, hC_satellites⟩ := hC_
  refine ownStep (fun _ k => XS.aloadN X0.here hx rfl (hb hby ot_be_d0) rfl rfl k) ?_
  show ownGo p.tables e below (s₁.setTop (mkF m 1 #[.val (.ref a)] [(.ref a)])) _
  obtain ⟨T1, X1, e1, st1⟩ := getF X0 hx hZ hown (host := "") (Or.inl (hw _ ow159)) Via.refl e0 hC_bearing (g := (mkF m 1 #[.val (.ref a)] [(.ref a)])) rfl rfl (hb hby ot_be_d1)
  refine ownStep st1 ?_
  refine ownStep (fun _ k => XS.dconst0 X1.here hx rfl (hb hby ot_be_d4) rfl k) ?_
  show ownGo p.tables e below (T1.setTop (mkF m 5 #[.val (.ref a)] [(.double FP.dconst0), (.ref be)])) _
  have Zs3 : n0 ≤ h0.size := Nat.le_trans Z0 KP0.1
  obtain ⟨cq2, kq2, q2a, q2b, q2c⟩ := isOf hZ e1 Eo
  obtain ⟨_, _, ⟨T2, L2, k2, n2⟩, -, X2, ⟨Lc2, hQ2, l2, y2, z2⟩, st2⟩ := X1.virtualBack hx (y := (⟨"java/util/OptionalDouble", "orElse", "(D)D"⟩ : MethodName)) (z := (⟨"java/util/OptionalDouble", "orElse", "(D)D"⟩ : MethodName)) hown (mvT hZ (hw _ ow303)) (mvT hZ (hw _ ow304)) (notFace_of_selects (args := #[]) (mvT hZ (hw _ ow306))) (mvT hZ (hw _ ow306)) (mvT hZ (hw _ ow305)) (by decide) (backOf (W := 0) (own_ore l Z a0 hw [] be f v h0 n0 Zs3 hO) hZ (hw _ ow307) (hw _ ow65) (by decide) (by decide)) q2a q2c (g := (mkF m 5 #[.val (.ref a)] [(.double FP.dconst0), (.ref be)])) rfl (by rw [hml]; rfl) (Steps.refl _) (argsL := [(.double FP.dconst0)]) (rest := []) (lenOf ot_be_pd0 rfl) rfl (by show 2 * 0 + _ ≤ _; exact Nat.le_of_eq rfl) (hb hby ot_be_d5) (fun _ _ => ⟨rfl, e1, (by decide : 0 + 0 ≤ _), (by decide : 0 + 0 ≤ _)⟩)
  dsimp only [Pt.U, Pt.locs, Pt.cells, Pt.slots] at X2 l2 y2 z2 st2 hQ2
  obtain rfl : k2 = 0 := y2
  obtain rfl : n2 = 0 := z2
  obtain ⟨rfl, N2q, R2⟩ := hQ2
  have N2 : Fr n0 L2 := l2 ▸ Fr.app N0 N2q
  refine ownStep (fun _ k => st2.trans k) ?_
  refine ownStep (fun _ k => XS.d2fS X2.here hx rfl (hb hby ot_be_d8) rfl hn rfl k) ?_
  show ownGo p.tables e below (T2.setTop (mkF m 9 #[.val (.ref a)] [(.float (FP.d2f (if f = (0 : Int32) then FP.dconst0 else v)))])) _
  exact ownRet X2 (v := some (.float (FP.d2f (if f = (0 : Int32) then FP.dconst0 else v)))) Bd.notSynchronized (fun h => by rw [Bd.returns] at h; cases h) (fun _ hr => retOut X2 hx (t := .float) Bd.returns rfl (Or.inr (Or.inr (Or.inr (Or.inl ⟨rfl, rfl, _, rfl⟩)))) (hb hby ot_be_d9) hr) (by rw [R2]; exact ⟨rfl, N2, rfl⟩) (by decide) (by decide)
theorem oh_al_d0 : decode prog_5_method_10_code 0 = .ok (.aload_n 0, 1) := by decide +kernel
theorem oh_al_d1 : decode prog_5_method_10_code 1 = .ok (.getfield 77, 3) := by decide +kernel
theorem oh_al_d4 : decode prog_5_method_10_code 4 = .ok (.invokevirtual 104, 3) := by decide +kernel
theorem oh_al_d7 : decode prog_5_method_10_code 7 = .ok (.ireturn, 1) := by decide +kernel
theorem oh_al_pn : plainName "com/example/fixd/fixd/client/Location" = true := by first | (simp [plainName, overriddenIn]; done) | decide +kernel
theorem oh_al_pd0 : parseMethodDescriptor "()Z" = some ⟨[], some .boolean⟩ := by decide +kernel
theorem oh_al_ef (m : MethodId) (x0 : Addr) : entryFrame m #[(.ref x0)] 1 = mkF m 0 #[.val (.ref x0)] [] := by first | (simp [entryFrame, mkF, argsToLocals, Value.category]; done) | rfl
def oh_al_Q (Z : State) (a : Addr) (pv : Addr) (ti : Addr) (la : UInt64) (lo : UInt64) (sp : Addr) (be : Addr) (al : Addr) (ms : Addr) (ac : Addr) (sa : Addr) (f : Int32) (v : UInt64) (h0 : Heap) (n0 : Nat) (vv_ : Option Value) (hh_ : Heap) (LL_ : List Loc) : Prop := vv_ = some (.int f) ∧ Fr n0 LL_ ∧ hh_ = h0
set_option maxRecDepth 65536 in
set_option maxHeartbeats 40000000 in
theorem oh_al (l : Launch) (Z : State) (a0 : Array Value) (hw : ∀ d ∈ tables_1, d.before a0 Z = true) (ws : List Jvm.Cond) (a : Addr) (pv : Addr) (ti : Addr) (la : UInt64) (lo : UInt64) (sp : Addr) (be : Addr) (al : Addr) (ms : Addr) (ac : Addr) (sa : Addr) (f : Int32) (v : UInt64) (h0 : Heap) (n0 : Nat) (Z0 : n0 ≤ h0.size) (hC : Cli Z h0 a pv ti la lo sp be al ms ac sa) (hO : Opt Z h0 al f v) (Eo : Exa Z h0 al "java/util/OptionalDouble") (hfb : f = (0 : Int32) ∨ f = (1 : Int32)) :
    MetFree l (⟨"com/example/fixd/fixd/client/Location", "hasAltitude", "()Z"⟩ : MethodName) (head1 (Jvm.Cond.code (⟨"com/example/fixd/fixd/client/Location", "hasAltitude", "()Z"⟩ : MethodName) prog_5_method_10_code 1 (some .boolean) :: ws) ({ frames := 1, cells := 0, slots := 0, locals := 12 } : Room)) (fun aa_ UU_ => aa_ = #[(.ref a)] ∧ Z.Warmed39 UU_.vm ∧ UU_.heap = h0) (fun _ _ _ _ _ => True) (fun _ UU_ oo_ UV_ => ∃ vv_ LL_, oo_ = .returned vv_ ∧ oh_al_Q Z a pv ti la lo sp be al ms ac sa f v h0 n0 vv_ UV_.heap LL_ ∧ FrameEnd UU_ oo_ UV_ LL_ ({ frames := 1, cells := 0, slots := 0, locals := 12 } : Room).cells ({ frames := 1, cells := 0, slots := 0, locals := 12 } : Room).slots) := by
  refine MetFree.of_bodySF (plainFor_of_name oh_al_pn) hisR ?_
  intro p e s m args below meth c s₁ Bd hml0 hP hK
  obtain ⟨rfl, hZ, hh⟩ := hP
  have hx := Bd.exec
  have hby := Bd.bytes
  have hml : c.maxLocals = 1 := hml0
  have hown : s.vm.findClass "com/example/fixd/fixd/client/Location" = some m.cls := findClass_of_methodNamed Bd.named
  have hnm := (name_of_methodNamed Bd.named Bd.method).1
  have X0 : Stand p l e ({ frames := 1, cells := 0, slots := 0, locals := 12 } : Room) s m #[(.ref a)] below meth c s₁ [] 0 0 := Stand.of_body Bd
  have e0 : s₁.heap = h0 := by rw [← hh, Bd.state]; rfl
  have N0 := Fr.nil n0
  have KP0 : Keep h0 h0 [] := Keep.refl _ _
  refine ownFin (Q := oh_al_Q Z a pv ti la lo sp be al ms ac sa f v h0 n0) ?_
  refine ownStep (fun _ k => castTop (oh_al_ef m a) k) ?_
  show ownGo p.tables e below (s₁.setTop (mkF m 0 #[.val (.ref a)] [])) _
  have hC_ := hC
  obtain ⟨hC_provider, hC_time, hC_latitude, hC_longitude, hC_speed, hC_bearing, hC_altitude, hC_mslAltitude, hC_accuracy, hC_satellites⟩ := hC_
  refine ownStep (fun _ k => XS.aloadN X0.here hx rfl (hb hby oh_al_d0) rfl rfl k) ?_
  show ownGo p.tables e below (s₁.setTop (mkF m 1 #[.val (.ref a)] [(.ref a)])) _
  obtain ⟨T1, X1, e1, st1⟩ := getF X0 hx hZ hown (host := "") (Or.inl (hw _ ow166)) Via.refl e0 hC_altitude (g := (mkF m 1 #[.val (.ref a)] [(.ref a)])) rfl rfl (hb hby oh_al_d1)
  refine ownStep st1 ?_
  show ownGo p.tables e below (T1.setTop (mkF m 4 #[.val (.ref a)] [(.ref al)])) _
  have Zs3 : n0 ≤ h0.size := Nat.le_trans Z0 KP0.1
  obtain ⟨cq2, kq2, q2a, q2b, q2c⟩ := isOf hZ e1 Eo
  obtain ⟨_, _, ⟨T2, L2, k2, n2⟩, -, X2, ⟨Lc2, hQ2, l2, y2, z2⟩, st2⟩ := X1.virtualBack hx (y := (⟨"java/util/OptionalDouble", "isPresent", "()Z"⟩ : MethodName)) (z := (⟨"java/util/OptionalDouble", "isPresent", "()Z"⟩ : MethodName)) hown (mvT hZ (hw _ ow291)) (mvT hZ (hw _ ow292)) (notFace_of_selects (args := #[]) (mvT hZ (hw _ ow294))) (mvT hZ (hw _ ow294)) (mvT hZ (hw _ ow293)) (by decide) (backOf (W := 0) (own_isp l Z a0 hw [] al f v h0 n0 Zs3 hO hfb) hZ (hw _ ow295) (hw _ ow65) (by decide) (by decide)) q2a q2c (g := (mkF m 4 #[.val (.ref a)] [(.ref al)])) rfl (by rw [hml]; rfl) (Steps.refl _) (argsL := []) (rest := []) (lenOf oh_al_pd0 rfl) rfl (by show 2 * 0 + _ ≤ _; exact Nat.le_of_eq rfl) (hb hby oh_al_d4) (fun _ _ => ⟨rfl, e1, (by decide : 0 + 0 ≤ _), (by decide : 0 + 0 ≤ _)⟩)
  dsimp only [Pt.U, Pt.locs, Pt.cells, Pt.slots] at X2 l2 y2 z2 st2 hQ2
  obtain rfl : k2 = 0 := y2
  obtain rfl : n2 = 0 := z2
  obtain ⟨rfl, N2q, R2⟩ := hQ2
  have N2 : Fr n0 L2 := l2 ▸ Fr.app N0 N2q
  refine ownStep (fun _ k => st2.trans k) ?_
  show ownGo p.tables e below (T2.setTop (mkF m 7 #[.val (.ref a)] [(.int f)])) _
  exact ownRet X2 (v := some (.int (nar .boolean f))) Bd.notSynchronized (fun h => by rw [Bd.returns] at h; cases h) (fun _ hr => retN X2 hx (t := .boolean) Bd.returns (by simp) (hb hby oh_al_d7) hr) (by rw [R2]; exact ⟨(by rw [own_nb hfb]), N2, rfl⟩) (by decide) (by decide)
theorem ot_al_d0 : decode prog_5_method_11_code 0 = .ok (.aload_n 0, 1) := by decide +kernel
theorem ot_al_d1 : decode prog_5_method_11_code 1 = .ok (.getfield 77, 3) := by decide +kernel
theorem ot_al_d4 : decode prog_5_method_11_code 4 = .ok (.dconst 0, 1) := by decide +kernel
theorem ot_al_d5 : decode prog_5_method_11_code 5 = .ok (.invokevirtual 108, 3) := by decide +kernel
theorem ot_al_d8 : decode prog_5_method_11_code 8 = .ok (.dreturn, 1) := by decide +kernel
theorem ot_al_pn : plainName "com/example/fixd/fixd/client/Location" = true := by first | (simp [plainName, overriddenIn]; done) | decide +kernel
theorem ot_al_pd0 : parseMethodDescriptor "(D)D" = some ⟨[.double], some .double⟩ := by decide +kernel
theorem ot_al_ef (m : MethodId) (x0 : Addr) : entryFrame m #[(.ref x0)] 1 = mkF m 0 #[.val (.ref x0)] [] := by first | (simp [entryFrame, mkF, argsToLocals, Value.category]; done) | rfl
def ot_al_Q (Z : State) (a : Addr) (pv : Addr) (ti : Addr) (la : UInt64) (lo : UInt64) (sp : Addr) (be : Addr) (al : Addr) (ms : Addr) (ac : Addr) (sa : Addr) (f : Int32) (v : UInt64) (h0 : Heap) (n0 : Nat) (vv_ : Option Value) (hh_ : Heap) (LL_ : List Loc) : Prop := vv_ = some (.double (if f = (0 : Int32) then FP.dconst0 else v)) ∧ Fr n0 LL_ ∧ hh_ = h0
set_option maxRecDepth 65536 in
set_option maxHeartbeats 40000000 in
theorem ot_al (l : Launch) (Z : State) (a0 : Array Value) (hw : ∀ d ∈ tables_1, d.before a0 Z = true) (ws : List Jvm.Cond) (a : Addr) (pv : Addr) (ti : Addr) (la : UInt64) (lo : UInt64) (sp : Addr) (be : Addr) (al : Addr) (ms : Addr) (ac : Addr) (sa : Addr) (f : Int32) (v : UInt64) (h0 : Heap) (n0 : Nat) (Z0 : n0 ≤ h0.size) (hC : Cli Z h0 a pv ti la lo sp be al ms ac sa) (hO : Opt Z h0 al f v) (Eo : Exa Z h0 al "java/util/OptionalDouble") (hfb : f = (0 : Int32) ∨ f = (1 : Int32)) :
    MetFree l (⟨"com/example/fixd/fixd/client/Location", "getAltitude", "()D"⟩ : MethodName) (head1 (Jvm.Cond.code (⟨"com/example/fixd/fixd/client/Location", "getAltitude", "()D"⟩ : MethodName) prog_5_method_11_code 1 (some .double) :: ws) ({ frames := 1, cells := 0, slots := 0, locals := 14 } : Room)) (fun aa_ UU_ => aa_ = #[(.ref a)] ∧ Z.Warmed39 UU_.vm ∧ UU_.heap = h0) (fun _ _ _ _ _ => True) (fun _ UU_ oo_ UV_ => ∃ vv_ LL_, oo_ = .returned vv_ ∧ ot_al_Q Z a pv ti la lo sp be al ms ac sa f v h0 n0 vv_ UV_.heap LL_ ∧ FrameEnd UU_ oo_ UV_ LL_ ({ frames := 1, cells := 0, slots := 0, locals := 14 } : Room).cells ({ frames := 1, cells := 0, slots := 0, locals := 14 } : Room).slots) := by
  refine MetFree.of_bodySF (plainFor_of_name ot_al_pn) hisR ?_
  intro p e s m args below meth c s₁ Bd hml0 hP hK
  obtain ⟨rfl, hZ, hh⟩ := hP
  have hx := Bd.exec
  have hby := Bd.bytes
  have hml : c.maxLocals = 1 := hml0
  have hown : s.vm.findClass "com/example/fixd/fixd/client/Location" = some m.cls := findClass_of_methodNamed Bd.named
  have hnm := (name_of_methodNamed Bd.named Bd.method).1
  have X0 : Stand p l e ({ frames := 1, cells := 0, slots := 0, locals := 14 } : Room) s m #[(.ref a)] below meth c s₁ [] 0 0 := Stand.of_body Bd
  have e0 : s₁.heap = h0 := by rw [← hh, Bd.state]; rfl
  have N0 := Fr.nil n0
  have KP0 : Keep h0 h0 [] := Keep.refl _ _
  refine ownFin (Q := ot_al_Q Z a pv ti la lo sp be al ms ac sa f v h0 n0) ?_
  refine ownStep (fun _ k => castTop (ot_al_ef m a) k) ?_
  show ownGo p.tables e below (s₁.setTop (mkF m 0 #[.val (.ref a)] [])) _
  have hC_ := hC
  obtain ⟨hC_provider, hC_time, hC_latitude, hC_longitude, hC_speed, hC_bearing, hC_altitude, hC_mslAltitude, hC_accuracy, hC_satellites⟩ := hC_
  refine ownStep (fun _ k => XS.aloadN X0.here hx rfl (hb hby ot_al_d0) rfl rfl k) ?_
  show ownGo p.tables e below (s₁.setTop (mkF m 1 #[.val (.ref a)] [(.ref a)])) _
  obtain ⟨T1, X1, e1, st1⟩ := getF X0 hx hZ hown (host := "") (Or.inl (hw _ ow166)) Via.refl e0 hC_altitude (g := (mkF m 1 #[.val (.ref a)] [(.ref a)])) rfl rfl (hb hby ot_al_d1)
  refine ownStep st1 ?_
  refine ownStep (fun _ k => XS.dconst0 X1.here hx rfl (hb hby ot_al_d4) rfl k) ?_
  show ownGo p.tables e below (T1.setTop (mkF m 5 #[.val (.ref a)] [(.double FP.dconst0), (.ref al)])) _
  have Zs3 : n0 ≤ h0.size := Nat.le_trans Z0 KP0.1
  obtain ⟨cq2, kq2, q2a, q2b, q2c⟩ := isOf hZ e1 Eo
  obtain ⟨_, _, ⟨T2, L2, k2, n2⟩, -, X2, ⟨Lc2, hQ2, l2, y2, z2⟩, st2⟩ := X1.virtualBack hx (y := (⟨"java/util/OptionalDouble", "orElse", "(D)D"⟩ : MethodName)) (z := (⟨"java/util/OptionalDouble", "orElse", "(D)D"⟩ : MethodName)) hown (mvT hZ (hw _ ow303)) (mvT hZ (hw _ ow304)) (notFace_of_selects (args := #[]) (mvT hZ (hw _ ow306))) (mvT hZ (hw _ ow306)) (mvT hZ (hw _ ow305)) (by decide) (backOf (W := 0) (own_ore l Z a0 hw [] al f v h0 n0 Zs3 hO) hZ (hw _ ow307) (hw _ ow65) (by decide) (by decide)) q2a q2c (g := (mkF m 5 #[.val (.ref a)] [(.double FP.dconst0), (.ref al)])) rfl (by rw [hml]; rfl) (Steps.refl _) (argsL := [(.double FP.dconst0)]) (rest := []) (lenOf ot_al_pd0 rfl) rfl (by show 2 * 0 + _ ≤ _; exact Nat.le_of_eq rfl) (hb hby ot_al_d5) (fun _ _ => ⟨rfl, e1, (by decide : 0 + 0 ≤ _), (by decide : 0 + 0 ≤ _)⟩)
  dsimp only [Pt.U, Pt.locs, Pt.cells, Pt.slots] at X2 l2 y2 z2 st2 hQ2
  obtain rfl : k2 = 0 := y2
  obtain rfl : n2 = 0 := z2
  obtain ⟨rfl, N2q, R2⟩ := hQ2
  have N2 : Fr n0 L2 := l2 ▸ Fr.app N0 N2q
  refine ownStep (fun _ k => st2.trans k) ?_
  show ownGo p.tables e below (T2.setTop (mkF m 8 #[.val (.ref a)] [(.double (if f = (0 : Int32) then FP.dconst0 else v))])) _
  exact ownRet X2 (v := some (.double (if f = (0 : Int32) then FP.dconst0 else v))) Bd.notSynchronized (fun h => by rw [Bd.returns] at h; cases h) (fun _ hr => retOut X2 hx (t := .double) Bd.returns rfl (Or.inr (Or.inr (Or.inl ⟨rfl, rfl, _, rfl⟩))) (hb hby ot_al_d8) hr) (by rw [R2]; exact ⟨rfl, N2, rfl⟩) (by decide) (by decide)
theorem oh_ms_d0 : decode prog_5_method_13_code 0 = .ok (.aload_n 0, 1) := by decide +kernel
theorem oh_ms_d1 : decode prog_5_method_13_code 1 = .ok (.getfield 82, 3) := by decide +kernel
theorem oh_ms_d4 : decode prog_5_method_13_code 4 = .ok (.invokevirtual 104, 3) := by decide +kernel
theorem oh_ms_d7 : decode prog_5_method_13_code 7 = .ok (.ireturn, 1) := by decide +kernel
theorem oh_ms_pn : plainName "com/example/fixd/fixd/client/Location" = true := by first | (simp [plainName, overriddenIn]; done) | decide +kernel
theorem oh_ms_pd0 : parseMethodDescriptor "()Z" = some ⟨[], some .boolean⟩ := by decide +kernel
theorem oh_ms_ef (m : MethodId) (x0 : Addr) : entryFrame m #[(.ref x0)] 1 = mkF m 0 #[.val (.ref x0)] [] := by first | (simp [entryFrame, mkF, argsToLocals, Value.category]; done) | rfl
def oh_ms_Q (Z : State) (a : Addr) (pv : Addr) (ti : Addr) (la : UInt64) (lo : UInt64) (sp : Addr) (be : Addr) (al : Addr) (ms : Addr) (ac : Addr) (sa : Addr) (f : Int32) (v : UInt64) (h0 : Heap) (n0 : Nat) (vv_ : Option Value) (hh_ : Heap) (LL_ : List Loc) : Prop := vv_ = some (.int f) ∧ Fr n0 LL_ ∧ hh_ = h0
set_option maxRecDepth 65536 in
set_option maxHeartbeats 40000000 in
theorem oh_ms (l : Launch) (Z : State) (a0 : Array Value) (hw : ∀ d ∈ tables_1, d.before a0 Z = true) (ws : List Jvm.Cond) (a : Addr) (pv : Addr) (ti : Addr) (la : UInt64) (lo : UInt64) (sp : Addr) (be : Addr) (al : Addr) (ms : Addr) (ac : Addr) (sa : Addr) (f : Int32) (v : UInt64) (h0 : Heap) (n0 : Nat) (Z0 : n0 ≤ h0.size) (hC : Cli Z h0 a pv ti la lo sp be al ms ac sa) (hO : Opt Z h0 ms f v) (Eo : Exa Z h0 ms "java/util/OptionalDouble") (hfb : f = (0 : Int32) ∨ f = (1 : Int32)) :
    MetFree l (⟨"com/example/fixd/fixd/client/Location", "hasMslAltitude", "()Z"⟩ : MethodName) (head1 (Jvm.Cond.code (⟨"com/example/fixd/fixd/client/Location", "hasMslAltitude", "()Z"⟩ : MethodName) prog_5_method_13_code 1 (some .boolean) :: ws) ({ frames := 1, cells := 0, slots := 0, locals := 12 } : Room)) (fun aa_ UU_ => aa_ = #[(.ref a)] ∧ Z.Warmed39 UU_.vm ∧ UU_.heap = h0) (fun _ _ _ _ _ => True) (fun _ UU_ oo_ UV_ => ∃ vv_ LL_, oo_ = .returned vv_ ∧ oh_ms_Q Z a pv ti la lo sp be al ms ac sa f v h0 n0 vv_ UV_.heap LL_ ∧ FrameEnd UU_ oo_ UV_ LL_ ({ frames := 1, cells := 0, slots := 0, locals := 12 } : Room).cells ({ frames := 1, cells := 0, slots := 0, locals := 12 } : Room).slots) := by
  refine MetFree.of_bodySF (plainFor_of_name oh_ms_pn) hisR ?_
  intro p e s m args below meth c s₁ Bd hml0 hP hK
  obtain ⟨rfl, hZ, hh⟩ := hP
  have hx := Bd.exec
  have hby := Bd.bytes
  have hml : c.maxLocals = 1 := hml0
  have hown : s.vm.findClass "com/example/fixd/fixd/client/Location" = some m.cls := findClass_of_methodNamed Bd.named
  have hnm := (name_of_methodNamed Bd.named Bd.method).1
  have X0 : Stand p l e ({ frames := 1, cells := 0, slots := 0, locals := 12 } : Room) s m #[(.ref a)] below meth c s₁ [] 0 0 := Stand.of_body Bd
  have e0 : s₁.heap = h0 := by rw [← hh, Bd.state]; rfl
  have N0 := Fr.nil n0
  have KP0 : Keep h0 h0 [] := Keep.refl _ _
  refine ownFin (Q := oh_ms_Q Z a pv ti la lo sp be al ms ac sa f v h0 n0) ?_
  refine ownStep (fun _ k => castTop (oh_ms_ef m a) k) ?_
  show ownGo p.tables e below (s₁.setTop (mkF m 0 #[.val (.ref a)] [])) _
  have hC_ := hC
  obtain ⟨hC_provider, hC_time, hC_latitude, hC_longitude, hC_speed, hC_bearing, hC_altitude, hC_mslAltitude, hC_accuracy, hC_satellites⟩ := hC_
  refine ownStep (fun _ k => XS.aloadN X0.here hx rfl (hb hby oh_ms_d0) rfl rfl k) ?_
  show ownGo p.tables e below (s₁.setTop (mkF m 1 #[.val (.ref a)] [(.ref a)])) _
  obtain ⟨T1, X1, e1, st1⟩ := getF X0 hx hZ hown (host := "") (Or.inl (hw _ ow173)) Via.refl e0 hC_mslAltitude (g := (mkF m 1 #[.val (.ref a)] [(.ref a)])) rfl rfl (hb hby oh_ms_d1)
  refine ownStep st1 ?_
  show ownGo p.tables e below (T1.setTop (mkF m 4 #[.val (.ref a)] [(.ref ms)])) _
  have Zs3 : n0 ≤ h0.size := Nat.le_trans Z0 KP0.1
  obtain ⟨cq2, kq2, q2a, q2b, q2c⟩ := isOf hZ e1 Eo
  obtain ⟨_, _, ⟨T2, L2, k2, n2⟩, -, X2, ⟨Lc2, hQ2, l2, y2, z2⟩, st2⟩ := X1.virtualBack hx (y := (⟨"java/util/OptionalDouble", "isPresent", "()Z"⟩ : MethodName)) (z := (⟨"java/util/OptionalDouble", "isPresent", "()Z"⟩ : MethodName)) hown (mvT hZ (hw _ ow291)) (mvT hZ (hw _ ow292)) (notFace_of_selects (args := #[]) (mvT hZ (hw _ ow294))) (mvT hZ (hw _ ow294)) (mvT hZ (hw _ ow293)) (by decide) (backOf (W := 0) (own_isp l Z a0 hw [] ms f v h0 n0 Zs3 hO hfb) hZ (hw _ ow295) (hw _ ow65) (by decide) (by decide)) q2a q2c (g := (mkF m 4 #[.val (.ref a)] [(.ref ms)])) rfl (by rw [hml]; rfl) (Steps.refl _) (argsL := []) (rest := []) (lenOf oh_ms_pd0 rfl) rfl (by show 2 * 0 + _ ≤ _; exact Nat.le_of_eq rfl) (hb hby oh_ms_d4) (fun _ _ => ⟨rfl, e1, (by decide : 0 + 0 ≤ _), (by decide : 0 + 0 ≤ _)⟩)
  dsimp only [Pt.U, Pt.locs, Pt.cells, Pt.slots] at X2 l2 y2 z2 st2 hQ2
  obtain rfl : k2 = 0 := y2
  obtain rfl : n2 = 0 := z2
  obtain ⟨rfl, N2q, R2⟩ := hQ2
  have N2 : Fr n0 L2 := l2 ▸ Fr.app N0 N2q
  refine ownStep (fun _ k => st2.trans k) ?_
  show ownGo p.tables e below (T2.setTop (mkF m 7 #[.val (.ref a)] [(.int f)])) _
  exact ownRet X2 (v := some (.int (nar .boolean f))) Bd.notSynchronized (fun h => by rw [Bd.returns] at h; cases h) (fun _ hr => retN X2 hx (t := .boolean) Bd.returns (by simp) (hb hby oh_ms_d7) hr) (by rw [R2]; exact ⟨(by rw [own_nb hfb]), N2, rfl⟩) (by decide) (by decide)
theorem ot_ms_d0 : decode prog_5_method_14_code 0 = .ok (.aload_n 0, 1) := by decide +kernel
theorem ot_ms_d1 : decode prog_5_method_14_code 1 = .ok (.getfield 82, 3) := by decide +kernel
theorem ot_ms_d4 : decode prog_5_method_14_code 4 = .ok (.dconst 0, 1) := by decide +kernel
theorem ot_ms_d5 : decode prog_5_method_14_code 5 = .ok (.invokevirtual 108, 3) := by decide +kernel
theorem ot_ms_d8 : decode prog_5_method_14_code 8 = .ok (.dreturn, 1) := by decide +kernel
theorem ot_ms_pn : plainName "com/example/fixd/fixd/client/Location" = true := by first | (simp [plainName, overriddenIn]; done) | decide +kernel
theorem ot_ms_pd0 : parseMethodDescriptor "(D)D" = some ⟨[.double], some .double⟩ := by decide +kernel
theorem ot_ms_ef (m : MethodId) (x0 : Addr) : entryFrame m #[(.ref x0)] 1 = mkF m 0 #[.val (.ref x0)] [] := by first | (simp [entryFrame, mkF, argsToLocals, Value.category]; done) | rfl
def ot_ms_Q (Z : State) (a : Addr) (pv : Addr) (ti : Addr) (la : UInt64) (lo : UInt64) (sp : Addr) (be : Addr) (al : Addr) (ms : Addr) (ac : Addr) (sa : Addr) (f : Int32) (v : UInt64) (h0 : Heap) (n0 : Nat) (vv_ : Option Value) (hh_ : Heap) (LL_ : List Loc) : Prop := vv_ = some (.double (if f = (0 : Int32) then FP.dconst0 else v)) ∧ Fr n0 LL_ ∧ hh_ = h0
set_option maxRecDepth 65536 in
set_option maxHeartbeats 40000000 in
theorem ot_ms (l : Launch) (Z : State) (a0 : Array Value) (hw : ∀ d ∈ tables_1, d.before a0 Z = true) (ws : List Jvm.Cond) (a : Addr) (pv : Addr) (ti : Addr) (la : UInt64) (lo : UInt64) (sp : Addr) (be : Addr) (al : Addr) (ms : Addr) (ac : Addr) (sa : Addr) (f : Int32) (v : UInt64) (h0 : Heap) (n0 : Nat) (Z0 : n0 ≤ h0.size) (hC : Cli Z h0 a pv ti la lo sp be al ms ac sa) (hO : Opt Z h0 ms f v) (Eo : Exa Z h0 ms "java/util/OptionalDouble") (hfb : f = (0 : Int32) ∨ f = (1 : Int32)) :
    MetFree l (⟨"com/example/fixd/fixd/client/Location", "getMslAltitude", "()D"⟩ : MethodName) (head1 (Jvm.Cond.code (⟨"com/example/fixd/fixd/client/Location", "getMslAltitude", "()D"⟩ : MethodName) prog_5_method_14_code 1 (some .double) :: ws) ({ frames := 1, cells := 0, slots := 0, locals := 14 } : Room)) (fun aa_ UU_ => aa_ = #[(.ref a)] ∧ Z.Warmed39 UU_.vm ∧ UU_.heap = h0) (fun _ _ _ _ _ => True) (fun _ UU_ oo_ UV_ => ∃ vv_ LL_, oo_ = .returned vv_ ∧ ot_ms_Q Z a pv ti la lo sp be al ms ac sa f v h0 n0 vv_ UV_.heap LL_ ∧ FrameEnd UU_ oo_ UV_ LL_ ({ frames := 1, cells := 0, slots := 0, locals := 14 } : Room).cells ({ frames := 1, cells := 0, slots := 0, locals := 14 } : Room).slots) := by
  refine MetFree.of_bodySF (plainFor_of_name ot_ms_pn) hisR ?_
  intro p e s m args below meth c s₁ Bd hml0 hP hK
  obtain ⟨rfl, hZ, hh⟩ := hP
  have hx := Bd.exec
  have hby := Bd.bytes
  have hml : c.maxLocals = 1 := hml0
  have hown : s.vm.findClass "com/example/fixd/fixd/client/Location" = some m.cls := findClass_of_methodNamed Bd.named
  have hnm := (name_of_methodNamed Bd.named Bd.method).1
  have X0 : Stand p l e ({ frames := 1, cells := 0, slots := 0, locals := 14 } : Room) s m #[(.ref a)] below meth c s₁ [] 0 0 := Stand.of_body Bd
  have e0 : s₁.heap = h0 := by rw [← hh, Bd.state]; rfl
  have N0 := Fr.nil n0
  have KP0 : Keep h0 h0 [] := Keep.refl _ _
  refine ownFin (Q := ot_ms_Q Z a pv ti la lo sp be al ms ac sa f v h0 n0) ?_
  refine ownStep (fun _ k => castTop (ot_ms_ef m a) k) ?_
  show ownGo p.tables e below (s₁.setTop (mkF m 0 #[.val (.ref a)] [])) _
  have hC_ := hC
  obtain ⟨hC_provider, hC_time, hC_latitude, hC_longitude, hC_speed, hC_bearing, hC_altitude, hC_mslAltitude, hC_accuracy, hC_satellites⟩ := hC_
  refine ownStep (fun _ k => XS.aloadN X0.here hx rfl (hb hby ot_ms_d0) rfl rfl k) ?_
  show ownGo p.tables e below (s₁.setTop (mkF m 1 #[.val (.ref a)] [(.ref a)])) _
  obtain ⟨T1, X1, e1, st1⟩ := getF X0 hx hZ hown (host := "") (Or.inl (hw _ ow173)) Via.refl e0 hC_mslAltitude (g := (mkF m 1 #[.val (.ref a)] [(.ref a)])) rfl rfl (hb hby ot_ms_d1)
  refine ownStep st1 ?_
  refine ownStep (fun _ k => XS.dconst0 X1.here hx rfl (hb hby ot_ms_d4) rfl k) ?_
  show ownGo p.tables e below (T1.setTop (mkF m 5 #[.val (.ref a)] [(.double FP.dconst0), (.ref ms)])) _
  have Zs3 : n0 ≤ h0.size := Nat.le_trans Z0 KP0.1
  obtain ⟨cq2, kq2, q2a, q2b, q2c⟩ := isOf hZ e1 Eo
  obtain ⟨_, _, ⟨T2, L2, k2, n2⟩, -, X2, ⟨Lc2, hQ2, l2, y2, z2⟩, st2⟩ := X1.virtualBack hx (y := (⟨"java/util/OptionalDouble", "orElse", "(D)D"⟩ : MethodName)) (z := (⟨"java/util/OptionalDouble", "orElse", "(D)D"⟩ : MethodName)) hown (mvT hZ (hw _ ow303)) (mvT hZ (hw _ ow304)) (notFace_of_selects (args := #[]) (mvT hZ (hw _ ow306))) (mvT hZ (hw _ ow306)) (mvT hZ (hw _ ow305)) (by decide) (backOf (W := 0) (own_ore l Z a0 hw [] ms f v h0 n0 Zs3 hO) hZ (hw _ ow307) (hw _ ow65) (by decide) (by decide)) q2a q2c (g := (mkF m 5 #[.val (.ref a)] [(.double FP.dconst0), (.ref ms)])) rfl (by rw [hml]; rfl) (Steps.refl _) (argsL := [(.double FP.dconst0)]) (rest := []) (lenOf ot_ms_pd0 rfl) rfl (by show 2 * 0 + _ ≤ _; exact Nat.le_of_eq rfl) (hb hby ot_ms_d5) (fun _ _ => ⟨rfl, e1, (by decide : 0 + 0 ≤ _), (by decide : 0 + 0 ≤ _)⟩)
  dsimp only [Pt.U, Pt.locs, Pt.cells, Pt.slots] at X2 l2 y2 z2 st2 hQ2
  obtain rfl : k2 = 0 := y2
  obtain rfl : n2 = 0 := z2
  obtain ⟨rfl, N2q, R2⟩ := hQ2
  have N2 : Fr n0 L2 := l2 ▸ Fr.app N0 N2q
  refine ownStep (fun _ k => st2.trans k) ?_
  show ownGo p.tables e below (T2.setTop (mkF m 8 #[.val (.ref a)] [(.double (if f = (0 : Int32) then FP.dconst0 else v))])) _
  exact ownRet X2 (v := some (.double (if f = (0 : Int32) then FP.dconst0 else v))) Bd.notSynchronized (fun h => by rw [Bd.returns] at h; cases h) (fun _ hr => retOut X2 hx (t := .double) Bd.returns rfl (Or.inr (Or.inr (Or.inl ⟨rfl, rfl, _, rfl⟩))) (hb hby ot_ms_d8) hr) (by rw [R2]; exact ⟨rfl, N2, rfl⟩) (by decide) (by decide)
theorem oh_ac_d0 : decode prog_5_method_22_code 0 = .ok (.aload_n 0, 1) := by decide +kernel
theorem oh_ac_d1 : decode prog_5_method_22_code 1 = .ok (.getfield 87, 3) := by decide +kernel
theorem oh_ac_d4 : decode prog_5_method_22_code 4 = .ok (.invokevirtual 104, 3) := by decide +kernel
theorem oh_ac_d7 : decode prog_5_method_22_code 7 = .ok (.ireturn, 1) := by decide +kernel
theorem oh_ac_pn : plainName "com/example/fixd/fixd/client/Location" = true := by first | (simp [plainName, overriddenIn]; done) | decide +kernel
theorem oh_ac_pd0 : parseMethodDescriptor "()Z" = some ⟨[], some .boolean⟩ := by decide +kernel
theorem oh_ac_ef (m : MethodId) (x0 : Addr) : entryFrame m #[(.ref x0)] 1 = mkF m 0 #[.val (.ref x0)] [] := by first | (simp [entryFrame, mkF, argsToLocals, Value.category]; done) | rfl
def oh_ac_Q (Z : State) (a : Addr) (pv : Addr) (ti : Addr) (la : UInt64) (lo : UInt64) (sp : Addr) (be : Addr) (al : Addr) (ms : Addr) (ac : Addr) (sa : Addr) (f : Int32) (v : UInt64) (h0 : Heap) (n0 : Nat) (vv_ : Option Value) (hh_ : Heap) (LL_ : List Loc) : Prop := vv_ = some (.int f) ∧ Fr n0 LL_ ∧ hh_ = h0
set_option maxRecDepth 65536 in
set_option maxHeartbeats 40000000 in
theorem oh_ac (l : Launch) (Z : State) (a0 : Array Value) (hw : ∀ d ∈ tables_1, d.before a0 Z = true) (ws : List Jvm.Cond) (a : Addr) (pv : Addr) (ti : Addr) (la : UInt64) (lo : UInt64) (sp : Addr) (be : Addr) (al : Addr) (ms : Addr) (ac : Addr) (sa : Addr) (f : Int32) (v : UInt64) (h0 : Heap) (n0 : Nat) (Z0 : n0 ≤ h0.size) (hC : Cli Z h0 a pv ti la lo sp be al ms ac sa) (hO : Opt Z h0 ac f v) (Eo : Exa Z h0 ac "java/util/OptionalDouble") (hfb : f = (0 : Int32) ∨ f = (1 : Int32)) :
    MetFree l (⟨"com/example/fixd/fixd/client/Location", "hasAccuracy", "()Z"⟩ : MethodName) (head1 (Jvm.Cond.code (⟨"com/example/fixd/fixd/client/Location", "hasAccuracy", "()Z"⟩ : MethodName) prog_5_method_22_code 1 (some .boolean) :: ws) ({ frames := 1, cells := 0, slots := 0, locals := 12 } : Room)) (fun aa_ UU_ => aa_ = #[(.ref a)] ∧ Z.Warmed39 UU_.vm ∧ UU_.heap = h0) (fun _ _ _ _ _ => True) (fun _ UU_ oo_ UV_ => ∃ vv_ LL_, oo_ = .returned vv_ ∧ oh_ac_Q Z a pv ti la lo sp be al ms ac sa f v h0 n0 vv_ UV_.heap LL_ ∧ FrameEnd UU_ oo_ UV_ LL_ ({ frames := 1, cells := 0, slots := 0, locals := 12 } : Room).cells ({ frames := 1, cells := 0, slots := 0, locals := 12 } : Room).slots) := by
  refine MetFree.of_bodySF (plainFor_of_name oh_ac_pn) hisR ?_
  intro p e s m args below meth c s₁ Bd hml0 hP hK
  obtain ⟨rfl, hZ, hh⟩ := hP
  have hx := Bd.exec
  have hby := Bd.bytes
  have hml : c.maxLocals = 1 := hml0
  have hown : s.vm.findClass "com/example/fixd/fixd/client/Location" = some m.cls := findClass_of_methodNamed Bd.named
  have hnm := (name_of_methodNamed Bd.named Bd.method).1
  have X0 : Stand p l e ({ frames := 1, cells := 0, slots := 0, locals := 12 } : Room) s m #[(.ref a)] below meth c s₁ [] 0 0 := Stand.of_body Bd
  have e0 : s₁.heap = h0 := by rw [← hh, Bd.state]; rfl
  have N0 := Fr.nil n0
  have KP0 : Keep h0 h0 [] := Keep.refl _ _
  refine ownFin (Q := oh_ac_Q Z a pv ti la lo sp be al ms ac sa f v h0 n0) ?_
  refine ownStep (fun _ k => castTop (oh_ac_ef m a) k) ?_
  show ownGo p.tables e below (s₁.setTop (mkF m 0 #[.val (.ref a)] [])) _
  have hC_ := hC
  obtain ⟨hC_provider, hC_time, hC_latitude, hC_longitude, hC_speed, hC_bearing, hC_altitude, hC_mslAltitude, hC_accuracy, hC_satellites⟩ := hC_
  refine ownStep (fun _ k => XS.aloadN X0.here hx rfl (hb hby oh_ac_d0) rfl rfl k) ?_
  show ownGo p.tables e below (s₁.setTop (mkF m 1 #[.val (.ref a)] [(.ref a)])) _
  obtain ⟨T1, X1, e1, st1⟩ := getF X0 hx hZ hown (host := "") (Or.inl (hw _ ow180)) Via.refl e0 hC_accuracy (g := (mkF m 1 #[.val (.ref a)] [(.ref a)])) rfl rfl (hb hby oh_ac_d1)
  refine ownStep st1 ?_
  show ownGo p.tables e below (T1.setTop (mkF m 4 #[.val (.ref a)] [(.ref ac)])) _
  have Zs3 : n0 ≤ h0.size := Nat.le_trans Z0 KP0.1
  obtain ⟨cq2, kq2, q2a, q2b, q2c⟩ := isOf hZ e1 Eo
  obtain ⟨_, _, ⟨T2, L2, k2, n2⟩, -, X2, ⟨Lc2, hQ2, l2, y2, z2⟩, st2⟩ := X1.virtualBack hx (y := (⟨"java/util/OptionalDouble", "isPresent", "()Z"⟩ : MethodName)) (z := (⟨"java/util/OptionalDouble", "isPresent", "()Z"⟩ : MethodName)) hown (mvT hZ (hw _ ow291)) (mvT hZ (hw _ ow292)) (notFace_of_selects (args := #[]) (mvT hZ (hw _ ow294))) (mvT hZ (hw _ ow294)) (mvT hZ (hw _ ow293)) (by decide) (backOf (W := 0) (own_isp l Z a0 hw [] ac f v h0 n0 Zs3 hO hfb) hZ (hw _ ow295) (hw _ ow65) (by decide) (by decide)) q2a q2c (g := (mkF m 4 #[.val (.ref a)] [(.ref ac)])) rfl (by rw [hml]; rfl) (Steps.refl _) (argsL := []) (rest := []) (lenOf oh_ac_pd0 rfl) rfl (by show 2 * 0 + _ ≤ _; exact Nat.le_of_eq rfl) (hb hby oh_ac_d4) (fun _ _ => ⟨rfl, e1, (by decide : 0 + 0 ≤ _), (by decide : 0 + 0 ≤ _)⟩)
  dsimp only [Pt.U, Pt.locs, Pt.cells, Pt.slots] at X2 l2 y2 z2 st2 hQ2
  obtain rfl : k2 = 0 := y2
  obtain rfl : n2 = 0 := z2
  obtain ⟨rfl, N2q, R2⟩ := hQ2
  have N2 : Fr n0 L2 := l2 ▸ Fr.app N0 N2q
  refine ownStep (fun _ k => st2.trans k) ?_
  show ownGo p.tables e below (T2.setTop (mkF m 7 #[.val (.ref a)] [(.int f)])) _
  exact ownRet X2 (v := some (.int (nar .boolean f))) Bd.notSynchronized (fun h => by rw [Bd.returns] at h; cases h) (fun _ hr => retN X2 hx (t := .boolean) Bd.returns (by simp) (hb hby oh_ac_d7) hr) (by rw [R2]; exact ⟨(by rw [own_nb hfb]), N2, rfl⟩) (by decide) (by decide)
theorem ot_ac_d0 : decode prog_5_method_23_code 0 = .ok (.aload_n 0, 1) := by decide +kernel
theorem ot_ac_d1 : decode prog_5_method_23_code 1 = .ok (.getfield 87, 3) := by decide +kernel
theorem ot_ac_d4 : decode prog_5_method_23_code 4 = .ok (.dconst 0, 1) := by decide +kernel
theorem ot_ac_d5 : decode prog_5_method_23_code 5 = .ok (.invokevirtual 108, 3) := by decide +kernel
theorem ot_ac_d8 : decode prog_5_method_23_code 8 = .ok (.d2f, 1) := by decide +kernel
theorem ot_ac_d9 : decode prog_5_method_23_code 9 = .ok (.freturn, 1) := by decide +kernel
theorem ot_ac_pn : plainName "com/example/fixd/fixd/client/Location" = true := by first | (simp [plainName, overriddenIn]; done) | decide +kernel
theorem ot_ac_pd0 : parseMethodDescriptor "(D)D" = some ⟨[.double], some .double⟩ := by decide +kernel
theorem ot_ac_ef (m : MethodId) (x0 : Addr) : entryFrame m #[(.ref x0)] 1 = mkF m 0 #[.val (.ref x0)] [] := by first | (simp [entryFrame, mkF, argsToLocals, Value.category]; done) | rfl
def ot_ac_Q (Z : State) (a : Addr) (pv : Addr) (ti : Addr) (la : UInt64) (lo : UInt64) (sp : Addr) (be : Addr) (al : Addr) (ms : Addr) (ac : Addr) (sa : Addr) (f : Int32) (v : UInt64) (h0 : Heap) (n0 : Nat) (vv_ : Option Value) (hh_ : Heap) (LL_ : List Loc) : Prop := vv_ = some (.float (FP.d2f (if f = (0 : Int32) then FP.dconst0 else v))) ∧ Fr n0 LL_ ∧ hh_ = h0
set_option maxRecDepth 65536 in
set_option maxHeartbeats 40000000 in
theorem ot_ac (l : Launch) (Z : State) (a0 : Array Value) (hw : ∀ d ∈ tables_1, d.before a0 Z = true) (ws : List Jvm.Cond) (a : Addr) (pv : Addr) (ti : Addr) (la : UInt64) (lo : UInt64) (sp : Addr) (be : Addr) (al : Addr) (ms : Addr) (ac : Addr) (sa : Addr) (f : Int32) (v : UInt64) (h0 : Heap) (n0 : Nat) (Z0 : n0 ≤ h0.size) (hC : Cli Z h0 a pv ti la lo sp be al ms ac sa) (hO : Opt Z h0 ac f v) (Eo : Exa Z h0 ac "java/util/OptionalDouble") (hfb : f = (0 : Int32) ∨ f = (1 : Int32)) (hn : NoNaN32 (FP.d2f (if f = (0 : Int32) then FP.dconst0 else v))) :
    MetFree l (⟨"com/example/fixd/fixd/client/Location", "getAccuracy", "()F"⟩ : MethodName) (head1 (Jvm.Cond.code (⟨"com/example/fixd/fixd/client/Location", "getAccuracy", "()F"⟩ : MethodName) prog_5_method_23_code 1 (some .float) :: ws) ({ frames := 1, cells := 0, slots := 0, locals := 14 } : Room)) (fun aa_ UU_ => aa_ = #[(.ref a)] ∧ Z.Warmed39 UU_.vm ∧ UU_.heap = h0) (fun _ _ _ _ _ => True) (fun _ UU_ oo_ UV_ => ∃ vv_ LL_, oo_ = .returned vv_ ∧ ot_ac_Q Z a pv ti la lo sp be al ms ac sa f v h0 n0 vv_ UV_.heap LL_ ∧ FrameEnd UU_ oo_ UV_ LL_ ({ frames := 1, cells := 0, slots := 0, locals := 14 } : Room).cells ({ frames := 1, cells := 0, slots := 0, locals := 14 } : Room).slots) := by
  refine MetFree.of_bodySF (plainFor_of_name ot_ac_pn) hisR ?_
  intro p e s m args below meth c s₁ Bd hml0 hP hK
  obtain ⟨rfl, hZ, hh⟩ := hP
  have hx := Bd.exec
  have hby := Bd.bytes
  have hml : c.maxLocals = 1 := hml0
  have hown : s.vm.findClass "com/example/fixd/fixd/client/Location" = some m.cls := findClass_of_methodNamed Bd.named
  have hnm := (name_of_methodNamed Bd.named Bd.method).1
  have X0 : Stand p l e ({ frames := 1, cells := 0, slots := 0, locals := 14 } : Room) s m #[(.ref a)] below meth c s₁ [] 0 0 := Stand.of_body Bd
  have e0 : s₁.heap = h0 := by rw [← hh, Bd.state]; rfl
  have N0 := Fr.nil n0
  have KP0 : Keep h0 h0 [] := Keep.refl _ _
  refine ownFin (Q := ot_ac_Q Z a pv ti la lo sp be al ms ac sa f v h0 n0) ?_
  refine ownStep (fun _ k => castTop (ot_ac_ef m a) k) ?_
  show ownGo p.tables e below (s₁.setTop (mkF m 0 #[.val (.ref a)] [])) _
  have hC_ := hC
  obtain ⟨hC_provider, hC_time, hC_latitude, hC_longitude, hC_speed, hC_bearing, hC_altitude, hC_mslAltitude, hC_accuracy, hC_satellites⟩ := hC_
  refine ownStep (fun _ k => XS.aloadN X0.here hx rfl (hb hby ot_ac_d0) rfl rfl k) ?_
  show ownGo p.tables e below (s₁.setTop (mkF m 1 #[.val (.ref a)] [(.ref a)])) _
  obtain ⟨T1, X1, e1, st1⟩ := getF X0 hx hZ hown (host := "") (Or.inl (hw _ ow180)) Via.refl e0 hC_accuracy (g := (mkF m 1 #[.val (.ref a)] [(.ref a)])) rfl rfl (hb hby ot_ac_d1)
  refine ownStep st1 ?_
  refine ownStep (fun _ k => XS.dconst0 X1.here hx rfl (hb hby ot_ac_d4) rfl k) ?_
  show ownGo p.tables e below (T1.setTop (mkF m 5 #[.val (.ref a)] [(.double FP.dconst0), (.ref ac)])) _
  have Zs3 : n0 ≤ h0.size := Nat.le_trans Z0 KP0.1
  obtain ⟨cq2, kq2, q2a, q2b, q2c⟩ := isOf hZ e1 Eo
  obtain ⟨_, _, ⟨T2, L2, k2, n2⟩, -, X2, ⟨Lc2, hQ2, l2, y2, z2⟩, st2⟩ := X1.virtualBack hx (y := (⟨"java/util/OptionalDouble", "orElse", "(D)D"⟩ : MethodName)) (z := (⟨"java/util/OptionalDouble", "orElse", "(D)D"⟩ : MethodName)) hown (mvT hZ (hw _ ow303)) (mvT hZ (hw _ ow304)) (notFace_of_selects (args := #[]) (mvT hZ (hw _ ow306))) (mvT hZ (hw _ ow306)) (mvT hZ (hw _ ow305)) (by decide) (backOf (W := 0) (own_ore l Z a0 hw [] ac f v h0 n0 Zs3 hO) hZ (hw _ ow307) (hw _ ow65) (by decide) (by decide)) q2a q2c (g := (mkF m 5 #[.val (.ref a)] [(.double FP.dconst0), (.ref ac)])) rfl (by rw [hml]; rfl) (Steps.refl _) (argsL := [(.double FP.dconst0)]) (rest := []) (lenOf ot_ac_pd0 rfl) rfl (by show 2 * 0 + _ ≤ _; exact Nat.le_of_eq rfl) (hb hby ot_ac_d5) (fun _ _ => ⟨rfl, e1, (by decide : 0 + 0 ≤ _), (by decide : 0 + 0 ≤ _)⟩)
  dsimp only [Pt.U, Pt.locs, Pt.cells, Pt.slots] at X2 l2 y2 z2 st2 hQ2
  obtain rfl : k2 = 0 := y2
  obtain rfl : n2 = 0 := z2
  obtain ⟨rfl, N2q, R2⟩ := hQ2
  have N2 : Fr n0 L2 := l2 ▸ Fr.app N0 N2q
  refine ownStep (fun _ k => st2.trans k) ?_
  refine ownStep (fun _ k => XS.d2fS X2.here hx rfl (hb hby ot_ac_d8) rfl hn rfl k) ?_
  show ownGo p.tables e below (T2.setTop (mkF m 9 #[.val (.ref a)] [(.float (FP.d2f (if f = (0 : Int32) then FP.dconst0 else v)))])) _
  exact ownRet X2 (v := some (.float (FP.d2f (if f = (0 : Int32) then FP.dconst0 else v)))) Bd.notSynchronized (fun h => by rw [Bd.returns] at h; cases h) (fun _ hr => retOut X2 hx (t := .float) Bd.returns rfl (Or.inr (Or.inr (Or.inr (Or.inl ⟨rfl, rfl, _, rfl⟩)))) (hb hby ot_ac_d9) hr) (by rw [R2]; exact ⟨rfl, N2, rfl⟩) (by decide) (by decide)
theorem own_cen_d0 : decode jdk_43_method_3_code 0 = .ok (.iload_n 0, 1) := by decide +kernel
theorem own_cen_d1 : decode jdk_43_method_3_code 1 = .ok (.sipush 255, 3) := by decide +kernel
theorem own_cen_d4 : decode jdk_43_method_3_code 4 = .ok (.if_icmp .gt 7, 3) := by decide +kernel
theorem own_cen_d7 : decode jdk_43_method_3_code 7 = .ok (.iconst 1, 1) := by decide +kernel
theorem own_cen_d8 : decode jdk_43_method_3_code 8 = .ok (.goto 4, 3) := by decide +kernel
theorem own_cen_d12 : decode jdk_43_method_3_code 12 = .ok (.ireturn, 1) := by decide +kernel
theorem own_cen_pn : plainName "java/lang/StringLatin1" = true := by first | (simp [plainName, overriddenIn]; done) | decide +kernel
theorem own_cen_ef (m : MethodId) (x0 : Int32) : entryFrame m #[(.int x0)] 1 = mkF m 0 #[.val (.int x0)] [] := by first | (simp [entryFrame, mkF, argsToLocals, Value.category]; done) | rfl
def own_cen_Q (Z : State) (c0 : Int32) (h0 : Heap) (n0 : Nat) (vv_ : Option Value) (hh_ : Heap) (LL_ : List Loc) : Prop := vv_ = some (.int (1 : Int32)) ∧ Fr n0 LL_ ∧ hh_ = h0
set_option maxRecDepth 65536 in
set_option maxHeartbeats 40000000 in
theorem own_cen (l : Launch) (Z : State) (a0 : Array Value) (hw : ∀ d ∈ tables_1, d.before a0 Z = true) (ws : List Jvm.Cond) (c0 : Int32) (h0 : Heap) (n0 : Nat) (Z0 : n0 ≤ h0.size) (u0 : ¬ (255 : Int32) < c0) :
    MetFree l (⟨"java/lang/StringLatin1", "canEncode", "(C)Z"⟩ : MethodName) (head1 (Jvm.Cond.code (⟨"java/lang/StringLatin1", "canEncode", "(C)Z"⟩ : MethodName) jdk_43_method_3_code 1 (some .boolean) :: ws) ({ frames := 0, cells := 0, slots := 0, locals := 0 } : Room)) (fun aa_ UU_ => aa_ = #[(.int c0)] ∧ Z.Warmed39 UU_.vm ∧ UU_.heap = h0) (fun _ _ _ _ _ => True) (fun _ UU_ oo_ UV_ => ∃ vv_ LL_, oo_ = .returned vv_ ∧ own_cen_Q Z c0 h0 n0 vv_ UV_.heap LL_ ∧ FrameEnd UU_ oo_ UV_ LL_ ({ frames := 0, cells := 0, slots := 0, locals := 0 } : Room).cells ({ frames := 0, cells := 0, slots := 0, locals := 0 } : Room).slots) := by
  refine MetFree.of_bodySF (plainFor_of_name own_cen_pn) hisR ?_
  intro p e s m args below meth c s₁ Bd hml0 hP hK
  obtain ⟨rfl, hZ, hh⟩ := hP
  have hx := Bd.exec
  have hby := Bd.bytes
  have hml : c.maxLocals = 1 := hml0
  have hown : s.vm.findClass "java/lang/StringLatin1" = some m.cls := findClass_of_methodNamed Bd.named
  have hnm := (name_of_methodNamed Bd.named Bd.method).1
  have X0 : Stand p l e ({ frames := 0, cells := 0, slots := 0, locals := 0 } : Room) s m #[(.int c0)] below meth c s₁ [] 0 0 := Stand.of_body Bd
  have e0 : s₁.heap = h0 := by rw [← hh, Bd.state]; rfl
  have N0 := Fr.nil n0
  have KP0 : Keep h0 h0 [] := Keep.refl _ _
  refine ownFin (Q := own_cen_Q Z c0 h0 n0) ?_
  refine ownStep (fun _ k => castTop (own_cen_ef m c0) k) ?_
  show ownGo p.tables e below (s₁.setTop (mkF m 0 #[.val (.int c0)] [])) _
  refine ownStep (fun _ k => XS.iloadN X0.here hx rfl (hb hby own_cen_d0) rfl  k) ?_
  refine ownStep (fun _ k => XS.sipush X0.here hx rfl (hb hby own_cen_d1) k) ?_
  refine ownStep (fun _ k => XS.icmpNo X0.here hx rfl (hb hby own_cen_d4) rfl (flt (u0 : ¬ (255 : Int32) < c0)).2.2.1 k) ?_
  refine ownStep (fun _ k => XS.iconst X0.here hx rfl (hb hby own_cen_d7) k) ?_
  refine ownStep (fun _ k => XS.goto X0.here hx rfl (pc0 := 8) (pc' := 12) rfl (hb hby own_cen_d8) (by decide) (by decide) k) ?_
  show ownGo p.tables e below (s₁.setTop (mkF m 12 #[.val (.int c0)] [(.int (1 : Int32))])) _
  exact ownRet X0 (v := some (.int (1 : Int32))) Bd.notSynchronized (fun h => by rw [Bd.returns] at h; cases h) (fun _ hr => retN X0 hx (t := .boolean) Bd.returns (by simp) (hb hby own_cen_d12) hr) (by rw [e0]; exact ⟨rfl, N0, rfl⟩) (by decide) (by decide)
theorem own_tob_d0 : decode jdk_43_method_46_code 0 = .ok (.iconst 1, 1) := by decide +kernel
theorem own_tob_d1 : decode jdk_43_method_46_code 1 = .ok (.newarray .byte, 2) := by decide +kernel
theorem own_tob_d3 : decode jdk_43_method_46_code 3 = .ok (.dup, 1) := by decide +kernel
theorem own_tob_d4 : decode jdk_43_method_46_code 4 = .ok (.iconst 0, 1) := by decide +kernel
theorem own_tob_d5 : decode jdk_43_method_46_code 5 = .ok (.iload_n 0, 1) := by decide +kernel
theorem own_tob_d6 : decode jdk_43_method_46_code 6 = .ok (.i2b, 1) := by decide +kernel
theorem own_tob_d7 : decode jdk_43_method_46_code 7 = .ok (.bastore, 1) := by decide +kernel
theorem own_tob_d8 : decode jdk_43_method_46_code 8 = .ok (.areturn, 1) := by decide +kernel
theorem own_tob_pn : plainName "java/lang/StringLatin1" = true := by first | (simp [plainName, overriddenIn]; done) | decide +kernel
theorem own_tob_ef (m : MethodId) (x0 : Int32) : entryFrame m #[(.int x0)] 1 = mkF m 0 #[.val (.int x0)] [] := by first | (simp [entryFrame, mkF, argsToLocals, Value.category]; done) | rfl
def own_tob_Q (Z : State) (c0 : Int32) (h0 : Heap) (n0 : Nat) (vv_ : Option Value) (hh_ : Heap) (LL_ : List Loc) : Prop := ∃ o : Addr, vv_ = some (.ref o) ∧ Fr n0 LL_ ∧ Ext h0 hh_
set_option maxRecDepth 65536 in
set_option maxHeartbeats 40000000 in
theorem own_tob (l : Launch) (Z : State) (a0 : Array Value) (hw : ∀ d ∈ tables_1, d.before a0 Z = true) (ws : List Jvm.Cond) (c0 : Int32) (h0 : Heap) (n0 : Nat) (Z0 : n0 ≤ h0.size) :
    MetFree l (⟨"java/lang/StringLatin1", "toBytes", "(C)[B"⟩ : MethodName) (head1 (Jvm.Cond.code (⟨"java/lang/StringLatin1", "toBytes", "(C)[B"⟩ : MethodName) jdk_43_method_46_code 1 (some (.array .byte)) :: ws) ({ frames := 0, cells := 1, slots := 1, locals := 0 } : Room)) (fun aa_ UU_ => aa_ = #[(.int c0)] ∧ Z.Warmed39 UU_.vm ∧ UU_.heap = h0) (fun _ _ _ _ _ => True) (fun _ UU_ oo_ UV_ => ∃ vv_ LL_, oo_ = .returned vv_ ∧ own_tob_Q Z c0 h0 n0 vv_ UV_.heap LL_ ∧ FrameEnd UU_ oo_ UV_ LL_ ({ frames := 0, cells := 1, slots := 1, locals := 0 } : Room).cells ({ frames := 0, cells := 1, slots := 1, locals := 0 } : Room).slots) := by
  refine MetFree.of_bodySF (plainFor_of_name own_tob_pn) hisR ?_
  intro p e s m args below meth c s₁ Bd hml0 hP hK
  obtain ⟨rfl, hZ, hh⟩ := hP
  have hx := Bd.exec
  have hby := Bd.bytes
  have hml : c.maxLocals = 1 := hml0
  have hown : s.vm.findClass "java/lang/StringLatin1" = some m.cls := findClass_of_methodNamed Bd.named
  have hnm := (name_of_methodNamed Bd.named Bd.method).1
  have X0 : Stand p l e ({ frames := 0, cells := 1, slots := 1, locals := 0 } : Room) s m #[(.int c0)] below meth c s₁ [] 0 0 := Stand.of_body Bd
  have e0 : s₁.heap = h0 := by rw [← hh, Bd.state]; rfl
  have N0 := Fr.nil n0
  have KP0 : Keep h0 h0 [] := Keep.refl _ _
  refine ownFin (Q := own_tob_Q Z c0 h0 n0) ?_
  refine ownStep (fun _ k => castTop (own_tob_ef m c0) k) ?_
  show ownGo p.tables e below (s₁.setTop (mkF m 0 #[.val (.int c0)] [])) _
  refine ownStep (fun _ k => XS.iconst X0.here hx rfl (hb hby own_tob_d0) k) ?_
  show ownGo p.tables e below (s₁.setTop (mkF m 1 #[.val (.int c0)] [(.int (1 : Int32))])) _
  obtain ⟨T1, h1, k1, X1, e1, E1, A1, st1⟩ := newP X0 hx hZ (hw _ (List.mem_of_getElem? (i := 14) rfl)) e0 (g := (mkF m 1 #[.val (.int c0)] [(.int (1 : Int32))])) rfl (hb hby own_tob_d1) rfl (by decide) (cap := 1) (by decide) (by decide) (by decide) (by decide)
  obtain ⟨b1, g1⟩ : ∃ z, z = h0.size := ⟨_, rfl⟩
  rw [← g1] at A1 st1
  have gh_b1 : h0.size ≤ b1 := Nat.le_trans KP0.1 (Nat.le_of_eq g1.symm)
  have gn_b1 : n0 ≤ b1 := Nat.le_trans Z0 gh_b1
  have KP2 : Keep h0 h1 [] := KP0.ext E1
  have V1 : Arv Z h1 b1 k1 .byte (1 : Int32) [(.int (0 : Int32))] (.int (0 : Int32)) := (Arv.new A1 (by decide)).pad (pad_rep [] (.int (0 : Int32)) 1)
  refine ownStep st1 ?_
  refine ownStep (fun _ k => XS.dup X1.here hx rfl (hb hby own_tob_d3) rfl rfl k) ?_
  refine ownStep (fun _ k => XS.iconst X1.here hx rfl (hb hby own_tob_d4) k) ?_
  refine ownStep (fun _ k => XS.iloadN X1.here hx rfl (hb hby own_tob_d5) rfl  k) ?_
  refine ownStep (fun _ k => XS.i2b X1.here hx rfl (hb hby own_tob_d6) rfl k) ?_
  show ownGo p.tables e below (T1.setTop (mkF m 7 #[.val (.int c0)] [(.int (c0.toInt8.toInt32)), (.int (0 : Int32)), (.ref b1), (.ref b1)])) _
  have Vo3 := V1
  obtain ⟨cl3, Ar3, q3, S3, N3, H3, G3⟩ := Vo3
  have hin3 : ¬ ((0 : Int32) < 0 ∨ cl3.slots.size ≤ ((0 : Int32)).toNatClampNeg) := inb_of S3 ⟨by decide, by decide⟩
  obtain ⟨T4, h4, X4, e4, W4, st4⟩ := stB X1 hx hZ e1 Ar3 (j := (0 : Int32)) hin3 (g := (mkF m 7 #[.val (.int c0)] [(.int (c0.toInt8.toInt32)), (.int (0 : Int32)), (.ref b1), (.ref b1)])) rfl rfl (hb hby own_tob_d7)
  have N5 := Fr.snoc X4 N0 gn_b1
  have KP6 : Keep h0 h4 [] := KP2.wr W4 (Or.inr gh_b1)
  have V7 : Arv Z h4 b1 k1 .byte (1 : Int32) [(.int (c0.toInt8.toInt32).toInt8.toInt32)] (.int (0 : Int32)) := Arv.set Ar3 q3 S3 N3 H3 G3 (fits_nar_byte _) W4 0 rfl (Nat.le_of_ble_eq_true rfl)
  refine ownStep st4 ?_
  show ownGo p.tables e below (T4.setTop (mkF m 8 #[.val (.int c0)] [(.ref b1)])) _
  exact ownRet X4 (v := some (.ref b1)) Bd.notSynchronized (fun h => by rw [Bd.returns] at h; cases h) (fun _ hr => retOut X4 hx (t := (.array .byte)) Bd.returns rfl (Or.inr (Or.inr (Or.inr (Or.inr ⟨rfl, rfl, rfl⟩)))) (hb hby own_tob_d8) hr) (by rw [e4]; exact ⟨b1, rfl, N5, (own_extOf KP6)⟩) (by decide) (by decide)
theorem own_sin_d0 : decode jdk_42_method_151_code 0 = .ok (.aload_n 0, 1) := by decide +kernel
theorem own_sin_d1 : decode jdk_42_method_151_code 1 = .ok (.invokespecial 1, 3) := by decide +kernel
theorem own_sin_d4 : decode jdk_42_method_151_code 4 = .ok (.aload_n 0, 1) := by decide +kernel
theorem own_sin_d5 : decode jdk_42_method_151_code 5 = .ok (.aload_n 1, 1) := by decide +kernel
theorem own_sin_d6 : decode jdk_42_method_151_code 6 = .ok (.putfield 9, 3) := by decide +kernel
theorem own_sin_d9 : decode jdk_42_method_151_code 9 = .ok (.aload_n 0, 1) := by decide +kernel
theorem own_sin_d10 : decode jdk_42_method_151_code 10 = .ok (.iload_n 2, 1) := by decide +kernel
theorem own_sin_d11 : decode jdk_42_method_151_code 11 = .ok (.putfield 15, 3) := by decide +kernel
theorem own_sin_d14 : decode jdk_42_method_151_code 14 = .ok (.return_, 1) := by decide +kernel
theorem own_sin_pn : plainName "java/lang/String" = true := by first | (simp [plainName, overriddenIn]; done) | decide +kernel
theorem own_sin_ef (m : MethodId) (x0 : Addr) (x1 : Addr) (x2 : Int32) : entryFrame m #[(.ref x0), (.ref x1), (.int x2)] 3 = mkF m 0 #[.val (.ref x0), .val (.ref x1), .val (.int x2)] [] := by first | (simp [entryFrame, mkF, argsToLocals, Value.category]; done) | rfl
def own_sin_Q (Z : State) (a : Addr) (w : Addr) (h0 : Heap) (n0 : Nat) (vv_ : Option Value) (hh_ : Heap) (LL_ : List Loc) : Prop := vv_ = none ∧ Fr n0 LL_ ∧ Keep h0 hh_ [a]
set_option maxRecDepth 65536 in
set_option maxHeartbeats 40000000 in
theorem own_sin (l : Launch) (Z : State) (a0 : Array Value) (hw : ∀ d ∈ tables_1, d.before a0 Z = true) (ws : List Jvm.Cond) (a : Addr) (w : Addr) (h0 : Heap) (n0 : Nat) (Z0 : n0 ≤ h0.size) (E : Exa Z h0 a "java/lang/String") (g : n0 ≤ a) (Ga : Fld Z h0 a "java/lang/String" "value" "[B" .null) (Gb : Fld Z h0 a "java/lang/String" "coder" "B" (.int (0 : Int32))) :
    MetFree l (⟨"java/lang/String", "<init>", "([BB)V"⟩ : MethodName) (head1 (Jvm.Cond.code (⟨"java/lang/String", "<init>", "([BB)V"⟩ : MethodName) jdk_42_method_151_code 3 none :: ws) ({ frames := 1, cells := 0, slots := 0, locals := 12 } : Room)) (fun aa_ UU_ => aa_ = #[(.ref a), (.ref w), (.int (0 : Int32))] ∧ Z.Warmed39 UU_.vm ∧ UU_.heap = h0) (fun _ _ _ _ _ => True) (fun _ UU_ oo_ UV_ => ∃ vv_ LL_, oo_ = .returned vv_ ∧ own_sin_Q Z a w h0 n0 vv_ UV_.heap LL_ ∧ FrameEnd UU_ oo_ UV_ LL_ ({ frames := 1, cells := 0, slots := 0, locals := 12 } : Room).cells ({ frames := 1, cells := 0, slots := 0, locals := 12 } : Room).slots) := by
  refine MetFree.of_bodySF (plainFor_of_name own_sin_pn) hisR ?_
  intro p e s m args below meth c s₁ Bd hml0 hP hK
  obtain ⟨rfl, hZ, hh⟩ := hP
  have hx := Bd.exec
  have hby := Bd.bytes
  have hml : c.maxLocals = 3 := hml0
  have hown : s.vm.findClass "java/lang/String" = some m.cls := findClass_of_methodNamed Bd.named
  have hnm := (name_of_methodNamed Bd.named Bd.method).1
  have X0 : Stand p l e ({ frames := 1, cells := 0, slots := 0, locals := 12 } : Room) s m #[(.ref a), (.ref w), (.int (0 : Int32))] below meth c s₁ [] 0 0 := Stand.of_body Bd
  have e0 : s₁.heap = h0 := by rw [← hh, Bd.state]; rfl
  have N0 := Fr.nil n0
  have KP0 : Keep h0 h0 [a] := Keep.refl _ _
  refine ownFin (Q := own_sin_Q Z a w h0 n0) ?_
  refine ownStep (fun _ k => castTop (own_sin_ef m a w (0 : Int32)) k) ?_
  show ownGo p.tables e below (s₁.setTop (mkF m 0 #[.val (.ref a), .val (.ref w), .val (.int (0 : Int32))] [])) _
  refine ownStep (fun _ k => XS.aloadN X0.here hx rfl (hb hby own_sin_d0) rfl rfl k) ?_
  show ownGo p.tables e below (s₁.setTop (mkF m 1 #[.val (.ref a), .val (.ref w), .val (.int (0 : Int32))] [(.ref a)])) _
  obtain ⟨T1, X1, e1, st1⟩ := initO X0 hx hZ hown (hw _ ow19) (hw _ ow20) (hw _ ow21) e0 (g := (mkF m 1 #[.val (.ref a), .val (.ref w), .val (.int (0 : Int32))] [(.ref a)])) rfl (by rw [hml]; rfl) rfl (hb hby own_sin_d1) (by decide) (W := 0) (by show 2 * 0 + _ ≤ _; exact Nat.le_of_eq rfl) (by decide)
  refine ownStep st1 ?_
  refine ownStep (fun _ k => XS.aloadN X1.here hx rfl (hb hby own_sin_d4) rfl rfl k) ?_
  refine ownStep (fun _ k => XS.aloadN X1.here hx rfl (hb hby own_sin_d5) rfl rfl k) ?_
  show ownGo p.tables e below (T1.setTop (mkF m 6 #[.val (.ref a), .val (.ref w), .val (.int (0 : Int32))] [(.ref w), (.ref a)])) _
  obtain ⟨T2, h2, X2, e2, W2, st2⟩ := putF X1 hx hZ hown (host := "") (Or.inl (hw _ ow22)) Via.refl e1 Ga E (Or.inr ⟨(hw _ ow23), rfl, hnm⟩) (hw _ ow10) (ty := (.array .byte)) (by decide) rfl rfl (g := (mkF m 6 #[.val (.ref a), .val (.ref w), .val (.int (0 : Int32))] [(.ref w), (.ref a)])) rfl rfl (hb hby own_sin_d6)
  have N3 := Fr.snoc X2 N0 g
  have KP4 : Keep h0 h2 [a] := KP0.wr W2 (Or.inl (List.mem_of_getElem? (i := 0) rfl))
  have F5 : Fld Z h2 a "java/lang/String" "value" "[B" (.ref w) := Ga.same W2
  refine ownStep st2 ?_
  refine ownStep (fun _ k => XS.aloadN X2.here hx rfl (hb hby own_sin_d9) rfl rfl k) ?_
  refine ownStep (fun _ k => XS.iloadN X2.here hx rfl (hb hby own_sin_d10) rfl  k) ?_
  show ownGo p.tables e below (T2.setTop (mkF m 11 #[.val (.ref a), .val (.ref w), .val (.int (0 : Int32))] [(.int (0 : Int32)), (.ref a)])) _
  have Q6 := (Gb.other W2 (.inr (ownNe (.inr (hw _ ow25)) (.inr (hw _ ow23)))))
  have Q7 := (E.wr W2)
  obtain ⟨T8, h8, X8, e8, W8, st8⟩ := putFN X2 hx hZ hown (hw _ ow24) Via.refl e2 Q6 Q7 (Or.inr ⟨(hw _ ow25), rfl, hnm⟩) (hw _ ow10) (ty := .byte) (v' := (.int (0 : Int32))) (by decide) rfl rfl (g := (mkF m 11 #[.val (.ref a), .val (.ref w), .val (.int (0 : Int32))] [(.int (0 : Int32)), (.ref a)])) rfl rfl (hb hby own_sin_d11)
  have N9 := Fr.snoc X8 N3 g
  have KP10 : Keep h0 h8 [a] := KP4.wr W8 (Or.inl (List.mem_of_getElem? (i := 0) rfl))
  have F11 : Fld Z h8 a "java/lang/String" "coder" "B" (.int (0 : Int32)) := Q6.same W8
  refine ownStep st8 ?_
  show ownGo p.tables e below (T8.setTop (mkF m 14 #[.val (.ref a), .val (.ref w), .val (.int (0 : Int32))] [])) _
  exact ownRet X8 (v := none) Bd.notSynchronized (fun _ => rfl) (fun _ hr => X8.returnOut hx Bd.returns (hb hby own_sin_d14) hr) (by rw [e8]; exact ⟨rfl, N9, KP10⟩) (by decide) (by decide)
theorem own_vof_d0 : decode jdk_42_method_139_code 0 = .ok (.getstatic 38, 3) := by decide +kernel
theorem own_vof_d3 : decode jdk_42_method_139_code 3 = .ok (.ifCond .eq 23, 3) := by decide +kernel
theorem own_vof_d6 : decode jdk_42_method_139_code 6 = .ok (.iload_n 0, 1) := by decide +kernel
theorem own_vof_d7 : decode jdk_42_method_139_code 7 = .ok (.invokestatic 1015, 3) := by decide +kernel
theorem own_vof_d10 : decode jdk_42_method_139_code 10 = .ok (.ifCond .eq 16, 3) := by decide +kernel
theorem own_vof_d13 : decode jdk_42_method_139_code 13 = .ok (.new 10, 3) := by decide +kernel
theorem own_vof_d16 : decode jdk_42_method_139_code 16 = .ok (.dup, 1) := by decide +kernel
theorem own_vof_d17 : decode jdk_42_method_139_code 17 = .ok (.iload_n 0, 1) := by decide +kernel
theorem own_vof_d18 : decode jdk_42_method_139_code 18 = .ok (.invokestatic 1018, 3) := by decide +kernel
theorem own_vof_d21 : decode jdk_42_method_139_code 21 = .ok (.iconst 0, 1) := by decide +kernel
theorem own_vof_d22 : decode jdk_42_method_139_code 22 = .ok (.invokespecial 209, 3) := by decide +kernel
theorem own_vof_d25 : decode jdk_42_method_139_code 25 = .ok (.areturn, 1) := by decide +kernel
theorem own_vof_pn : plainName "java/lang/String" = true := by first | (simp [plainName, overriddenIn]; done) | decide +kernel
theorem own_vof_pd0 : parseMethodDescriptor "(C)Z" = some ⟨[.char], some .boolean⟩ := by decide +kernel
theorem own_vof_pd1 : parseMethodDescriptor "(C)[B" = some ⟨[.char], some (.array .byte)⟩ := by decide +kernel
theorem own_vof_pd2 : parseMethodDescriptor "([BB)V" = some ⟨[(.array .byte), .byte], none⟩ := by decide +kernel
theorem own_vof_ef (m : MethodId) (x0 : Int32) : entryFrame m #[(.int x0)] 1 = mkF m 0 #[.val (.int x0)] [] := by first | (simp [entryFrame, mkF, argsToLocals, Value.category]; done) | rfl
def own_vof_Q (Z : State) (zc : Int32) (c0 : Int32) (h0 : Heap) (n0 : Nat) (vv_ : Option Value) (hh_ : Heap) (LL_ : List Loc) : Prop := ∃ o : Addr, vv_ = some (.ref o) ∧ Fr n0 LL_ ∧ Ext h0 hh_ ∧ (h0.size ≤ o) ∧ (Exa Z hh_ o "java/lang/String")
set_option maxRecDepth 65536 in
set_option maxHeartbeats 40000000 in
theorem own_vof (l : Launch) (Z : State) (a0 : Array Value) (hw : ∀ d ∈ tables_1, d.before a0 Z = true) (ws : List Jvm.Cond) (zc : Int32) (c0 : Int32) (h0 : Heap) (n0 : Nat) (Z0 : n0 ≤ h0.size) (hOld : Old Z n0 h0) (Scs : Sta Z Z.heap "java/lang/String" "COMPACT_STRINGS" "Z" (.int zc)) (hzc : ¬ zc = (0 : Int32)) (u0 : ¬ (255 : Int32) < c0) :
    MetFree l (⟨"java/lang/String", "valueOf", "(C)Ljava/lang/String;"⟩ : MethodName) (head1 (Jvm.Cond.code (⟨"java/lang/String", "valueOf", "(C)Ljava/lang/String;"⟩ : MethodName) jdk_42_method_139_code 1 (some (.object "java/lang/String")) :: ws) ({ frames := 2, cells := 2, slots := 5, locals := 27 } : Room)) (fun aa_ UU_ => aa_ = #[(.int c0)] ∧ Z.Warmed39 UU_.vm ∧ UU_.heap = h0) (fun _ _ _ _ _ => True) (fun _ UU_ oo_ UV_ => ∃ vv_ LL_, oo_ = .returned vv_ ∧ own_vof_Q Z zc c0 h0 n0 vv_ UV_.heap LL_ ∧ FrameEnd UU_ oo_ UV_ LL_ ({ frames := 2, cells := 2, slots := 5, locals := 27 } : Room).cells ({ frames := 2, cells := 2, slots := 5, locals := 27 } : Room).slots) := by
  refine MetFree.of_bodySF (plainFor_of_name own_vof_pn) hisR ?_
  intro p e s m args below meth c s₁ Bd hml0 hP hK
  obtain ⟨rfl, hZ, hh⟩ := hP
  have hx := Bd.exec
  have hby := Bd.bytes
  have hml : c.maxLocals = 1 := hml0
  have hown : s.vm.findClass "java/lang/String" = some m.cls := findClass_of_methodNamed Bd.named
  have hnm := (name_of_methodNamed Bd.named Bd.method).1
  have X0 : Stand p l e ({ frames := 2, cells := 2, slots := 5, locals := 27 } : Room) s m #[(.int c0)] below meth c s₁ [] 0 0 := Stand.of_body Bd
  have e0 : s₁.heap = h0 := by rw [← hh, Bd.state]; rfl
  have N0 := Fr.nil n0
  have KP0 : Keep h0 h0 [] := Keep.refl _ _
  refine ownFin (Q := own_vof_Q Z zc c0 h0 n0) ?_
  refine ownStep (fun _ k => castTop (own_vof_ef m c0) k) ?_
  show ownGo p.tables e below (s₁.setTop (mkF m 0 #[.val (.int c0)] [])) _
  have Q1 := Scs.ext hOld.2
  obtain ⟨T2, X2, e2, st2⟩ := getS2 X0 hx hZ hown (host := "") (Or.inl (hw _ ow4)) Via.refl e0 Q1 (g := (mkF m 0 #[.val (.int c0)] [])) rfl (hb hby own_vof_d0)
  refine ownStep st2 ?_
  refine ownStep (fun _ k => XS.ifNo X2.here hx rfl (hb hby own_vof_d3) rfl ((if0 _ _).trans (feq (hzc : ¬ zc = (0 : Int32))).1) k) ?_
  refine ownStep (fun _ k => XS.iloadN X2.here hx rfl (hb hby own_vof_d6) rfl  k) ?_
  show ownGo p.tables e below (T2.setTop (mkF m 7 #[.val (.int c0)] [(.int c0)])) _
  have Zs4 : n0 ≤ h0.size := Nat.le_trans Z0 KP0.1
  obtain ⟨_, _, ⟨T3, L3, k3, n3⟩, -, X3, ⟨Lc3, hQ3, l3, y3, z3⟩, st3⟩ := Jvm.LawKit.callS X2 hx (y := (⟨"java/lang/StringLatin1", "canEncode", "(C)Z"⟩ : MethodName)) hown (mvT hZ (hw _ ow5)) (mvT hZ (hw _ ow6)) (mvT hZ (hw _ ow7)) (mvT hZ (hw _ ow8)) (by decide) (backOf (W := 0) (own_cen l Z a0 hw [] c0 h0 n0 Zs4 u0) hZ (hw _ ow8) (hw _ ow7) (by decide) (by decide)) (g := (mkF m 7 #[.val (.int c0)] [(.int c0)])) rfl (by rw [hml]; rfl) (argsL := [(.int c0)]) (rest := []) (lenOf own_vof_pd0 rfl) rfl (by show 2 * 0 + _ ≤ _; exact Nat.le_of_eq rfl) (hb hby own_vof_d7) (fun _ _ => ⟨rfl, e2, (by decide : 0 + 0 ≤ _), (by decide : 0 + 0 ≤ _)⟩)
  dsimp only [Pt.U, Pt.locs, Pt.cells, Pt.slots] at X3 l3 y3 z3 st3 hQ3
  obtain rfl : k3 = 0 := y3
  obtain rfl : n3 = 0 := z3
  obtain ⟨rfl, N3q, R3⟩ := hQ3
  have N3 : Fr n0 L3 := l3 ▸ Fr.app N0 N3q
  refine ownStep (fun _ k => st3 _ k) ?_
  refine ownStep (fun _ k => XS.ifNo X3.here hx rfl (hb hby own_vof_d10) rfl ((if0 _ _).trans (feq (by decide : ¬ (1 : Int32) = (0 : Int32))).1) k) ?_
  show ownGo p.tables e below (T3.setTop (mkF m 13 #[.val (.int c0)] [])) _
  obtain ⟨T5, h5, X5, e5, E5, A5, D5, U5, st5⟩ := newO X3 hx hZ hown (hw _ ow9) (hw _ ow10) (hw _ ow2) R3 (g := (mkF m 13 #[.val (.int c0)] [])) rfl (hb hby own_vof_d13) (by decide) (by decide)
  obtain ⟨b5, g5⟩ : ∃ z, z = h0.size := ⟨_, rfl⟩
  rw [← g5] at A5 D5 U5 st5
  have gh_b5 : h0.size ≤ b5 := Nat.le_trans KP0.1 (Nat.le_of_eq g5.symm)
  have gn_b5 : n0 ≤ b5 := Nat.le_trans Z0 gh_b5
  have KP6 : Keep h0 h5 [] := KP0.ext E5
  have F7 : Fld Z h5 b5 "java/lang/String" "value" "[B" .null := D5 (Or.inr (hw _ ow23)) (ty := (.array .byte)) (by decide)
  have F8 : Fld Z h5 b5 "java/lang/String" "coder" "B" (.int (0 : Int32)) := D5 (Or.inr (hw _ ow25)) (ty := .byte) (by decide)
  refine ownStep st5 ?_
  refine ownStep (fun _ k => XS.dup X5.here hx rfl (hb hby own_vof_d16) rfl rfl k) ?_
  refine ownStep (fun _ k => XS.iloadN X5.here hx rfl (hb hby own_vof_d17) rfl  k) ?_
  show ownGo p.tables e below (T5.setTop (mkF m 18 #[.val (.int c0)] [(.int c0), (.ref b5), (.ref b5)])) _
  have Zs10 : n0 ≤ h5.size := Nat.le_trans Z0 KP6.1
  obtain ⟨_, _, ⟨T9, L9, k9, n9⟩, -, X9, ⟨Lc9, hQ9, l9, y9, z9⟩, st9⟩ := Jvm.LawKit.callS X5 hx (y := (⟨"java/lang/StringLatin1", "toBytes", "(C)[B"⟩ : MethodName)) hown (mvT hZ (hw _ ow11)) (mvT hZ (hw _ ow12)) (mvT hZ (hw _ ow7)) (mvT hZ (hw _ ow13)) (by decide) (backOf (W := 2) (own_tob l Z a0 hw [] c0 h5 n0 Zs10 ) hZ (hw _ ow13) (hw _ ow7) (by decide) (by decide)) (g := (mkF m 18 #[.val (.int c0)] [(.int c0), (.ref b5), (.ref b5)])) rfl (by rw [hml]; rfl) (argsL := [(.int c0)]) (rest := [(.ref b5), (.ref b5)]) (lenOf own_vof_pd1 rfl) rfl (by show 2 * 0 + _ ≤ _; exact Nat.le_of_eq rfl) (hb hby own_vof_d18) (fun _ _ => ⟨rfl, e5, (by decide : 1 + 1 ≤ _), (by decide : 4 + 1 ≤ _)⟩)
  dsimp only [Pt.U, Pt.locs, Pt.cells, Pt.slots] at X9 l9 y9 z9 st9 hQ9
  obtain rfl : k9 = 2 := y9
  obtain rfl : n9 = 5 := z9
  obtain ⟨o_9, rfl, N9q, R9⟩ := hQ9
  have N9 : Fr n0 L9 := l9 ▸ Fr.app N3 N9q
  refine ownStep (fun _ k => st9 _ k) ?_
  have KP11 : Keep h0 T9.heap [] := KP6.ext R9
  refine ownStep (fun _ k => XS.iconst X9.here hx rfl (hb hby own_vof_d21) k) ?_
  show ownGo p.tables e below (T9.setTop (mkF m 22 #[.val (.int c0)] [(.int (0 : Int32)), (.ref o_9), (.ref b5), (.ref b5)])) _
  have Q12 := (A5.ext R9)
  have Q13 := (F7.ext R9)
  have Q14 := (F8.ext R9)
  have Zs16 : n0 ≤ T9.heap.size := Nat.le_trans Z0 KP11.1
  obtain ⟨_, _, ⟨T15, L15, k15, n15⟩, -, X15, ⟨Lc15, hQ15, l15, y15, z15⟩, st15⟩ := X9.specialBack hx (y := (⟨"java/lang/String", "<init>", "([BB)V"⟩ : MethodName)) rfl hown (mvT hZ (hw _ ow15)) (mvT hZ (hw _ ow16)) (mvT hZ (hw _ ow18)) (by decide) (backOf (W := 1) (own_sin l Z a0 hw [] b5 o_9 T9.heap n0 Zs16 Q12 gn_b5 Q13 Q14) hZ (hw _ ow18) (hw _ ow2) (by decide) (by decide)) (g := (mkF m 22 #[.val (.int c0)] [(.int (0 : Int32)), (.ref o_9), (.ref b5), (.ref b5)])) rfl (by rw [hml]; rfl) (Steps.refl _) (a := b5) (argsL := [(.ref o_9), (.int (0 : Int32))]) (rest := [(.ref b5)]) (lenOf own_vof_pd2 rfl) rfl (by show 2 * 0 + _ ≤ _; exact Nat.le_of_eq rfl) (hb hby own_vof_d22) (fun _ _ => ⟨rfl, rfl, (by decide : 2 + 0 ≤ _), (by decide : 5 + 0 ≤ _)⟩)
  dsimp only [Pt.U, Pt.locs, Pt.cells, Pt.slots] at X15 l15 y15 z15 st15 hQ15
  obtain rfl : k15 = 2 := y15
  obtain rfl : n15 = 5 := z15
  obtain ⟨rfl, N15q, R15⟩ := hQ15
  have N15 : Fr n0 L15 := l15 ▸ Fr.app N9 N15q
  refine ownStep (fun _ k => st15.trans k) ?_
  have KP17 : Keep h0 T15.heap [] := KP11.trans R15 (allS (Or.inr gh_b5) all0)
  show ownGo p.tables e below (T15.setTop (mkF m 25 #[.val (.int c0)] [(.ref b5)])) _
  have Q18 := (Q12.keep R15)
  exact ownRet X15 (v := some (.ref b5)) Bd.notSynchronized (fun h => by rw [Bd.returns] at h; cases h) (fun _ hr => retOut X15 hx (t := (.object "java/lang/String")) Bd.returns rfl (Or.inr (Or.inr (Or.inr (Or.inr ⟨rfl, rfl, rfl⟩)))) (hb hby own_vof_d25) hr) (⟨b5, rfl, N15, (own_extOf KP17), gh_b5, Q18⟩) (by decide) (by decide)
theorem own_f1 {f : Int32} (h : f = (0 : Int32) ∨ f = (1 : Int32)) (n : ¬ f = (0 : Int32)) : f = (1 : Int32) := h.resolve_left n
theorem own_d0 : FP.d2f FP.dconst0 = FP.fconst0 := by decide +kernel
theorem own_f0n : NoNaN32 FP.fconst0 := by unfold NoNaN32; decide +kernel
theorem own_d0n : NoNaN64 FP.dconst0 := by unfold NoNaN64; decide +kernel
theorem own_f2dn (x : Int32) : NoNaN64 (FP.f2d (FP.i2f x)) := (noNaN_f2d _).mpr (own_i2fn x)
theorem own_gv {f : Int32} {v : UInt64} {x : Int32} (h : ¬ f = (0 : Int32) → v = FP.f2d (FP.i2f x)) : NoNaN32 (FP.d2f (if f = (0 : Int32) then FP.dconst0 else v)) ∧ (f = (0 : Int32) → cmpValue (FP.fcmp (FP.d2f (if f = (0 : Int32) then FP.dconst0 else v)) FP.fconst0) .l = (0 : Int32)) ∧ (¬ f = (0 : Int32) → cmpValue (FP.fcmp (FP.d2f (if f = (0 : Int32) then FP.dconst0 else v)) (FP.i2f x)) .l = (0 : Int32)) := by
  refine ⟨?_, fun q => ?_, fun q => ?_⟩
  · by_cases q : f = (0 : Int32)
    · rw [if_pos q, own_d0]; exact own_f0n
    · rw [if_neg q, h q, own_d2f]; exact own_i2fn x
  · rw [if_pos q, own_d0]; exact fcmpV_self own_f0n _
  · rw [if_neg q, h q, own_d2f]; exact fcmpV_self (own_i2fn x) _
theorem own_gw {f : Int32} {v : UInt64} {x : Int32} (h : ¬ f = (0 : Int32) → v = FP.i2d x) : (f = (0 : Int32) → cmpValue (FP.dcmp (if f = (0 : Int32) then FP.dconst0 else v) FP.dconst0) .l = (0 : Int32)) ∧ (¬ f = (0 : Int32) → cmpValue (FP.dcmp (if f = (0 : Int32) then FP.dconst0 else v) (FP.i2d x)) .l = (0 : Int32)) := by
  refine ⟨fun q => ?_, fun q => ?_⟩
  · rw [if_pos q]; exact dcmpV_self own_d0n _
  · rw [if_neg q, h q]; exact dcmpV_self (i2d_fin x).noNaN _
theorem own_law_pn : plainName "com/example/fixd/fixd/client/LocationFixPinLaw" = true := by first | (simp [plainName, overriddenIn]; done) | decide +kernel
theorem own_law_pd0 : parseMethodDescriptor "(C)Ljava/lang/String;" = some ⟨[.char], some (.object "java/lang/String")⟩ := by decide +kernel
theorem own_law_pd1 : parseMethodDescriptor "([C)V" = some ⟨[(.array .char)], none⟩ := by decide +kernel
theorem own_law_pd2 : parseMethodDescriptor "(Ljava/lang/String;)V" = some ⟨[(.object "java/lang/String")], none⟩ := by decide +kernel
theorem own_law_pd3 : parseMethodDescriptor "(J)V" = some ⟨[.long], none⟩ := by decide +kernel
theorem own_law_pd4 : parseMethodDescriptor "(D)V" = some ⟨[.double], none⟩ := by decide +kernel
theorem own_law_pd5 : parseMethodDescriptor "(Ljava/lang/String;)Lcom/example/fixd/fixd/location/Location;" = some ⟨[(.object "java/lang/String")], some (.object "com/example/fixd/fixd/location/Location")⟩ := by decide +kernel
theorem own_law_pd6 : parseMethodDescriptor "(Lcom/example/fixd/fixd/location/Location;)V" = some ⟨[(.object "com/example/fixd/fixd/location/Location")], none⟩ := by decide +kernel
theorem own_law_pd7 : parseMethodDescriptor "()Ljava/lang/String;" = some ⟨[], some (.object "java/lang/String")⟩ := by decide +kernel
theorem own_law_pd8 : parseMethodDescriptor "(Ljava/lang/Object;)Z" = some ⟨[(.object "java/lang/Object")], some .boolean⟩ := by decide +kernel
theorem own_law_pd9 : parseMethodDescriptor "()J" = some ⟨[], some .long⟩ := by decide +kernel
theorem own_law_pd10 : parseMethodDescriptor "()D" = some ⟨[], some .double⟩ := by decide +kernel
theorem own_law_pd11 : parseMethodDescriptor "()Z" = some ⟨[], some .boolean⟩ := by decide +kernel
theorem own_law_pd12 : parseMethodDescriptor "()F" = some ⟨[], some .float⟩ := by decide +kernel
theorem own_law_pd13 : parseMethodDescriptor "(F)V" = some ⟨[.float], none⟩ := by decide +kernel
theorem own_law_ef (m : MethodId) (x0 : Int64) (x1 : Int32) (x2 : Int32) (x3 : Int64) (x4 : Int64) (x5 : Int64) : entryFrame m #[(.long x0), (.int x1), (.int x2), (.long x3), (.long x4), (.long x5)] maxLocals = mkF m 0 #[.val (.long x0), .second, .val (.int x1), .val (.int x2), .val (.long x3), .second, .val (.long x4), .second, .val (.long x5), .second, .unset, .unset, .unset, .unset, .unset, .unset, .unset, .unset, .unset, .unset, .unset, .unset, .unset, .unset, .unset, .unset, .unset, .unset, .unset, .unset, .unset, .unset, .unset, .unset, .unset, .unset, .unset, .unset, .unset, .unset] [] := by first | (simp [entryFrame, mkF, argsToLocals, Value.category, maxLocals]; done) | rfl
def own_law_Q (Z : State) (zc : Int32) (em : Addr) (ei : Addr) (ep : Addr) (t : Int64) (xa : Int32) (xo : Int32) (ab : Int64) (cd : Int64) (mi : Int64) (h0 : Heap) (n0 : Nat) (vv_ : Option Value) (hh_ : Heap) (LL_ : List Loc) : Prop := vv_ = some (.int (1 : Int32)) ∧ Fr n0 LL_ ∧ Ext h0 hh_
set_option maxRecDepth 65536 in
set_option maxHeartbeats 40000000 in
theorem own_law (l : Launch) (Z : State) (a0 : Array Value) (hw : ∀ d ∈ tables_1, d.before a0 Z = true) (ws : List Jvm.Cond) (zc : Int32) (em : Addr) (ei : Addr) (ep : Addr) (t : Int64) (xa : Int32) (xo : Int32) (ab : Int64) (cd : Int64) (mi : Int64) (h0 : Heap) (n0 : Nat) (Z0 : n0 ≤ h0.size) (hOld : Old Z n0 h0) (Scs : Sta Z Z.heap "java/lang/String" "COMPACT_STRINGS" "Z" (.int zc)) (hzc : ¬ zc = (0 : Int32)) (Sem : Sta Z Z.heap "java/util/OptionalDouble" "EMPTY" "Ljava/util/OptionalDouble;" (.ref em)) (Oem : Opt Z Z.heap em (0 : Int32) 0) (Eem : Exa Z Z.heap em "java/util/OptionalDouble") (Sei : Sta Z Z.heap "java/util/OptionalInt" "EMPTY" "Ljava/util/OptionalInt;" (.ref ei)) (Eei : Exa Z Z.heap ei "java/util/OptionalInt") (Sep : Sta Z Z.heap "java/time/Instant" "EPOCH" "Ljava/time/Instant;" (.ref ep)) (Tep : Tim Z Z.heap ep (0 : Int64)) (Eep : Exa Z Z.heap ep "java/time/Instant") :
    MetFree l x (head1 (Jvm.Cond.code x code maxLocals ret :: ws) room_1) (fun aa_ UU_ => aa_ = #[(.long t), (.int xa), (.int xo), (.long ab), (.long cd), (.long mi)] ∧ Z.Warmed39 UU_.vm ∧ UU_.heap = h0) (fun _ _ _ _ _ => True) (fun _ UU_ oo_ UV_ => ∃ vv_ LL_, oo_ = .returned vv_ ∧ own_law_Q Z zc em ei ep t xa xo ab cd mi h0 n0 vv_ UV_.heap LL_ ∧ ReturnedEndW UU_ oo_ UV_ LL_ room_1.cells room_1.slots) := by
  refine MetFree.of_bodySF (plainFor_of_name own_law_pn) hisR ?_
  intro p e s m args below meth c s₁ Bd hml0 hP hK
  obtain ⟨rfl, hZ, hh⟩ := hP
  have hx := Bd.exec
  have hby := Bd.bytes
  have hml : c.maxLocals = 40 := hml0
  have hown : s.vm.findClass "com/example/fixd/fixd/client/LocationFixPinLaw" = some m.cls := findClass_of_methodNamed Bd.named
  have hnm := (name_of_methodNamed Bd.named Bd.method).1
  have X0 : Stand p l e room_1 (s.setVm s.vm) m #[(.long t), (.int xa), (.int xo), (.long ab), (.long cd), (.long mi)] below meth c s₁ [] 0 0 := Stand.of_body Bd
  have e0 : s₁.heap = h0 := by rw [← hh, Bd.state]; rfl
  have N0 := Fr.nil n0
  have KP0 : Keep h0 h0 [] := Keep.refl _ _
  have hS : s.Since s.vm 0 := (State.WarmedH.refl s).since 0
  refine ownFinW (Q := own_law_Q Z zc em ei ep t xa xo ab cd mi h0 n0) ?_
  refine ownStep (fun _ k => castTop (own_law_ef m t xa xo ab cd mi) k) ?_
  show ownGo p.tables e below (s₁.setTop (mkF m 0 #[.val (.long t), .second, .val (.int xa), .val (.int xo), .val (.long ab), .second, .val (.long cd), .second, .val (.long mi), .second, .unset, .unset, .unset, .unset, .unset, .unset, .unset, .unset, .unset, .unset, .unset, .unset, .unset, .unset, .unset, .unset, .unset, .unset, .unset, .unset, .unset, .unset, .unset, .unset, .unset, .unset, .unset, .unset, .unset, .unset] [])) _
  refine ownStep (fun _ k => XS.lload X0.here hx rfl (hb hby at_0) rfl  k) ?_
  refine ownStep (fun _ k => XS.bipush X0.here hx rfl (hb hby at_2) k) ?_
  refine ownStep (fun _ k => XS.lushr X0.here hx rfl (hb hby at_4) rfl k) ?_
  refine ownStep (fun _ k => XS.l2i X0.here hx rfl (hb hby at_5) rfl k) ?_
  refine ownStep (fun _ k => XS.istore X0.here hx rfl (hb hby at_6) rfl (l' := #[.val (.long t), .second, .val (.int xa), .val (.int xo), .val (.long ab), .second, .val (.long cd), .second, .val (.long mi), .second, .val (.int (((mi.toUInt64 >>> ((32 : Int32) &&& 0x3f).toInt64.toUInt64).toInt64).toInt32)), .unset, .unset, .unset, .unset, .unset, .unset, .unset, .unset, .unset, .unset, .unset, .unset, .unset, .unset, .unset, .unset, .unset, .unset, .unset, .unset, .unset, .unset, .unset, .unset, .unset, .unset, .unset, .unset, .unset]) rfl k) ?_
  show ownGo p.tables e below (s₁.setTop (mkF m 8 #[.val (.long t), .second, .val (.int xa), .val (.int xo), .val (.long ab), .second, .val (.long cd), .second, .val (.long mi), .second, .val (.int (((mi.toUInt64 >>> ((32 : Int32) &&& 0x3f).toInt64.toUInt64).toInt64).toInt32)), .unset, .unset, .unset, .unset, .unset, .unset, .unset, .unset, .unset, .unset, .unset, .unset, .unset, .unset, .unset, .unset, .unset, .unset, .unset, .unset, .unset, .unset, .unset, .unset, .unset, .unset, .unset, .unset, .unset] [])) _
  obtain ⟨hiw, ehh⟩ : ∃ z, (((mi.toUInt64 >>> ((32 : Int32) &&& 0x3f).toInt64.toUInt64).toInt64).toInt32) = z := ⟨_, rfl⟩
  rw [ehh]
  show ownGo p.tables e below (s₁.setTop (mkF m 8 #[.val (.long t), .second, .val (.int xa), .val (.int xo), .val (.long ab), .second, .val (.long cd), .second, .val (.long mi), .second, .val (.int hiw), .unset, .unset, .unset, .unset, .unset, .unset, .unset, .unset, .unset, .unset, .unset, .unset, .unset, .unset, .unset, .unset, .unset, .unset, .unset, .unset, .unset, .unset, .unset, .unset, .unset, .unset, .unset, .unset, .unset] [])) _
  have J22 : ∀ (Tj : State) (Lj : List Loc) (Xj : Stand p l e room_1 (s.setVm s.vm) m #[(.long t), (.int xa), (.int xo), (.long ab), (.long cd), (.long mi)] below meth c Tj Lj 0 0) (ej : Tj.heap = h0) (Nj : Fr n0 Lj) (f1 : Int32) (bf1 : f1 = (0 : Int32) ∨ f1 = (1 : Int32)), ownGo p.tables e below (Tj.setTop (mkF m 22 #[.val (.long t), .second, .val (.int xa), .val (.int xo), .val (.long ab), .second, .val (.long cd), .second, .val (.long mi), .second, .val (.int hiw), .val (.int f1), .unset, .unset, .unset, .unset, .unset, .unset, .unset, .unset, .unset, .unset, .unset, .unset, .unset, .unset, .unset, .unset, .unset, .unset, .unset, .unset, .unset, .unset, .unset, .unset, .unset, .unset, .unset, .unset] [])) (ownEndW below s (own_law_Q Z zc em ei ep t xa xo ab cd mi h0 n0) room_1.cells room_1.slots) := by
    intro Tj Lj Xj ej Nj f1 bf1
    show ownGo p.tables e below (Tj.setTop (mkF m 22 #[.val (.long t), .second, .val (.int xa), .val (.int xo), .val (.long ab), .second, .val (.long cd), .second, .val (.long mi), .second, .val (.int hiw), .val (.int f1), .unset, .unset, .unset, .unset, .unset, .unset, .unset, .unset, .unset, .unset, .unset, .unset, .unset, .unset, .unset, .unset, .unset, .unset, .unset, .unset, .unset, .unset, .unset, .unset, .unset, .unset, .unset, .unset] [])) _
    have J36 : ∀ (Tj : State) (Lj : List Loc) (Xj : Stand p l e room_1 (s.setVm s.vm) m #[(.long t), (.int xa), (.int xo), (.long ab), (.long cd), (.long mi)] below meth c Tj Lj 0 0) (ej : Tj.heap = h0) (Nj : Fr n0 Lj) (f2 : Int32) (bf2 : f2 = (0 : Int32) ∨ f2 = (1 : Int32)), ownGo p.tables e below (Tj.setTop (mkF m 36 #[.val (.long t), .second, .val (.int xa), .val (.int xo), .val (.long ab), .second, .val (.long cd), .second, .val (.long mi), .second, .val (.int hiw), .val (.int f1), .val (.int f2), .unset, .unset, .unset, .unset, .unset, .unset, .unset, .unset, .unset, .unset, .unset, .unset, .unset, .unset, .unset, .unset, .unset, .unset, .unset, .unset, .unset, .unset, .unset, .unset, .unset, .unset, .unset] [])) (ownEndW below s (own_law_Q Z zc em ei ep t xa xo ab cd mi h0 n0) room_1.cells room_1.slots) := by
      intro Tj Lj Xj ej Nj f2 bf2
      show ownGo p.tables e below (Tj.setTop (mkF m 36 #[.val (.long t), .second, .val (.int xa), .val (.int xo), .val (.long ab), .second, .val (.long cd), .second, .val (.long mi), .second, .val (.int hiw), .val (.int f1), .val (.int f2), .unset, .unset, .unset, .unset, .unset, .unset, .unset, .unset, .unset, .unset, .unset, .unset, .unset, .unset, .unset, .unset, .unset, .unset, .unset, .unset, .unset, .unset, .unset, .unset, .unset, .unset, .unset] [])) _
      have J50 : ∀ (Tj : State) (Lj : List Loc) (Xj : Stand p l e room_1 (s.setVm s.vm) m #[(.long t), (.int xa), (.int xo), (.long ab), (.long cd), (.long mi)] below meth c Tj Lj 0 0) (ej : Tj.heap = h0) (Nj : Fr n0 Lj) (f3 : Int32) (bf3 : f3 = (0 : Int32) ∨ f3 = (1 : Int32)), ownGo p.tables e below (Tj.setTop (mkF m 50 #[.val (.long t), .second, .val (.int xa), .val (.int xo), .val (.long ab), .second, .val (.long cd), .second, .val (.long mi), .second, .val (.int hiw), .val (.int f1), .val (.int f2), .val (.int f3), .unset, .unset, .unset, .unset, .unset, .unset, .unset, .unset, .unset, .unset, .unset, .unset, .unset, .unset, .unset, .unset, .unset, .unset, .unset, .unset, .unset, .unset, .unset, .unset, .unset, .unset] [])) (ownEndW below s (own_law_Q Z zc em ei ep t xa xo ab cd mi h0 n0) room_1.cells room_1.slots) := by
        intro Tj Lj Xj ej Nj f3 bf3
        show ownGo p.tables e below (Tj.setTop (mkF m 50 #[.val (.long t), .second, .val (.int xa), .val (.int xo), .val (.long ab), .second, .val (.long cd), .second, .val (.long mi), .second, .val (.int hiw), .val (.int f1), .val (.int f2), .val (.int f3), .unset, .unset, .unset, .unset, .unset, .unset, .unset, .unset, .unset, .unset, .unset, .unset, .unset, .unset, .unset, .unset, .unset, .unset, .unset, .unset, .unset, .unset, .unset, .unset, .unset, .unset] [])) _
        have J65 : ∀ (Tj : State) (Lj : List Loc) (Xj : Stand p l e room_1 (s.setVm s.vm) m #[(.long t), (.int xa), (.int xo), (.long ab), (.long cd), (.long mi)] below meth c Tj Lj 0 0) (ej : Tj.heap = h0) (Nj : Fr n0 Lj) (f4 : Int32) (bf4 : f4 = (0 : Int32) ∨ f4 = (1 : Int32)), ownGo p.tables e below (Tj.setTop (mkF m 65 #[.val (.long t), .second, .val (.int xa), .val (.int xo), .val (.long ab), .second, .val (.long cd), .second, .val (.long mi), .second, .val (.int hiw), .val (.int f1), .val (.int f2), .val (.int f3), .val (.int f4), .unset, .unset, .unset, .unset, .unset, .unset, .unset, .unset, .unset, .unset, .unset, .unset, .unset, .unset, .unset, .unset, .unset, .unset, .unset, .unset, .unset, .unset, .unset, .unset, .unset] [])) (ownEndW below s (own_law_Q Z zc em ei ep t xa xo ab cd mi h0 n0) room_1.cells room_1.slots) := by
          intro Tj Lj Xj ej Nj f4 bf4
          show ownGo p.tables e below (Tj.setTop (mkF m 65 #[.val (.long t), .second, .val (.int xa), .val (.int xo), .val (.long ab), .second, .val (.long cd), .second, .val (.long mi), .second, .val (.int hiw), .val (.int f1), .val (.int f2), .val (.int f3), .val (.int f4), .unset, .unset, .unset, .unset, .unset, .unset, .unset, .unset, .unset, .unset, .unset, .unset, .unset, .unset, .unset, .unset, .unset, .unset, .unset, .unset, .unset, .unset, .unset, .unset, .unset] [])) _
          have J80 : ∀ (Tj : State) (Lj : List Loc) (Xj : Stand p l e room_1 (s.setVm s.vm) m #[(.long t), (.int xa), (.int xo), (.long ab), (.long cd), (.long mi)] below meth c Tj Lj 0 0) (ej : Tj.heap = h0) (Nj : Fr n0 Lj) (f5 : Int32) (bf5 : f5 = (0 : Int32) ∨ f5 = (1 : Int32)), ownGo p.tables e below (Tj.setTop (mkF m 80 #[.val (.long t), .second, .val (.int xa), .val (.int xo), .val (.long ab), .second, .val (.long cd), .second, .val (.long mi), .second, .val (.int hiw), .val (.int f1), .val (.int f2), .val (.int f3), .val (.int f4), .val (.int f5), .unset, .unset, .unset, .unset, .unset, .unset, .unset, .unset, .unset, .unset, .unset, .unset, .unset, .unset, .unset, .unset, .unset, .unset, .unset, .unset, .unset, .unset, .unset, .unset] [])) (ownEndW below s (own_law_Q Z zc em ei ep t xa xo ab cd mi h0 n0) room_1.cells room_1.slots) := by
            intro Tj Lj Xj ej Nj f5 bf5
            refine ownStep (fun _ k => XS.iload Xj.here hx rfl (hb hby at_80) rfl  k) ?_
            refine ownStep (fun _ k => XS.iconst Xj.here hx rfl (hb hby at_82) k) ?_
            refine ownStep (fun _ k => XS.iushr Xj.here hx rfl (hb hby at_83) rfl k) ?_
            refine ownStep (fun _ k => XS.sipush Xj.here hx rfl (hb hby at_84) k) ?_
            refine ownStep (fun _ k => XS.iand Xj.here hx rfl (hb hby at_87) rfl k) ?_
            refine ownStep (fun _ k => XS.i2c Xj.here hx rfl (hb hby at_88) rfl k) ?_
            refine ownStep (fun _ k => XS.istore Xj.here hx rfl (hb hby at_89) rfl (l' := #[.val (.long t), .second, .val (.int xa), .val (.int xo), .val (.long ab), .second, .val (.long cd), .second, .val (.long mi), .second, .val (.int hiw), .val (.int f1), .val (.int f2), .val (.int f3), .val (.int f4), .val (.int f5), .val (.int ((((hiw.toUInt32 >>> ((5 : Int32) &&& 31).toUInt32).toInt32) &&& (255 : Int32)).toUInt32.toUInt16.toUInt32.toInt32)), .unset, .unset, .unset, .unset, .unset, .unset, .unset, .unset, .unset, .unset, .unset, .unset, .unset, .unset, .unset, .unset, .unset, .unset, .unset, .unset, .unset, .unset, .unset]) rfl k) ?_
            show ownGo p.tables e below (Tj.setTop (mkF m 91 #[.val (.long t), .second, .val (.int xa), .val (.int xo), .val (.long ab), .second, .val (.long cd), .second, .val (.long mi), .second, .val (.int hiw), .val (.int f1), .val (.int f2), .val (.int f3), .val (.int f4), .val (.int f5), .val (.int ((((hiw.toUInt32 >>> ((5 : Int32) &&& 31).toUInt32).toInt32) &&& (255 : Int32)).toUInt32.toUInt16.toUInt32.toInt32)), .unset, .unset, .unset, .unset, .unset, .unset, .unset, .unset, .unset, .unset, .unset, .unset, .unset, .unset, .unset, .unset, .unset, .unset, .unset, .unset, .unset, .unset, .unset] [])) _
            obtain ⟨c0, e_c0, l_c0, u_c0⟩ := own_ch ((hiw.toUInt32 >>> ((5 : Int32) &&& 31).toUInt32).toInt32)
            rw [e_c0]
            refine ownStep (fun _ k => XS.iload Xj.here hx rfl (hb hby at_91) rfl  k) ?_
            refine ownStep (fun _ k => XS.bipush Xj.here hx rfl (hb hby at_93) k) ?_
            refine ownStep (fun _ k => XS.iushr Xj.here hx rfl (hb hby at_95) rfl k) ?_
            refine ownStep (fun _ k => XS.sipush Xj.here hx rfl (hb hby at_96) k) ?_
            refine ownStep (fun _ k => XS.iand Xj.here hx rfl (hb hby at_99) rfl k) ?_
            refine ownStep (fun _ k => XS.i2c Xj.here hx rfl (hb hby at_100) rfl k) ?_
            refine ownStep (fun _ k => XS.istore Xj.here hx rfl (hb hby at_101) rfl (l' := #[.val (.long t), .second, .val (.int xa), .val (.int xo), .val (.long ab), .second, .val (.long cd), .second, .val (.long mi), .second, .val (.int hiw), .val (.int f1), .val (.int f2), .val (.int f3), .val (.int f4), .val (.int f5), .val (.int c0), .val (.int ((((hiw.toUInt32 >>> ((13 : Int32) &&& 31).toUInt32).toInt32) &&& (255 : Int32)).toUInt32.toUInt16.toUInt32.toInt32)), .unset, .unset, .unset, .unset, .unset, .unset, .unset, .unset, .unset, .unset, .unset, .unset, .unset, .unset, .unset, .unset, .unset, .unset, .unset, .unset, .unset, .unset]) rfl k) ?_
            show ownGo p.tables e below (Tj.setTop (mkF m 103 #[.val (.long t), .second, .val (.int xa), .val (.int xo), .val (.long ab), .second, .val (.long cd), .second, .val (.long mi), .second, .val (.int hiw), .val (.int f1), .val (.int f2), .val (.int f3), .val (.int f4), .val (.int f5), .val (.int c0), .val (.int ((((hiw.toUInt32 >>> ((13 : Int32) &&& 31).toUInt32).toInt32) &&& (255 : Int32)).toUInt32.toUInt16.toUInt32.toInt32)), .unset, .unset, .unset, .unset, .unset, .unset, .unset, .unset, .unset, .unset, .unset, .unset, .unset, .unset, .unset, .unset, .unset, .unset, .unset, .unset, .unset, .unset] [])) _
            obtain ⟨c1, e_c1, l_c1, u_c1⟩ := own_ch ((hiw.toUInt32 >>> ((13 : Int32) &&& 31).toUInt32).toInt32)
            rw [e_c1]
            refine ownStep (fun _ k => XS.iload Xj.here hx rfl (hb hby at_103) rfl  k) ?_
            refine ownStep (fun _ k => XS.bipush Xj.here hx rfl (hb hby at_105) k) ?_
            refine ownStep (fun _ k => XS.iushr Xj.here hx rfl (hb hby at_107) rfl k) ?_
            refine ownStep (fun _ k => XS.sipush Xj.here hx rfl (hb hby at_108) k) ?_
            refine ownStep (fun _ k => XS.iand Xj.here hx rfl (hb hby at_111) rfl k) ?_
            refine ownStep (fun _ k => XS.i2c Xj.here hx rfl (hb hby at_112) rfl k) ?_
            refine ownStep (fun _ k => XS.istore Xj.here hx rfl (hb hby at_113) rfl (l' := #[.val (.long t), .second, .val (.int xa), .val (.int xo), .val (.long ab), .second, .val (.long cd), .second, .val (.long mi), .second, .val (.int hiw), .val (.int f1), .val (.int f2), .val (.int f3), .val (.int f4), .val (.int f5), .val (.int c0), .val (.int c1), .val (.int ((((hiw.toUInt32 >>> ((21 : Int32) &&& 31).toUInt32).toInt32) &&& (255 : Int32)).toUInt32.toUInt16.toUInt32.toInt32)), .unset, .unset, .unset, .unset, .unset, .unset, .unset, .unset, .unset, .unset, .unset, .unset, .unset, .unset, .unset, .unset, .unset, .unset, .unset, .unset, .unset]) rfl k) ?_
            show ownGo p.tables e below (Tj.setTop (mkF m 115 #[.val (.long t), .second, .val (.int xa), .val (.int xo), .val (.long ab), .second, .val (.long cd), .second, .val (.long mi), .second, .val (.int hiw), .val (.int f1), .val (.int f2), .val (.int f3), .val (.int f4), .val (.int f5), .val (.int c0), .val (.int c1), .val (.int ((((hiw.toUInt32 >>> ((21 : Int32) &&& 31).toUInt32).toInt32) &&& (255 : Int32)).toUInt32.toUInt16.toUInt32.toInt32)), .unset, .unset, .unset, .unset, .unset, .unset, .unset, .unset, .unset, .unset, .unset, .unset, .unset, .unset, .unset, .unset, .unset, .unset, .unset, .unset, .unset] [])) _
            obtain ⟨c2, e_c2, l_c2, u_c2⟩ := own_ch ((hiw.toUInt32 >>> ((21 : Int32) &&& 31).toUInt32).toInt32)
            rw [e_c2]
            refine ownStep (fun _ k => XS.iload Xj.here hx rfl (hb hby at_115) rfl  k) ?_
            show ownGo p.tables e below (Tj.setTop (mkF m 117 #[.val (.long t), .second, .val (.int xa), .val (.int xo), .val (.long ab), .second, .val (.long cd), .second, .val (.long mi), .second, .val (.int hiw), .val (.int f1), .val (.int f2), .val (.int f3), .val (.int f4), .val (.int f5), .val (.int c0), .val (.int c1), .val (.int c2), .unset, .unset, .unset, .unset, .unset, .unset, .unset, .unset, .unset, .unset, .unset, .unset, .unset, .unset, .unset, .unset, .unset, .unset, .unset, .unset, .unset] [(.int c0)])) _
            have Zs2 : n0 ≤ h0.size := Nat.le_trans Z0 KP0.1
            obtain ⟨_, _, ⟨T1, L1, k1, n1⟩, -, X1, ⟨Lc1, hQ1, l1, y1, z1⟩, st1⟩ := Jvm.LawKit.callS Xj hx (y := (⟨"java/lang/String", "valueOf", "(C)Ljava/lang/String;"⟩ : MethodName)) hown (mvT hZ (hw _ ow0)) (mvT hZ (hw _ ow1)) (mvT hZ (hw _ ow2)) (mvT hZ (hw _ ow3)) (by decide) (backOf (W := 0) (own_vof l Z a0 hw [] zc c0 h0 n0 Zs2 hOld Scs hzc u_c0) hZ (hw _ ow3) (hw _ ow2) (by decide) (by decide)) (g := (mkF m 117 #[.val (.long t), .second, .val (.int xa), .val (.int xo), .val (.long ab), .second, .val (.long cd), .second, .val (.long mi), .second, .val (.int hiw), .val (.int f1), .val (.int f2), .val (.int f3), .val (.int f4), .val (.int f5), .val (.int c0), .val (.int c1), .val (.int c2), .unset, .unset, .unset, .unset, .unset, .unset, .unset, .unset, .unset, .unset, .unset, .unset, .unset, .unset, .unset, .unset, .unset, .unset, .unset, .unset, .unset] [(.int c0)])) rfl (by rw [hml]; rfl) (argsL := [(.int c0)]) (rest := []) (lenOf own_law_pd0 rfl) rfl (by show 2 * 0 + _ ≤ _; exact Nat.le_of_eq rfl) (hb hby at_117) (fun _ _ => ⟨rfl, ej, (by decide : 0 + 2 ≤ _), (by decide : 0 + 5 ≤ _)⟩)
            dsimp only [Pt.U, Pt.locs, Pt.cells, Pt.slots] at X1 l1 y1 z1 st1 hQ1
            obtain rfl : k1 = 2 := y1
            obtain rfl : n1 = 5 := z1
            obtain ⟨ov, rfl, N1q, R1, P3, P4⟩ := hQ1
            have N1 : Fr n0 L1 := l1 ▸ Fr.app Nj N1q
            have gh_ov : h0.size ≤ ov := Nat.le_trans KP0.1 P3
            have gn_ov : n0 ≤ ov := Nat.le_trans Z0 gh_ov
            refine ownStep (fun _ k => st1 _ k) ?_
            have KP5 : Keep h0 T1.heap [] := KP0.ext R1
            refine ownStep (fun _ k => XS.astore X1.here hx rfl (hb hby at_120) rfl rfl (l' := #[.val (.long t), .second, .val (.int xa), .val (.int xo), .val (.long ab), .second, .val (.long cd), .second, .val (.long mi), .second, .val (.int hiw), .val (.int f1), .val (.int f2), .val (.int f3), .val (.int f4), .val (.int f5), .val (.int c0), .val (.int c1), .val (.int c2), .val (.ref ov), .unset, .unset, .unset, .unset, .unset, .unset, .unset, .unset, .unset, .unset, .unset, .unset, .unset, .unset, .unset, .unset, .unset, .unset, .unset, .unset]) rfl k) ?_
            show ownGo p.tables e below (T1.setTop (mkF m 122 #[.val (.long t), .second, .val (.int xa), .val (.int xo), .val (.long ab), .second, .val (.long cd), .second, .val (.long mi), .second, .val (.int hiw), .val (.int f1), .val (.int f2), .val (.int f3), .val (.int f4), .val (.int f5), .val (.int c0), .val (.int c1), .val (.int c2), .val (.ref ov), .unset, .unset, .unset, .unset, .unset, .unset, .unset, .unset, .unset, .unset, .unset, .unset, .unset, .unset, .unset, .unset, .unset, .unset, .unset, .unset] [])) _
            obtain ⟨T6, h6, X6, e6, E6, A6, D6, U6, st6⟩ := newO X1 hx hZ hown (hw _ ow26) (hw _ ow10) (hw _ ow2) rfl (g := (mkF m 122 #[.val (.long t), .second, .val (.int xa), .val (.int xo), .val (.long ab), .second, .val (.long cd), .second, .val (.long mi), .second, .val (.int hiw), .val (.int f1), .val (.int f2), .val (.int f3), .val (.int f4), .val (.int f5), .val (.int c0), .val (.int c1), .val (.int c2), .val (.ref ov), .unset, .unset, .unset, .unset, .unset, .unset, .unset, .unset, .unset, .unset, .unset, .unset, .unset, .unset, .unset, .unset, .unset, .unset, .unset, .unset] [])) rfl (hb hby at_122) (by decide) (by decide)
            obtain ⟨b6, g6⟩ : ∃ z, z = T1.heap.size := ⟨_, rfl⟩
            rw [← g6] at A6 D6 U6 st6
            have gh_b6 : h0.size ≤ b6 := Nat.le_trans KP5.1 (Nat.le_of_eq g6.symm)
            have gn_b6 : n0 ≤ b6 := Nat.le_trans Z0 gh_b6
            have KP7 : Keep h0 h6 [] := KP5.ext E6
            have F8 : Fld Z h6 b6 "java/lang/String" "value" "[B" .null := D6 (Or.inr (hw _ ow23)) (ty := (.array .byte)) (by decide)
            have F9 : Fld Z h6 b6 "java/lang/String" "coder" "B" (.int (0 : Int32)) := D6 (Or.inr (hw _ ow25)) (ty := .byte) (by decide)
            refine ownStep st6 ?_
            refine ownStep (fun _ k => XS.dup X6.here hx rfl (hb hby at_125) rfl rfl k) ?_
            refine ownStep (fun _ k => XS.iconst X6.here hx rfl (hb hby at_126) k) ?_
            show ownGo p.tables e below (T6.setTop (mkF m 127 #[.val (.long t), .second, .val (.int xa), .val (.int xo), .val (.long ab), .second, .val (.long cd), .second, .val (.long mi), .second, .val (.int hiw), .val (.int f1), .val (.int f2), .val (.int f3), .val (.int f4), .val (.int f5), .val (.int c0), .val (.int c1), .val (.int c2), .val (.ref ov), .unset, .unset, .unset, .unset, .unset, .unset, .unset, .unset, .unset, .unset, .unset, .unset, .unset, .unset, .unset, .unset, .unset, .unset, .unset, .unset] [(.int (2 : Int32)), (.ref b6), (.ref b6)])) _
            obtain ⟨T10, h10, k10, X10, e10, E10, A10, st10⟩ := newP X6 hx hZ (hw _ (List.mem_of_getElem? (i := 27) rfl)) e6 (g := (mkF m 127 #[.val (.long t), .second, .val (.int xa), .val (.int xo), .val (.long ab), .second, .val (.long cd), .second, .val (.long mi), .second, .val (.int hiw), .val (.int f1), .val (.int f2), .val (.int f3), .val (.int f4), .val (.int f5), .val (.int c0), .val (.int c1), .val (.int c2), .val (.ref ov), .unset, .unset, .unset, .unset, .unset, .unset, .unset, .unset, .unset, .unset, .unset, .unset, .unset, .unset, .unset, .unset, .unset, .unset, .unset, .unset] [(.int (2 : Int32)), (.ref b6), (.ref b6)])) rfl (hb hby at_127) rfl (by decide) (cap := 2) (by decide) (by decide) (by decide) (by decide)
            obtain ⟨b10, g10⟩ : ∃ z, z = h6.size := ⟨_, rfl⟩
            rw [← g10] at A10 st10
            have gh_b10 : h0.size ≤ b10 := Nat.le_trans KP7.1 (Nat.le_of_eq g10.symm)
            have gn_b10 : n0 ≤ b10 := Nat.le_trans Z0 gh_b10
            have KP11 : Keep h0 h10 [] := KP7.ext E10
            have V10 : Arv Z h10 b10 k10 .char (2 : Int32) [(.int (0 : Int32)), (.int (0 : Int32))] (.int (0 : Int32)) := (Arv.new A10 (by decide)).pad (pad_rep [] (.int (0 : Int32)) 2)
            refine ownStep st10 ?_
            refine ownStep (fun _ k => XS.dup X10.here hx rfl (hb hby at_129) rfl rfl k) ?_
            refine ownStep (fun _ k => XS.iconst X10.here hx rfl (hb hby at_130) k) ?_
            refine ownStep (fun _ k => XS.iload X10.here hx rfl (hb hby at_131) rfl  k) ?_
            show ownGo p.tables e below (T10.setTop (mkF m 133 #[.val (.long t), .second, .val (.int xa), .val (.int xo), .val (.long ab), .second, .val (.long cd), .second, .val (.long mi), .second, .val (.int hiw), .val (.int f1), .val (.int f2), .val (.int f3), .val (.int f4), .val (.int f5), .val (.int c0), .val (.int c1), .val (.int c2), .val (.ref ov), .unset, .unset, .unset, .unset, .unset, .unset, .unset, .unset, .unset, .unset, .unset, .unset, .unset, .unset, .unset, .unset, .unset, .unset, .unset, .unset] [(.int c1), (.int (0 : Int32)), (.ref b10), (.ref b10), (.ref b6), (.ref b6)])) _
            have Vo12 := V10
            obtain ⟨cl12, Ar12, q12, S12, N12, H12, G12⟩ := Vo12
            have hin12 : ¬ ((0 : Int32) < 0 ∨ cl12.slots.size ≤ ((0 : Int32)).toNatClampNeg) := inb_of S12 ⟨by decide, by decide⟩
            obtain ⟨T13, h13, X13, e13, W13, st13⟩ := stC X10 hx hZ e10 Ar12 (j := (0 : Int32)) hin12 (g := (mkF m 133 #[.val (.long t), .second, .val (.int xa), .val (.int xo), .val (.long ab), .second, .val (.long cd), .second, .val (.long mi), .second, .val (.int hiw), .val (.int f1), .val (.int f2), .val (.int f3), .val (.int f4), .val (.int f5), .val (.int c0), .val (.int c1), .val (.int c2), .val (.ref ov), .unset, .unset, .unset, .unset, .unset, .unset, .unset, .unset, .unset, .unset, .unset, .unset, .unset, .unset, .unset, .unset, .unset, .unset, .unset, .unset] [(.int c1), (.int (0 : Int32)), (.ref b10), (.ref b10), (.ref b6), (.ref b6)])) rfl rfl (hb hby at_133)
            have N14 := Fr.snoc X13 N1 gn_b10
            have KP15 : Keep h0 h13 [] := KP11.wr W13 (Or.inr gh_b10)
            have V16 : Arv Z h13 b10 k10 .char (2 : Int32) [(.int c1.toUInt32.toUInt16.toUInt32.toInt32), (.int (0 : Int32))] (.int (0 : Int32)) := Arv.set Ar12 q12 S12 N12 H12 G12 (fits_nar_char _) W13 0 rfl (Nat.le_of_ble_eq_true rfl)
            refine ownStep st13 ?_
            refine ownStep (fun _ k => XS.dup X13.here hx rfl (hb hby at_134) rfl rfl k) ?_
            refine ownStep (fun _ k => XS.iconst X13.here hx rfl (hb hby at_135) k) ?_
            refine ownStep (fun _ k => XS.iload X13.here hx rfl (hb hby at_136) rfl  k) ?_
            show ownGo p.tables e below (T13.setTop (mkF m 138 #[.val (.long t), .second, .val (.int xa), .val (.int xo), .val (.long ab), .second, .val (.long cd), .second, .val (.long mi), .second, .val (.int hiw), .val (.int f1), .val (.int f2), .val (.int f3), .val (.int f4), .val (.int f5), .val (.int c0), .val (.int c1), .val (.int c2), .val (.ref ov), .unset, .unset, .unset, .unset, .unset, .unset, .unset, .unset, .unset, .unset, .unset, .unset, .unset, .unset, .unset, .unset, .unset, .unset, .unset, .unset] [(.int c2), (.int (1 : Int32)), (.ref b10), (.ref b10), (.ref b6), (.ref b6)])) _
            have Vo17 := V16
            obtain ⟨cl17, Ar17, q17, S17, N17, H17, G17⟩ := Vo17
            have hin17 : ¬ ((1 : Int32) < 0 ∨ cl17.slots.size ≤ ((1 : Int32)).toNatClampNeg) := inb_of S17 ⟨by decide, by decide⟩
            obtain ⟨T18, h18, X18, e18, W18, st18⟩ := stC X13 hx hZ e13 Ar17 (j := (1 : Int32)) hin17 (g := (mkF m 138 #[.val (.long t), .second, .val (.int xa), .val (.int xo), .val (.long ab), .second, .val (.long cd), .second, .val (.long mi), .second, .val (.int hiw), .val (.int f1), .val (.int f2), .val (.int f3), .val (.int f4), .val (.int f5), .val (.int c0), .val (.int c1), .val (.int c2), .val (.ref ov), .unset, .unset, .unset, .unset, .unset, .unset, .unset, .unset, .unset, .unset, .unset, .unset, .unset, .unset, .unset, .unset, .unset, .unset, .unset, .unset] [(.int c2), (.int (1 : Int32)), (.ref b10), (.ref b10), (.ref b6), (.ref b6)])) rfl rfl (hb hby at_138)
            have N19 := Fr.snoc X18 N14 gn_b10
            have KP20 : Keep h0 h18 [] := KP15.wr W18 (Or.inr gh_b10)
            have V21 : Arv Z h18 b10 k10 .char (2 : Int32) [(.int c1.toUInt32.toUInt16.toUInt32.toInt32), (.int c2.toUInt32.toUInt16.toUInt32.toInt32)] (.int (0 : Int32)) := Arv.set Ar17 q17 S17 N17 H17 G17 (fits_nar_char _) W18 1 rfl (Nat.le_of_ble_eq_true rfl)
            refine ownStep st18 ?_
            show ownGo p.tables e below (T18.setTop (mkF m 139 #[.val (.long t), .second, .val (.int xa), .val (.int xo), .val (.long ab), .second, .val (.long cd), .second, .val (.long mi), .second, .val (.int hiw), .val (.int f1), .val (.int f2), .val (.int f3), .val (.int f4), .val (.int f5), .val (.int c0), .val (.int c1), .val (.int c2), .val (.ref ov), .unset, .unset, .unset, .unset, .unset, .unset, .unset, .unset, .unset, .unset, .unset, .unset, .unset, .unset, .unset, .unset, .unset, .unset, .unset, .unset] [(.ref b10), (.ref b6), (.ref b6)])) _
            have V22 : Arv Z h18 b10 k10 .char (2 : Int32) [(.int c1), (.int c2)] (.int (0 : Int32)) := by have q := V21; rw [own_nc l_c1 u_c1, own_nc l_c2 u_c2] at q; exact q
            have Q23 := (((A6.ext E10).wr W13).wr W18)
            have ne24 : b6 ≠ b10 := Nat.ne_of_lt (Nat.lt_of_lt_of_le (Nat.lt_of_lt_of_le A6.lt (Nat.le_refl _)) (Nat.le_of_eq g10.symm))
            have Q25 := (((F8.ext E10).other W13 (Or.inl ne24)).other W18 (Or.inl ne24))
            have Q26 := (((F9.ext E10).other W13 (Or.inl ne24)).other W18 (Or.inl ne24))
            have Q27 := (((((hOld.ext R1).ext E6).ext E10).wr W13 gn_b10).wr W18 gn_b10)
            have Q28 := Scs.ext Q27.2
            have Zs29 : n0 ≤ h18.size := Nat.le_trans Z0 KP20.1
            obtain ⟨_, _, ⟨T30, L30, k30, n30⟩, -, X30, ⟨Lc30, hQ30, l30, y30, z30⟩, st30⟩ := X18.specialBack hx (y := (⟨"java/lang/String", "<init>", "([C)V"⟩ : MethodName)) rfl hown (mvT hZ (hw _ ow28)) (mvT hZ (hw _ ow29)) (mvT hZ (hw _ ow30)) (by decide) (StrChars.Road.backV (W := 1) hZ (fun d hd => hw d ((by decide +kernel : ∀ d ∈ StrChars.Road.words, d ∈ tables_1) d hd)) (kI := 4) (hw _ ow10) (cs := ([c1, c2] : List Int32)) (bs := ([c1, c2] : List Int32).map (fun c => c.toInt8.toInt32)) (n := 2) gn_b6 Zs29 Q23 Q25 Q26 V22 Q28 hzc rfl rfl (by decide) (by decide) (own_ccons ⟨l_c1, u_c1⟩ (own_ccons ⟨l_c2, u_c2⟩ own_cnil)) rfl (by decide) (by decide)) (g := (mkF m 139 #[.val (.long t), .second, .val (.int xa), .val (.int xo), .val (.long ab), .second, .val (.long cd), .second, .val (.long mi), .second, .val (.int hiw), .val (.int f1), .val (.int f2), .val (.int f3), .val (.int f4), .val (.int f5), .val (.int c0), .val (.int c1), .val (.int c2), .val (.ref ov), .unset, .unset, .unset, .unset, .unset, .unset, .unset, .unset, .unset, .unset, .unset, .unset, .unset, .unset, .unset, .unset, .unset, .unset, .unset, .unset] [(.ref b10), (.ref b6), (.ref b6)])) rfl (by rw [hml]; rfl) (Steps.refl _) (a := b6) (argsL := [(.ref b10)]) (rest := [(.ref b6)]) (lenOf own_law_pd1 rfl) rfl (by show 2 * 0 + _ ≤ _; exact Nat.le_of_eq rfl) (hb hby at_139) (fun _ _ => ⟨rfl, e18, (by decide : 4 + 1 ≤ _), (by decide : 11 + 2 ≤ _)⟩)
            dsimp only [Pt.U, Pt.locs, Pt.cells, Pt.slots] at X30 l30 y30 z30 st30 hQ30
            obtain rfl : k30 = 5 := y30
            obtain rfl : n30 = 13 := z30
            obtain ⟨rfl, N30q, R30, E30s, C30s, t30, kb30, gg30, gs30, gt30, V30s, A30s⟩ := hQ30
            have N30 : Fr n0 L30 := l30 ▸ Fr.app N19 N30q
            refine ownStep (fun _ k => st30.trans k) ?_
            have gh_t30 : h0.size ≤ t30 := Nat.le_trans KP20.1 gs30
            have gn_t30 : n0 ≤ t30 := gg30
            have KP31 : Keep h0 T30.heap [] := KP20.trans R30 (allS (Or.inr gh_b6) all0)
            have B30s : Arv Z T30.heap t30 kb30 .byte (2 : Int32) [(.int c1.toInt8.toInt32), (.int c2.toInt8.toInt32)] (.int (0 : Int32)) := A30s
            refine ownStep (fun _ k => XS.astore X30.here hx rfl (hb hby at_142) rfl rfl (l' := #[.val (.long t), .second, .val (.int xa), .val (.int xo), .val (.long ab), .second, .val (.long cd), .second, .val (.long mi), .second, .val (.int hiw), .val (.int f1), .val (.int f2), .val (.int f3), .val (.int f4), .val (.int f5), .val (.int c0), .val (.int c1), .val (.int c2), .val (.ref ov), .val (.ref b6), .unset, .unset, .unset, .unset, .unset, .unset, .unset, .unset, .unset, .unset, .unset, .unset, .unset, .unset, .unset, .unset, .unset, .unset, .unset]) rfl k) ?_
            refine ownStep (fun _ k => XS.lload X30.here hx rfl (hb hby at_144) rfl  k) ?_
            refine ownStep (fun _ k => XS.l2i X30.here hx rfl (hb hby at_146) rfl k) ?_
            refine ownStep (fun _ k => XS.i2fS X30.here hx rfl (hb hby at_147) rfl rfl k) ?_
            refine ownStep (fun _ k => XS.fstore X30.here hx rfl (hb hby at_148) rfl (l' := #[.val (.long t), .second, .val (.int xa), .val (.int xo), .val (.long ab), .second, .val (.long cd), .second, .val (.long mi), .second, .val (.int hiw), .val (.int f1), .val (.int f2), .val (.int f3), .val (.int f4), .val (.int f5), .val (.int c0), .val (.int c1), .val (.int c2), .val (.ref ov), .val (.ref b6), .val (.float (FP.i2f (ab.toInt32))), .unset, .unset, .unset, .unset, .unset, .unset, .unset, .unset, .unset, .unset, .unset, .unset, .unset, .unset, .unset, .unset, .unset, .unset]) rfl k) ?_
            refine ownStep (fun _ k => XS.lload X30.here hx rfl (hb hby at_150) rfl  k) ?_
            refine ownStep (fun _ k => XS.bipush X30.here hx rfl (hb hby at_152) k) ?_
            refine ownStep (fun _ k => XS.lushr X30.here hx rfl (hb hby at_154) rfl k) ?_
            refine ownStep (fun _ k => XS.l2i X30.here hx rfl (hb hby at_155) rfl k) ?_
            refine ownStep (fun _ k => XS.i2fS X30.here hx rfl (hb hby at_156) rfl rfl k) ?_
            refine ownStep (fun _ k => XS.fstore X30.here hx rfl (hb hby at_157) rfl (l' := #[.val (.long t), .second, .val (.int xa), .val (.int xo), .val (.long ab), .second, .val (.long cd), .second, .val (.long mi), .second, .val (.int hiw), .val (.int f1), .val (.int f2), .val (.int f3), .val (.int f4), .val (.int f5), .val (.int c0), .val (.int c1), .val (.int c2), .val (.ref ov), .val (.ref b6), .val (.float (FP.i2f (ab.toInt32))), .val (.float (FP.i2f (((ab.toUInt64 >>> ((32 : Int32) &&& 0x3f).toInt64.toUInt64).toInt64).toInt32))), .unset, .unset, .unset, .unset, .unset, .unset, .unset, .unset, .unset, .unset, .unset, .unset, .unset, .unset, .unset, .unset, .unset]) rfl k) ?_
            refine ownStep (fun _ k => XS.lload X30.here hx rfl (hb hby at_159) rfl  k) ?_
            show ownGo p.tables e below (T30.setTop (mkF m 161 #[.val (.long t), .second, .val (.int xa), .val (.int xo), .val (.long ab), .second, .val (.long cd), .second, .val (.long mi), .second, .val (.int hiw), .val (.int f1), .val (.int f2), .val (.int f3), .val (.int f4), .val (.int f5), .val (.int c0), .val (.int c1), .val (.int c2), .val (.ref ov), .val (.ref b6), .val (.float (FP.i2f (ab.toInt32))), .val (.float (FP.i2f (((ab.toUInt64 >>> ((32 : Int32) &&& 0x3f).toInt64.toUInt64).toInt64).toInt32))), .unset, .unset, .unset, .unset, .unset, .unset, .unset, .unset, .unset, .unset, .unset, .unset, .unset, .unset, .unset, .unset, .unset] [(.long cd)])) _
            refine ownStep (fun _ k => XS.l2i X30.here hx rfl (hb hby at_161) rfl k) ?_
            refine ownStep (fun _ k => XS.i2dS X30.here hx rfl (hb hby at_162) rfl rfl k) ?_
            refine ownStep (fun _ k => XS.dstore X30.here hx rfl (hb hby at_163) rfl (l' := #[.val (.long t), .second, .val (.int xa), .val (.int xo), .val (.long ab), .second, .val (.long cd), .second, .val (.long mi), .second, .val (.int hiw), .val (.int f1), .val (.int f2), .val (.int f3), .val (.int f4), .val (.int f5), .val (.int c0), .val (.int c1), .val (.int c2), .val (.ref ov), .val (.ref b6), .val (.float (FP.i2f (ab.toInt32))), .val (.float (FP.i2f (((ab.toUInt64 >>> ((32 : Int32) &&& 0x3f).toInt64.toUInt64).toInt64).toInt32))), .val (.double (FP.i2d (cd.toInt32))), .second, .unset, .unset, .unset, .unset, .unset, .unset, .unset, .unset, .unset, .unset, .unset, .unset, .unset, .unset, .unset]) rfl k) ?_
            refine ownStep (fun _ k => XS.lload X30.here hx rfl (hb hby at_165) rfl  k) ?_
            refine ownStep (fun _ k => XS.bipush X30.here hx rfl (hb hby at_167) k) ?_
            refine ownStep (fun _ k => XS.lushr X30.here hx rfl (hb hby at_169) rfl k) ?_
            refine ownStep (fun _ k => XS.l2i X30.here hx rfl (hb hby at_170) rfl k) ?_
            refine ownStep (fun _ k => XS.i2dS X30.here hx rfl (hb hby at_171) rfl rfl k) ?_
            refine ownStep (fun _ k => XS.dstore X30.here hx rfl (hb hby at_172) rfl (l' := #[.val (.long t), .second, .val (.int xa), .val (.int xo), .val (.long ab), .second, .val (.long cd), .second, .val (.long mi), .second, .val (.int hiw), .val (.int f1), .val (.int f2), .val (.int f3), .val (.int f4), .val (.int f5), .val (.int c0), .val (.int c1), .val (.int c2), .val (.ref ov), .val (.ref b6), .val (.float (FP.i2f (ab.toInt32))), .val (.float (FP.i2f (((ab.toUInt64 >>> ((32 : Int32) &&& 0x3f).toInt64.toUInt64).toInt64).toInt32))), .val (.double (FP.i2d (cd.toInt32))), .second, .val (.double (FP.i2d (((cd.toUInt64 >>> ((32 : Int32) &&& 0x3f).toInt64.toUInt64).toInt64).toInt32))), .second, .unset, .unset, .unset, .unset, .unset, .unset, .unset, .unset, .unset, .unset, .unset, .unset, .unset]) rfl k) ?_
            refine ownStep (fun _ k => XS.lload X30.here hx rfl (hb hby at_174) rfl  k) ?_
            refine ownStep (fun _ k => XS.l2i X30.here hx rfl (hb hby at_176) rfl k) ?_
            refine ownStep (fun _ k => XS.i2fS X30.here hx rfl (hb hby at_177) rfl rfl k) ?_
            refine ownStep (fun _ k => XS.fstore X30.here hx rfl (hb hby at_178) rfl (l' := #[.val (.long t), .second, .val (.int xa), .val (.int xo), .val (.long ab), .second, .val (.long cd), .second, .val (.long mi), .second, .val (.int hiw), .val (.int f1), .val (.int f2), .val (.int f3), .val (.int f4), .val (.int f5), .val (.int c0), .val (.int c1), .val (.int c2), .val (.ref ov), .val (.ref b6), .val (.float (FP.i2f (ab.toInt32))), .val (.float (FP.i2f (((ab.toUInt64 >>> ((32 : Int32) &&& 0x3f).toInt64.toUInt64).toInt64).toInt32))), .val (.double (FP.i2d (cd.toInt32))), .second, .val (.double (FP.i2d (((cd.toUInt64 >>> ((32 : Int32) &&& 0x3f).toInt64.toUInt64).toInt64).toInt32))), .second, .val (.float (FP.i2f (mi.toInt32))), .unset, .unset, .unset, .unset, .unset, .unset, .unset, .unset, .unset, .unset, .unset, .unset]) rfl k) ?_
            show ownGo p.tables e below (T30.setTop (mkF m 180 #[.val (.long t), .second, .val (.int xa), .val (.int xo), .val (.long ab), .second, .val (.long cd), .second, .val (.long mi), .second, .val (.int hiw), .val (.int f1), .val (.int f2), .val (.int f3), .val (.int f4), .val (.int f5), .val (.int c0), .val (.int c1), .val (.int c2), .val (.ref ov), .val (.ref b6), .val (.float (FP.i2f (ab.toInt32))), .val (.float (FP.i2f (((ab.toUInt64 >>> ((32 : Int32) &&& 0x3f).toInt64.toUInt64).toInt64).toInt32))), .val (.double (FP.i2d (cd.toInt32))), .second, .val (.double (FP.i2d (((cd.toUInt64 >>> ((32 : Int32) &&& 0x3f).toInt64.toUInt64).toInt64).toInt32))), .second, .val (.float (FP.i2f (mi.toInt32))), .unset, .unset, .unset, .unset, .unset, .unset, .unset, .unset, .unset, .unset, .unset, .unset] [])) _
            refine ownStep (fun _ k => XS.iloadN X30.here hx rfl (hb hby at_180) rfl  k) ?_
            refine ownStep (fun _ k => XS.i2dS X30.here hx rfl (hb hby at_181) rfl rfl k) ?_
            refine ownStep (fun _ k => XS.dstore X30.here hx rfl (hb hby at_182) rfl (l' := #[.val (.long t), .second, .val (.int xa), .val (.int xo), .val (.long ab), .second, .val (.long cd), .second, .val (.long mi), .second, .val (.int hiw), .val (.int f1), .val (.int f2), .val (.int f3), .val (.int f4), .val (.int f5), .val (.int c0), .val (.int c1), .val (.int c2), .val (.ref ov), .val (.ref b6), .val (.float (FP.i2f (ab.toInt32))), .val (.float (FP.i2f (((ab.toUInt64 >>> ((32 : Int32) &&& 0x3f).toInt64.toUInt64).toInt64).toInt32))), .val (.double (FP.i2d (cd.toInt32))), .second, .val (.double (FP.i2d (((cd.toUInt64 >>> ((32 : Int32) &&& 0x3f).toInt64.toUInt64).toInt64).toInt32))), .second, .val (.float (FP.i2f (mi.toInt32))), .val (.double (FP.i2d xa)), .second, .unset, .unset, .unset, .unset, .unset, .unset, .unset, .unset, .unset, .unset]) rfl k) ?_
            refine ownStep (fun _ k => XS.iloadN X30.here hx rfl (hb hby at_184) rfl  k) ?_
            refine ownStep (fun _ k => XS.i2dS X30.here hx rfl (hb hby at_185) rfl rfl k) ?_
            refine ownStep (fun _ k => XS.dstore X30.here hx rfl (hb hby at_186) rfl (l' := #[.val (.long t), .second, .val (.int xa), .val (.int xo), .val (.long ab), .second, .val (.long cd), .second, .val (.long mi), .second, .val (.int hiw), .val (.int f1), .val (.int f2), .val (.int f3), .val (.int f4), .val (.int f5), .val (.int c0), .val (.int c1), .val (.int c2), .val (.ref ov), .val (.ref b6), .val (.float (FP.i2f (ab.toInt32))), .val (.float (FP.i2f (((ab.toUInt64 >>> ((32 : Int32) &&& 0x3f).toInt64.toUInt64).toInt64).toInt32))), .val (.double (FP.i2d (cd.toInt32))), .second, .val (.double (FP.i2d (((cd.toUInt64 >>> ((32 : Int32) &&& 0x3f).toInt64.toUInt64).toInt64).toInt32))), .second, .val (.float (FP.i2f (mi.toInt32))), .val (.double (FP.i2d xa)), .second, .val (.double (FP.i2d xo)), .second, .unset, .unset, .unset, .unset, .unset, .unset, .unset, .unset]) rfl k) ?_
            show ownGo p.tables e below (T30.setTop (mkF m 188 #[.val (.long t), .second, .val (.int xa), .val (.int xo), .val (.long ab), .second, .val (.long cd), .second, .val (.long mi), .second, .val (.int hiw), .val (.int f1), .val (.int f2), .val (.int f3), .val (.int f4), .val (.int f5), .val (.int c0), .val (.int c1), .val (.int c2), .val (.ref ov), .val (.ref b6), .val (.float (FP.i2f (ab.toInt32))), .val (.float (FP.i2f (((ab.toUInt64 >>> ((32 : Int32) &&& 0x3f).toInt64.toUInt64).toInt64).toInt32))), .val (.double (FP.i2d (cd.toInt32))), .second, .val (.double (FP.i2d (((cd.toUInt64 >>> ((32 : Int32) &&& 0x3f).toInt64.toUInt64).toInt64).toInt32))), .second, .val (.float (FP.i2f (mi.toInt32))), .val (.double (FP.i2d xa)), .second, .val (.double (FP.i2d xo)), .second, .unset, .unset, .unset, .unset, .unset, .unset, .unset, .unset] [])) _
            obtain ⟨T32, h32, X32, e32, E32, A32, D32, U32, st32⟩ := newO X30 hx hZ hown (hw _ ow44) (hw _ ow45) (hw _ ow46) rfl (g := (mkF m 188 #[.val (.long t), .second, .val (.int xa), .val (.int xo), .val (.long ab), .second, .val (.long cd), .second, .val (.long mi), .second, .val (.int hiw), .val (.int f1), .val (.int f2), .val (.int f3), .val (.int f4), .val (.int f5), .val (.int c0), .val (.int c1), .val (.int c2), .val (.ref ov), .val (.ref b6), .val (.float (FP.i2f (ab.toInt32))), .val (.float (FP.i2f (((ab.toUInt64 >>> ((32 : Int32) &&& 0x3f).toInt64.toUInt64).toInt64).toInt32))), .val (.double (FP.i2d (cd.toInt32))), .second, .val (.double (FP.i2d (((cd.toUInt64 >>> ((32 : Int32) &&& 0x3f).toInt64.toUInt64).toInt64).toInt32))), .second, .val (.float (FP.i2f (mi.toInt32))), .val (.double (FP.i2d xa)), .second, .val (.double (FP.i2d xo)), .second, .unset, .unset, .unset, .unset, .unset, .unset, .unset, .unset] [])) rfl (hb hby at_188) (by decide) (by decide)
            obtain ⟨b32, g32⟩ : ∃ z, z = T30.heap.size := ⟨_, rfl⟩
            rw [← g32] at A32 D32 U32 st32
            have gh_b32 : h0.size ≤ b32 := Nat.le_trans KP31.1 (Nat.le_of_eq g32.symm)
            have gn_b32 : n0 ≤ b32 := Nat.le_trans Z0 gh_b32
            have KP33 : Keep h0 h32 [] := KP31.ext E32
            have F34 : Fld Z h32 b32 "com/example/fixd/fixd/client/Location" "provider" "Ljava/lang/String;" .null := D32 (Or.inr (hw _ ow125)) (ty := (.object "java/lang/String")) (by decide)
            have F35 : Fld Z h32 b32 "com/example/fixd/fixd/client/Location" "time" "Ljava/time/Instant;" .null := D32 (Or.inl (hw _ ow132)) (ty := (.object "java/time/Instant")) (by decide)
            have F36 : Fld Z h32 b32 "com/example/fixd/fixd/client/Location" "latitude" "D" (.double 0) := D32 (Or.inl (hw _ ow139)) (ty := .double) (by decide)
            have F37 : Fld Z h32 b32 "com/example/fixd/fixd/client/Location" "longitude" "D" (.double 0) := D32 (Or.inl (hw _ ow146)) (ty := .double) (by decide)
            have F38 : Fld Z h32 b32 "com/example/fixd/fixd/client/Location" "speed" "Ljava/util/OptionalDouble;" .null := D32 (Or.inl (hw _ ow153)) (ty := (.object "java/util/OptionalDouble")) (by decide)
            have F39 : Fld Z h32 b32 "com/example/fixd/fixd/client/Location" "bearing" "Ljava/util/OptionalDouble;" .null := D32 (Or.inl (hw _ ow160)) (ty := (.object "java/util/OptionalDouble")) (by decide)
            have F40 : Fld Z h32 b32 "com/example/fixd/fixd/client/Location" "altitude" "Ljava/util/OptionalDouble;" .null := D32 (Or.inl (hw _ ow167)) (ty := (.object "java/util/OptionalDouble")) (by decide)
            have F41 : Fld Z h32 b32 "com/example/fixd/fixd/client/Location" "mslAltitude" "Ljava/util/OptionalDouble;" .null := D32 (Or.inl (hw _ ow174)) (ty := (.object "java/util/OptionalDouble")) (by decide)
            have F42 : Fld Z h32 b32 "com/example/fixd/fixd/client/Location" "accuracy" "Ljava/util/OptionalDouble;" .null := D32 (Or.inl (hw _ ow181)) (ty := (.object "java/util/OptionalDouble")) (by decide)
            have F43 : Fld Z h32 b32 "com/example/fixd/fixd/client/Location" "satellites" "Ljava/util/OptionalInt;" .null := D32 (Or.inl (hw _ ow188)) (ty := (.object "java/util/OptionalInt")) (by decide)
            refine ownStep st32 ?_
            refine ownStep (fun _ k => XS.dup X32.here hx rfl (hb hby at_191) rfl rfl k) ?_
            refine ownStep (fun _ k => XS.aload X32.here hx rfl (hb hby at_192) rfl rfl k) ?_
            show ownGo p.tables e below (T32.setTop (mkF m 194 #[.val (.long t), .second, .val (.int xa), .val (.int xo), .val (.long ab), .second, .val (.long cd), .second, .val (.long mi), .second, .val (.int hiw), .val (.int f1), .val (.int f2), .val (.int f3), .val (.int f4), .val (.int f5), .val (.int c0), .val (.int c1), .val (.int c2), .val (.ref ov), .val (.ref b6), .val (.float (FP.i2f (ab.toInt32))), .val (.float (FP.i2f (((ab.toUInt64 >>> ((32 : Int32) &&& 0x3f).toInt64.toUInt64).toInt64).toInt32))), .val (.double (FP.i2d (cd.toInt32))), .second, .val (.double (FP.i2d (((cd.toUInt64 >>> ((32 : Int32) &&& 0x3f).toInt64.toUInt64).toInt64).toInt32))), .second, .val (.float (FP.i2f (mi.toInt32))), .val (.double (FP.i2d xa)), .second, .val (.double (FP.i2d xo)), .second, .unset, .unset, .unset, .unset, .unset, .unset, .unset, .unset] [(.ref ov), (.ref b32), (.ref b32)])) _
            have Q44 := ((Q27.keep R30 (allS gn_b6 all0)).ext E32)
            have Q45 := ((((((P4.ext E6).ext E10).wr W13).wr W18).keep R30).ext E32)
            have Zs47 : n0 ≤ h32.size := Nat.le_trans Z0 KP33.1
            obtain ⟨_, _, ⟨T46, L46, k46, n46⟩, -, X46, hSq46, gq46, ⟨Lc46, hQ46, l46, y46, z46⟩, st46⟩ := X32.specialBackS hx (y := (⟨"com/example/fixd/fixd/client/Location", "<init>", "(Ljava/lang/String;)V"⟩ : MethodName)) rfl hown (mvT hZ (hw _ ow47)) (mvT hZ (hw _ ow48)) (mvT hZ (hw _ ow49)) (by decide) (backOfS (W := 1) (own_cs l Z a0 hw [] em ei ep b32 ov h32 n0 Zs47 Q44 Sem Oem Eem Sei Eei Sep Tep Eep A32 gn_b32 Q45 F34 F35 F36 F37 F38 F39 F40 F41 F42 F43) hZ (hw _ ow49) (hw _ ow46) (by decide) (by decide)) (g := (mkF m 194 #[.val (.long t), .second, .val (.int xa), .val (.int xo), .val (.long ab), .second, .val (.long cd), .second, .val (.long mi), .second, .val (.int hiw), .val (.int f1), .val (.int f2), .val (.int f3), .val (.int f4), .val (.int f5), .val (.int c0), .val (.int c1), .val (.int c2), .val (.ref ov), .val (.ref b6), .val (.float (FP.i2f (ab.toInt32))), .val (.float (FP.i2f (((ab.toUInt64 >>> ((32 : Int32) &&& 0x3f).toInt64.toUInt64).toInt64).toInt32))), .val (.double (FP.i2d (cd.toInt32))), .second, .val (.double (FP.i2d (((cd.toUInt64 >>> ((32 : Int32) &&& 0x3f).toInt64.toUInt64).toInt64).toInt32))), .second, .val (.float (FP.i2f (mi.toInt32))), .val (.double (FP.i2d xa)), .second, .val (.double (FP.i2d xo)), .second, .unset, .unset, .unset, .unset, .unset, .unset, .unset, .unset] [(.ref ov), (.ref b32), (.ref b32)])) rfl (by rw [hml]; rfl) (Steps.refl _) (a := b32) (argsL := [(.ref ov)]) (rest := [(.ref b32)]) (lenOf own_law_pd2 rfl) rfl (by show 2 * 0 + _ ≤ _; exact Nat.le_of_eq rfl) (hb hby at_194) (fun _ _ => ⟨rfl, e32, (by decide : 6 + 19 ≤ _), (by decide : 23 + 322 ≤ _)⟩)
            dsimp only [Pt.U, Pt.locs, Pt.cells, Pt.slots] at X46 l46 y46 z46 st46 hQ46 hSq46 gq46
            obtain ⟨X46, hS, hZ, hown⟩ := rebS hS (show _ ≤ T32.heap.size by rw [e32]; exact (Nat.le_trans (Nat.zero_le _) (Nat.le_trans (Nat.le_trans (Nat.le_trans (Nat.le_trans (Nat.le_trans (Nat.le_trans (Nat.le_trans (Nat.le_refl _) R1.1) E6.1) E10.1) (Keep.of_wr W13).1) (Keep.of_wr W18).1) R30.1) E32.1))) X46 hSq46 gq46 hZ hown
            obtain rfl : k46 = 25 := y46
            obtain rfl : n46 = 345 := z46
            obtain ⟨rfl, N46q, R46, P48⟩ := hQ46
            have N46 : Fr n0 L46 := l46 ▸ Fr.app N30 N46q
            refine ownStep (fun _ k => st46.trans k) ?_
            have KP49 : Keep h0 T46.heap [] := KP33.trans R46 (allS (Or.inr gh_b32) all0)
            refine ownStep (fun _ k => XS.astore X46.here hx rfl (hb hby at_197) rfl rfl (l' := #[.val (.long t), .second, .val (.int xa), .val (.int xo), .val (.long ab), .second, .val (.long cd), .second, .val (.long mi), .second, .val (.int hiw), .val (.int f1), .val (.int f2), .val (.int f3), .val (.int f4), .val (.int f5), .val (.int c0), .val (.int c1), .val (.int c2), .val (.ref ov), .val (.ref b6), .val (.float (FP.i2f (ab.toInt32))), .val (.float (FP.i2f (((ab.toUInt64 >>> ((32 : Int32) &&& 0x3f).toInt64.toUInt64).toInt64).toInt32))), .val (.double (FP.i2d (cd.toInt32))), .second, .val (.double (FP.i2d (((cd.toUInt64 >>> ((32 : Int32) &&& 0x3f).toInt64.toUInt64).toInt64).toInt32))), .second, .val (.float (FP.i2f (mi.toInt32))), .val (.double (FP.i2d xa)), .second, .val (.double (FP.i2d xo)), .second, .val (.ref b32), .unset, .unset, .unset, .unset, .unset, .unset, .unset]) rfl k) ?_
            refine ownStep (fun _ k => XS.aload X46.here hx rfl (hb hby at_199) rfl rfl k) ?_
            refine ownStep (fun _ k => XS.lloadN X46.here hx rfl (hb hby at_201) rfl  k) ?_
            show ownGo p.tables e below (T46.setTop (mkF m 202 #[.val (.long t), .second, .val (.int xa), .val (.int xo), .val (.long ab), .second, .val (.long cd), .second, .val (.long mi), .second, .val (.int hiw), .val (.int f1), .val (.int f2), .val (.int f3), .val (.int f4), .val (.int f5), .val (.int c0), .val (.int c1), .val (.int c2), .val (.ref ov), .val (.ref b6), .val (.float (FP.i2f (ab.toInt32))), .val (.float (FP.i2f (((ab.toUInt64 >>> ((32 : Int32) &&& 0x3f).toInt64.toUInt64).toInt64).toInt32))), .val (.double (FP.i2d (cd.toInt32))), .second, .val (.double (FP.i2d (((cd.toUInt64 >>> ((32 : Int32) &&& 0x3f).toInt64.toUInt64).toInt64).toInt32))), .second, .val (.float (FP.i2f (mi.toInt32))), .val (.double (FP.i2d xa)), .second, .val (.double (FP.i2d xo)), .second, .val (.ref b32), .unset, .unset, .unset, .unset, .unset, .unset, .unset] [(.long t), (.ref b32)])) _
            have Q50 := (Q44.keep R46 (allS gn_b32 all0))
            have Q51 := (A32.keep R46)
            have Zs53 : n0 ≤ T46.heap.size := Nat.le_trans Z0 KP49.1
            obtain ⟨cq52, kq52, q52a, q52b, q52c⟩ := isOf hZ rfl Q51
            obtain ⟨_, _, ⟨T52, L52, k52, n52⟩, -, X52, ⟨Lc52, hQ52, l52, y52, z52⟩, st52⟩ := X46.virtualBack hx (y := (⟨"com/example/fixd/fixd/client/Location", "setTime", "(J)V"⟩ : MethodName)) (z := (⟨"com/example/fixd/fixd/client/Location", "setTime", "(J)V"⟩ : MethodName)) hown (mvT hZ (hw _ ow189)) (mvT hZ (hw _ ow190)) (notFace_of_selects (args := #[]) (mvT hZ (hw _ ow192))) (mvT hZ (hw _ ow192)) (mvT hZ (hw _ ow191)) (by decide) (backOf (W := 0) (own_sTime l Z a0 hw [] ep b32 ov ep FP.dconst0 FP.dconst0 em em em em em ei t T46.heap n0 Zs53 Q50 Sep Tep Eep Q51 gn_b32 P48) hZ (hw _ ow193) (hw _ ow46) (by decide) (by decide)) q52a q52c (g := (mkF m 202 #[.val (.long t), .second, .val (.int xa), .val (.int xo), .val (.long ab), .second, .val (.long cd), .second, .val (.long mi), .second, .val (.int hiw), .val (.int f1), .val (.int f2), .val (.int f3), .val (.int f4), .val (.int f5), .val (.int c0), .val (.int c1), .val (.int c2), .val (.ref ov), .val (.ref b6), .val (.float (FP.i2f (ab.toInt32))), .val (.float (FP.i2f (((ab.toUInt64 >>> ((32 : Int32) &&& 0x3f).toInt64.toUInt64).toInt64).toInt32))), .val (.double (FP.i2d (cd.toInt32))), .second, .val (.double (FP.i2d (((cd.toUInt64 >>> ((32 : Int32) &&& 0x3f).toInt64.toUInt64).toInt64).toInt32))), .second, .val (.float (FP.i2f (mi.toInt32))), .val (.double (FP.i2d xa)), .second, .val (.double (FP.i2d xo)), .second, .val (.ref b32), .unset, .unset, .unset, .unset, .unset, .unset, .unset] [(.long t), (.ref b32)])) rfl (by rw [hml]; rfl) (Steps.refl _) (argsL := [(.long t)]) (rest := []) (lenOf own_law_pd3 rfl) rfl (by show 2 * 0 + _ ≤ _; exact Nat.le_of_eq rfl) (hb hby at_202) (fun _ _ => ⟨rfl, rfl, (by decide : 25 + 1 ≤ _), (by decide : 345 + 2 ≤ _)⟩)
            dsimp only [Pt.U, Pt.locs, Pt.cells, Pt.slots] at X52 l52 y52 z52 st52 hQ52
            obtain rfl : k52 = 26 := y52
            obtain rfl : n52 = 347 := z52
            obtain ⟨ot, rfl, N52q, R52, P54, P55⟩ := hQ52
            have N52 : Fr n0 L52 := l52 ▸ Fr.app N46 N52q
            refine ownStep (fun _ k => st52.trans k) ?_
            have KP56 : Keep h0 T52.heap [] := KP49.trans R52 (allS (Or.inr gh_b32) all0)
            refine ownStep (fun _ k => XS.aload X52.here hx rfl (hb hby at_205) rfl rfl k) ?_
            refine ownStep (fun _ k => XS.dload X52.here hx rfl (hb hby at_207) rfl k) ?_
            show ownGo p.tables e below (T52.setTop (mkF m 209 #[.val (.long t), .second, .val (.int xa), .val (.int xo), .val (.long ab), .second, .val (.long cd), .second, .val (.long mi), .second, .val (.int hiw), .val (.int f1), .val (.int f2), .val (.int f3), .val (.int f4), .val (.int f5), .val (.int c0), .val (.int c1), .val (.int c2), .val (.ref ov), .val (.ref b6), .val (.float (FP.i2f (ab.toInt32))), .val (.float (FP.i2f (((ab.toUInt64 >>> ((32 : Int32) &&& 0x3f).toInt64.toUInt64).toInt64).toInt32))), .val (.double (FP.i2d (cd.toInt32))), .second, .val (.double (FP.i2d (((cd.toUInt64 >>> ((32 : Int32) &&& 0x3f).toInt64.toUInt64).toInt64).toInt32))), .second, .val (.float (FP.i2f (mi.toInt32))), .val (.double (FP.i2d xa)), .second, .val (.double (FP.i2d xo)), .second, .val (.ref b32), .unset, .unset, .unset, .unset, .unset, .unset, .unset] [(.double (FP.i2d xa)), (.ref b32)])) _
            have Q57 := (Q51.keep R52)
            have Zs59 : n0 ≤ T52.heap.size := Nat.le_trans Z0 KP56.1
            obtain ⟨cq58, kq58, q58a, q58b, q58c⟩ := isOf hZ rfl Q57
            obtain ⟨_, _, ⟨T58, L58, k58, n58⟩, -, X58, ⟨Lc58, hQ58, l58, y58, z58⟩, st58⟩ := X52.virtualBack hx (y := (⟨"com/example/fixd/fixd/client/Location", "setLatitude", "(D)V"⟩ : MethodName)) (z := (⟨"com/example/fixd/fixd/client/Location", "setLatitude", "(D)V"⟩ : MethodName)) hown (mvT hZ (hw _ ow227)) (mvT hZ (hw _ ow228)) (notFace_of_selects (args := #[]) (mvT hZ (hw _ ow230))) (mvT hZ (hw _ ow230)) (mvT hZ (hw _ ow229)) (by decide) (backOf (W := 0) (os_la l Z a0 hw [] b32 ov ot FP.dconst0 FP.dconst0 em em em em em ei (FP.i2d xa) T52.heap n0 Zs59 Q57 gn_b32 P54) hZ (hw _ ow231) (hw _ ow46) (by decide) (by decide)) q58a q58c (g := (mkF m 209 #[.val (.long t), .second, .val (.int xa), .val (.int xo), .val (.long ab), .second, .val (.long cd), .second, .val (.long mi), .second, .val (.int hiw), .val (.int f1), .val (.int f2), .val (.int f3), .val (.int f4), .val (.int f5), .val (.int c0), .val (.int c1), .val (.int c2), .val (.ref ov), .val (.ref b6), .val (.float (FP.i2f (ab.toInt32))), .val (.float (FP.i2f (((ab.toUInt64 >>> ((32 : Int32) &&& 0x3f).toInt64.toUInt64).toInt64).toInt32))), .val (.double (FP.i2d (cd.toInt32))), .second, .val (.double (FP.i2d (((cd.toUInt64 >>> ((32 : Int32) &&& 0x3f).toInt64.toUInt64).toInt64).toInt32))), .second, .val (.float (FP.i2f (mi.toInt32))), .val (.double (FP.i2d xa)), .second, .val (.double (FP.i2d xo)), .second, .val (.ref b32), .unset, .unset, .unset, .unset, .unset, .unset, .unset] [(.double (FP.i2d xa)), (.ref b32)])) rfl (by rw [hml]; rfl) (Steps.refl _) (argsL := [(.double (FP.i2d xa))]) (rest := []) (lenOf own_law_pd4 rfl) rfl (by show 2 * 0 + _ ≤ _; exact Nat.le_of_eq rfl) (hb hby at_209) (fun _ _ => ⟨rfl, rfl, (by decide : 26 + 0 ≤ _), (by decide : 347 + 0 ≤ _)⟩)
            dsimp only [Pt.U, Pt.locs, Pt.cells, Pt.slots] at X58 l58 y58 z58 st58 hQ58
            obtain rfl : k58 = 26 := y58
            obtain rfl : n58 = 347 := z58
            obtain ⟨rfl, N58q, R58, P60⟩ := hQ58
            have N58 : Fr n0 L58 := l58 ▸ Fr.app N52 N58q
            refine ownStep (fun _ k => st58.trans k) ?_
            have KP61 : Keep h0 T58.heap [] := KP56.trans R58 (allS (Or.inr gh_b32) all0)
            refine ownStep (fun _ k => XS.aload X58.here hx rfl (hb hby at_212) rfl rfl k) ?_
            refine ownStep (fun _ k => XS.dload X58.here hx rfl (hb hby at_214) rfl k) ?_
            show ownGo p.tables e below (T58.setTop (mkF m 216 #[.val (.long t), .second, .val (.int xa), .val (.int xo), .val (.long ab), .second, .val (.long cd), .second, .val (.long mi), .second, .val (.int hiw), .val (.int f1), .val (.int f2), .val (.int f3), .val (.int f4), .val (.int f5), .val (.int c0), .val (.int c1), .val (.int c2), .val (.ref ov), .val (.ref b6), .val (.float (FP.i2f (ab.toInt32))), .val (.float (FP.i2f (((ab.toUInt64 >>> ((32 : Int32) &&& 0x3f).toInt64.toUInt64).toInt64).toInt32))), .val (.double (FP.i2d (cd.toInt32))), .second, .val (.double (FP.i2d (((cd.toUInt64 >>> ((32 : Int32) &&& 0x3f).toInt64.toUInt64).toInt64).toInt32))), .second, .val (.float (FP.i2f (mi.toInt32))), .val (.double (FP.i2d xa)), .second, .val (.double (FP.i2d xo)), .second, .val (.ref b32), .unset, .unset, .unset, .unset, .unset, .unset, .unset] [(.double (FP.i2d xo)), (.ref b32)])) _
            have Q62 := (Q57.keep R58)
            have Zs64 : n0 ≤ T58.heap.size := Nat.le_trans Z0 KP61.1
            obtain ⟨cq63, kq63, q63a, q63b, q63c⟩ := isOf hZ rfl Q62
            obtain ⟨_, _, ⟨T63, L63, k63, n63⟩, -, X63, ⟨Lc63, hQ63, l63, y63, z63⟩, st63⟩ := X58.virtualBack hx (y := (⟨"com/example/fixd/fixd/client/Location", "setLongitude", "(D)V"⟩ : MethodName)) (z := (⟨"com/example/fixd/fixd/client/Location", "setLongitude", "(D)V"⟩ : MethodName)) hown (mvT hZ (hw _ ow232)) (mvT hZ (hw _ ow233)) (notFace_of_selects (args := #[]) (mvT hZ (hw _ ow235))) (mvT hZ (hw _ ow235)) (mvT hZ (hw _ ow234)) (by decide) (backOf (W := 0) (os_lo l Z a0 hw [] b32 ov ot (FP.i2d xa) FP.dconst0 em em em em em ei (FP.i2d xo) T58.heap n0 Zs64 Q62 gn_b32 P60) hZ (hw _ ow236) (hw _ ow46) (by decide) (by decide)) q63a q63c (g := (mkF m 216 #[.val (.long t), .second, .val (.int xa), .val (.int xo), .val (.long ab), .second, .val (.long cd), .second, .val (.long mi), .second, .val (.int hiw), .val (.int f1), .val (.int f2), .val (.int f3), .val (.int f4), .val (.int f5), .val (.int c0), .val (.int c1), .val (.int c2), .val (.ref ov), .val (.ref b6), .val (.float (FP.i2f (ab.toInt32))), .val (.float (FP.i2f (((ab.toUInt64 >>> ((32 : Int32) &&& 0x3f).toInt64.toUInt64).toInt64).toInt32))), .val (.double (FP.i2d (cd.toInt32))), .second, .val (.double (FP.i2d (((cd.toUInt64 >>> ((32 : Int32) &&& 0x3f).toInt64.toUInt64).toInt64).toInt32))), .second, .val (.float (FP.i2f (mi.toInt32))), .val (.double (FP.i2d xa)), .second, .val (.double (FP.i2d xo)), .second, .val (.ref b32), .unset, .unset, .unset, .unset, .unset, .unset, .unset] [(.double (FP.i2d xo)), (.ref b32)])) rfl (by rw [hml]; rfl) (Steps.refl _) (argsL := [(.double (FP.i2d xo))]) (rest := []) (lenOf own_law_pd4 rfl) rfl (by show 2 * 0 + _ ≤ _; exact Nat.le_of_eq rfl) (hb hby at_216) (fun _ _ => ⟨rfl, rfl, (by decide : 26 + 0 ≤ _), (by decide : 347 + 0 ≤ _)⟩)
            dsimp only [Pt.U, Pt.locs, Pt.cells, Pt.slots] at X63 l63 y63 z63 st63 hQ63
            obtain rfl : k63 = 26 := y63
            obtain rfl : n63 = 347 := z63
            obtain ⟨rfl, N63q, R63, P65⟩ := hQ63
            have N63 : Fr n0 L63 := l63 ▸ Fr.app N58 N63q
            refine ownStep (fun _ k => st63.trans k) ?_
            have KP66 : Keep h0 T63.heap [] := KP61.trans R63 (allS (Or.inr gh_b32) all0)
            show ownGo p.tables e below (T63.setTop (mkF m 219 #[.val (.long t), .second, .val (.int xa), .val (.int xo), .val (.long ab), .second, .val (.long cd), .second, .val (.long mi), .second, .val (.int hiw), .val (.int f1), .val (.int f2), .val (.int f3), .val (.int f4), .val (.int f5), .val (.int c0), .val (.int c1), .val (.int c2), .val (.ref ov), .val (.ref b6), .val (.float (FP.i2f (ab.toInt32))), .val (.float (FP.i2f (((ab.toUInt64 >>> ((32 : Int32) &&& 0x3f).toInt64.toUInt64).toInt64).toInt32))), .val (.double (FP.i2d (cd.toInt32))), .second, .val (.double (FP.i2d (((cd.toUInt64 >>> ((32 : Int32) &&& 0x3f).toInt64.toUInt64).toInt64).toInt32))), .second, .val (.float (FP.i2f (mi.toInt32))), .val (.double (FP.i2d xa)), .second, .val (.double (FP.i2d xo)), .second, .val (.ref b32), .unset, .unset, .unset, .unset, .unset, .unset, .unset] [])) _
            have J231 : ∀ (Tj1 : State) (Lj1 : List Loc) (hj1 : Heap) (Xj1 : Stand p l e room_1 (s.setVm T46.vm) m #[(.long t), (.int xa), (.int xo), (.long ab), (.long cd), (.long mi)] below meth c Tj1 Lj1 27 349) (ej1 : Tj1.heap = hj1) (Nj1 : Fr n0 Lj1) (Kj1 : Keep T63.heap hj1 [b32]) (o1 : Addr) (v1 : UInt64) (hv1 : ¬ f1 = (0 : Int32) → v1 = (FP.f2d (FP.i2f (ab.toInt32)))) (Cj1 : Cli Z hj1 b32 ov ot (FP.i2d xa) (FP.i2d xo) o1 em em em em ei) (Oj1 : Opt Z hj1 o1 f1 v1), ownGo p.tables e below (Tj1.setTop (mkF m 231 #[.val (.long t), .second, .val (.int xa), .val (.int xo), .val (.long ab), .second, .val (.long cd), .second, .val (.long mi), .second, .val (.int hiw), .val (.int f1), .val (.int f2), .val (.int f3), .val (.int f4), .val (.int f5), .val (.int c0), .val (.int c1), .val (.int c2), .val (.ref ov), .val (.ref b6), .val (.float (FP.i2f (ab.toInt32))), .val (.float (FP.i2f (((ab.toUInt64 >>> ((32 : Int32) &&& 0x3f).toInt64.toUInt64).toInt64).toInt32))), .val (.double (FP.i2d (cd.toInt32))), .second, .val (.double (FP.i2d (((cd.toUInt64 >>> ((32 : Int32) &&& 0x3f).toInt64.toUInt64).toInt64).toInt32))), .second, .val (.float (FP.i2f (mi.toInt32))), .val (.double (FP.i2d xa)), .second, .val (.double (FP.i2d xo)), .second, .val (.ref b32), .unset, .unset, .unset, .unset, .unset, .unset, .unset] [])) (ownEndW below s (own_law_Q Z zc em ei ep t xa xo ab cd mi h0 n0) room_1.cells room_1.slots) := by
              intro Tj1 Lj1 hj1 Xj1 ej1 Nj1 Kj1 o1 v1 hv1 Cj1 Oj1
              have KP67 : Keep h0 hj1 [] := KP66.trans Kj1 (allS (Or.inr gh_b32) all0)
              show ownGo p.tables e below (Tj1.setTop (mkF m 231 #[.val (.long t), .second, .val (.int xa), .val (.int xo), .val (.long ab), .second, .val (.long cd), .second, .val (.long mi), .second, .val (.int hiw), .val (.int f1), .val (.int f2), .val (.int f3), .val (.int f4), .val (.int f5), .val (.int c0), .val (.int c1), .val (.int c2), .val (.ref ov), .val (.ref b6), .val (.float (FP.i2f (ab.toInt32))), .val (.float (FP.i2f (((ab.toUInt64 >>> ((32 : Int32) &&& 0x3f).toInt64.toUInt64).toInt64).toInt32))), .val (.double (FP.i2d (cd.toInt32))), .second, .val (.double (FP.i2d (((cd.toUInt64 >>> ((32 : Int32) &&& 0x3f).toInt64.toUInt64).toInt64).toInt32))), .second, .val (.float (FP.i2f (mi.toInt32))), .val (.double (FP.i2d xa)), .second, .val (.double (FP.i2d xo)), .second, .val (.ref b32), .unset, .unset, .unset, .unset, .unset, .unset, .unset] [])) _
              have J243 : ∀ (Tj2 : State) (Lj2 : List Loc) (hj2 : Heap) (Xj2 : Stand p l e room_1 (s.setVm T46.vm) m #[(.long t), (.int xa), (.int xo), (.long ab), (.long cd), (.long mi)] below meth c Tj2 Lj2 28 351) (ej2 : Tj2.heap = hj2) (Nj2 : Fr n0 Lj2) (Kj2 : Keep hj1 hj2 [b32]) (o2 : Addr) (v2 : UInt64) (hv2 : ¬ f2 = (0 : Int32) → v2 = (FP.f2d (FP.i2f (((ab.toUInt64 >>> ((32 : Int32) &&& 0x3f).toInt64.toUInt64).toInt64).toInt32)))) (Cj2 : Cli Z hj2 b32 ov ot (FP.i2d xa) (FP.i2d xo) o1 o2 em em em ei) (Oj2 : Opt Z hj2 o2 f2 v2), ownGo p.tables e below (Tj2.setTop (mkF m 243 #[.val (.long t), .second, .val (.int xa), .val (.int xo), .val (.long ab), .second, .val (.long cd), .second, .val (.long mi), .second, .val (.int hiw), .val (.int f1), .val (.int f2), .val (.int f3), .val (.int f4), .val (.int f5), .val (.int c0), .val (.int c1), .val (.int c2), .val (.ref ov), .val (.ref b6), .val (.float (FP.i2f (ab.toInt32))), .val (.float (FP.i2f (((ab.toUInt64 >>> ((32 : Int32) &&& 0x3f).toInt64.toUInt64).toInt64).toInt32))), .val (.double (FP.i2d (cd.toInt32))), .second, .val (.double (FP.i2d (((cd.toUInt64 >>> ((32 : Int32) &&& 0x3f).toInt64.toUInt64).toInt64).toInt32))), .second, .val (.float (FP.i2f (mi.toInt32))), .val (.double (FP.i2d xa)), .second, .val (.double (FP.i2d xo)), .second, .val (.ref b32), .unset, .unset, .unset, .unset, .unset, .unset, .unset] [])) (ownEndW below s (own_law_Q Z zc em ei ep t xa xo ab cd mi h0 n0) room_1.cells room_1.slots) := by
                intro Tj2 Lj2 hj2 Xj2 ej2 Nj2 Kj2 o2 v2 hv2 Cj2 Oj2
                have KP68 : Keep h0 hj2 [] := KP67.trans Kj2 (allS (Or.inr gh_b32) all0)
                show ownGo p.tables e below (Tj2.setTop (mkF m 243 #[.val (.long t), .second, .val (.int xa), .val (.int xo), .val (.long ab), .second, .val (.long cd), .second, .val (.long mi), .second, .val (.int hiw), .val (.int f1), .val (.int f2), .val (.int f3), .val (.int f4), .val (.int f5), .val (.int c0), .val (.int c1), .val (.int c2), .val (.ref ov), .val (.ref b6), .val (.float (FP.i2f (ab.toInt32))), .val (.float (FP.i2f (((ab.toUInt64 >>> ((32 : Int32) &&& 0x3f).toInt64.toUInt64).toInt64).toInt32))), .val (.double (FP.i2d (cd.toInt32))), .second, .val (.double (FP.i2d (((cd.toUInt64 >>> ((32 : Int32) &&& 0x3f).toInt64.toUInt64).toInt64).toInt32))), .second, .val (.float (FP.i2f (mi.toInt32))), .val (.double (FP.i2d xa)), .second, .val (.double (FP.i2d xo)), .second, .val (.ref b32), .unset, .unset, .unset, .unset, .unset, .unset, .unset] [])) _
                have J255 : ∀ (Tj3 : State) (Lj3 : List Loc) (hj3 : Heap) (Xj3 : Stand p l e room_1 (s.setVm T46.vm) m #[(.long t), (.int xa), (.int xo), (.long ab), (.long cd), (.long mi)] below meth c Tj3 Lj3 29 353) (ej3 : Tj3.heap = hj3) (Nj3 : Fr n0 Lj3) (Kj3 : Keep hj2 hj3 [b32]) (o3 : Addr) (v3 : UInt64) (hv3 : ¬ f3 = (0 : Int32) → v3 = (FP.i2d (cd.toInt32))) (Cj3 : Cli Z hj3 b32 ov ot (FP.i2d xa) (FP.i2d xo) o1 o2 o3 em em ei) (Oj3 : Opt Z hj3 o3 f3 v3), ownGo p.tables e below (Tj3.setTop (mkF m 255 #[.val (.long t), .second, .val (.int xa), .val (.int xo), .val (.long ab), .second, .val (.long cd), .second, .val (.long mi), .second, .val (.int hiw), .val (.int f1), .val (.int f2), .val (.int f3), .val (.int f4), .val (.int f5), .val (.int c0), .val (.int c1), .val (.int c2), .val (.ref ov), .val (.ref b6), .val (.float (FP.i2f (ab.toInt32))), .val (.float (FP.i2f (((ab.toUInt64 >>> ((32 : Int32) &&& 0x3f).toInt64.toUInt64).toInt64).toInt32))), .val (.double (FP.i2d (cd.toInt32))), .second, .val (.double (FP.i2d (((cd.toUInt64 >>> ((32 : Int32) &&& 0x3f).toInt64.toUInt64).toInt64).toInt32))), .second, .val (.float (FP.i2f (mi.toInt32))), .val (.double (FP.i2d xa)), .second, .val (.double (FP.i2d xo)), .second, .val (.ref b32), .unset, .unset, .unset, .unset, .unset, .unset, .unset] [])) (ownEndW below s (own_law_Q Z zc em ei ep t xa xo ab cd mi h0 n0) room_1.cells room_1.slots) := by
                  intro Tj3 Lj3 hj3 Xj3 ej3 Nj3 Kj3 o3 v3 hv3 Cj3 Oj3
                  have KP69 : Keep h0 hj3 [] := KP68.trans Kj3 (allS (Or.inr gh_b32) all0)
                  show ownGo p.tables e below (Tj3.setTop (mkF m 255 #[.val (.long t), .second, .val (.int xa), .val (.int xo), .val (.long ab), .second, .val (.long cd), .second, .val (.long mi), .second, .val (.int hiw), .val (.int f1), .val (.int f2), .val (.int f3), .val (.int f4), .val (.int f5), .val (.int c0), .val (.int c1), .val (.int c2), .val (.ref ov), .val (.ref b6), .val (.float (FP.i2f (ab.toInt32))), .val (.float (FP.i2f (((ab.toUInt64 >>> ((32 : Int32) &&& 0x3f).toInt64.toUInt64).toInt64).toInt32))), .val (.double (FP.i2d (cd.toInt32))), .second, .val (.double (FP.i2d (((cd.toUInt64 >>> ((32 : Int32) &&& 0x3f).toInt64.toUInt64).toInt64).toInt32))), .second, .val (.float (FP.i2f (mi.toInt32))), .val (.double (FP.i2d xa)), .second, .val (.double (FP.i2d xo)), .second, .val (.ref b32), .unset, .unset, .unset, .unset, .unset, .unset, .unset] [])) _
                  have J267 : ∀ (Tj4 : State) (Lj4 : List Loc) (hj4 : Heap) (Xj4 : Stand p l e room_1 (s.setVm T46.vm) m #[(.long t), (.int xa), (.int xo), (.long ab), (.long cd), (.long mi)] below meth c Tj4 Lj4 30 355) (ej4 : Tj4.heap = hj4) (Nj4 : Fr n0 Lj4) (Kj4 : Keep hj3 hj4 [b32]) (o4 : Addr) (v4 : UInt64) (hv4 : ¬ f4 = (0 : Int32) → v4 = (FP.i2d (((cd.toUInt64 >>> ((32 : Int32) &&& 0x3f).toInt64.toUInt64).toInt64).toInt32))) (Cj4 : Cli Z hj4 b32 ov ot (FP.i2d xa) (FP.i2d xo) o1 o2 o3 o4 em ei) (Oj4 : Opt Z hj4 o4 f4 v4), ownGo p.tables e below (Tj4.setTop (mkF m 267 #[.val (.long t), .second, .val (.int xa), .val (.int xo), .val (.long ab), .second, .val (.long cd), .second, .val (.long mi), .second, .val (.int hiw), .val (.int f1), .val (.int f2), .val (.int f3), .val (.int f4), .val (.int f5), .val (.int c0), .val (.int c1), .val (.int c2), .val (.ref ov), .val (.ref b6), .val (.float (FP.i2f (ab.toInt32))), .val (.float (FP.i2f (((ab.toUInt64 >>> ((32 : Int32) &&& 0x3f).toInt64.toUInt64).toInt64).toInt32))), .val (.double (FP.i2d (cd.toInt32))), .second, .val (.double (FP.i2d (((cd.toUInt64 >>> ((32 : Int32) &&& 0x3f).toInt64.toUInt64).toInt64).toInt32))), .second, .val (.float (FP.i2f (mi.toInt32))), .val (.double (FP.i2d xa)), .second, .val (.double (FP.i2d xo)), .second, .val (.ref b32), .unset, .unset, .unset, .unset, .unset, .unset, .unset] [])) (ownEndW below s (own_law_Q Z zc em ei ep t xa xo ab cd mi h0 n0) room_1.cells room_1.slots) := by
                    intro Tj4 Lj4 hj4 Xj4 ej4 Nj4 Kj4 o4 v4 hv4 Cj4 Oj4
                    have KP70 : Keep h0 hj4 [] := KP69.trans Kj4 (allS (Or.inr gh_b32) all0)
                    show ownGo p.tables e below (Tj4.setTop (mkF m 267 #[.val (.long t), .second, .val (.int xa), .val (.int xo), .val (.long ab), .second, .val (.long cd), .second, .val (.long mi), .second, .val (.int hiw), .val (.int f1), .val (.int f2), .val (.int f3), .val (.int f4), .val (.int f5), .val (.int c0), .val (.int c1), .val (.int c2), .val (.ref ov), .val (.ref b6), .val (.float (FP.i2f (ab.toInt32))), .val (.float (FP.i2f (((ab.toUInt64 >>> ((32 : Int32) &&& 0x3f).toInt64.toUInt64).toInt64).toInt32))), .val (.double (FP.i2d (cd.toInt32))), .second, .val (.double (FP.i2d (((cd.toUInt64 >>> ((32 : Int32) &&& 0x3f).toInt64.toUInt64).toInt64).toInt32))), .second, .val (.float (FP.i2f (mi.toInt32))), .val (.double (FP.i2d xa)), .second, .val (.double (FP.i2d xo)), .second, .val (.ref b32), .unset, .unset, .unset, .unset, .unset, .unset, .unset] [])) _
                    have J279 : ∀ (Tj5 : State) (Lj5 : List Loc) (hj5 : Heap) (Xj5 : Stand p l e room_1 (s.setVm T46.vm) m #[(.long t), (.int xa), (.int xo), (.long ab), (.long cd), (.long mi)] below meth c Tj5 Lj5 31 357) (ej5 : Tj5.heap = hj5) (Nj5 : Fr n0 Lj5) (Kj5 : Keep hj4 hj5 [b32]) (o5 : Addr) (v5 : UInt64) (hv5 : ¬ f5 = (0 : Int32) → v5 = (FP.f2d (FP.i2f (mi.toInt32)))) (Cj5 : Cli Z hj5 b32 ov ot (FP.i2d xa) (FP.i2d xo) o1 o2 o3 o4 o5 ei) (Oj5 : Opt Z hj5 o5 f5 v5), ownGo p.tables e below (Tj5.setTop (mkF m 279 #[.val (.long t), .second, .val (.int xa), .val (.int xo), .val (.long ab), .second, .val (.long cd), .second, .val (.long mi), .second, .val (.int hiw), .val (.int f1), .val (.int f2), .val (.int f3), .val (.int f4), .val (.int f5), .val (.int c0), .val (.int c1), .val (.int c2), .val (.ref ov), .val (.ref b6), .val (.float (FP.i2f (ab.toInt32))), .val (.float (FP.i2f (((ab.toUInt64 >>> ((32 : Int32) &&& 0x3f).toInt64.toUInt64).toInt64).toInt32))), .val (.double (FP.i2d (cd.toInt32))), .second, .val (.double (FP.i2d (((cd.toUInt64 >>> ((32 : Int32) &&& 0x3f).toInt64.toUInt64).toInt64).toInt32))), .second, .val (.float (FP.i2f (mi.toInt32))), .val (.double (FP.i2d xa)), .second, .val (.double (FP.i2d xo)), .second, .val (.ref b32), .unset, .unset, .unset, .unset, .unset, .unset, .unset] [])) (ownEndW below s (own_law_Q Z zc em ei ep t xa xo ab cd mi h0 n0) room_1.cells room_1.slots) := by
                      intro Tj5 Lj5 hj5 Xj5 ej5 Nj5 Kj5 o5 v5 hv5 Cj5 Oj5
                      have KP71 : Keep h0 hj5 [] := KP70.trans Kj5 (allS (Or.inr gh_b32) all0)
                      show ownGo p.tables e below (Tj5.setTop (mkF m 279 #[.val (.long t), .second, .val (.int xa), .val (.int xo), .val (.long ab), .second, .val (.long cd), .second, .val (.long mi), .second, .val (.int hiw), .val (.int f1), .val (.int f2), .val (.int f3), .val (.int f4), .val (.int f5), .val (.int c0), .val (.int c1), .val (.int c2), .val (.ref ov), .val (.ref b6), .val (.float (FP.i2f (ab.toInt32))), .val (.float (FP.i2f (((ab.toUInt64 >>> ((32 : Int32) &&& 0x3f).toInt64.toUInt64).toInt64).toInt32))), .val (.double (FP.i2d (cd.toInt32))), .second, .val (.double (FP.i2d (((cd.toUInt64 >>> ((32 : Int32) &&& 0x3f).toInt64.toUInt64).toInt64).toInt32))), .second, .val (.float (FP.i2f (mi.toInt32))), .val (.double (FP.i2d xa)), .second, .val (.double (FP.i2d xo)), .second, .val (.ref b32), .unset, .unset, .unset, .unset, .unset, .unset, .unset] [])) _
                      obtain ⟨T72, h72, X72, e72, E72, A72, D72, U72, st72⟩ := newO Xj5 hx hZ hown (hw _ ow44) (hw _ ow45) (hw _ ow46) ej5 (g := (mkF m 279 #[.val (.long t), .second, .val (.int xa), .val (.int xo), .val (.long ab), .second, .val (.long cd), .second, .val (.long mi), .second, .val (.int hiw), .val (.int f1), .val (.int f2), .val (.int f3), .val (.int f4), .val (.int f5), .val (.int c0), .val (.int c1), .val (.int c2), .val (.ref ov), .val (.ref b6), .val (.float (FP.i2f (ab.toInt32))), .val (.float (FP.i2f (((ab.toUInt64 >>> ((32 : Int32) &&& 0x3f).toInt64.toUInt64).toInt64).toInt32))), .val (.double (FP.i2d (cd.toInt32))), .second, .val (.double (FP.i2d (((cd.toUInt64 >>> ((32 : Int32) &&& 0x3f).toInt64.toUInt64).toInt64).toInt32))), .second, .val (.float (FP.i2f (mi.toInt32))), .val (.double (FP.i2d xa)), .second, .val (.double (FP.i2d xo)), .second, .val (.ref b32), .unset, .unset, .unset, .unset, .unset, .unset, .unset] [])) rfl (hb hby at_279) (by decide) (by decide)
                      obtain ⟨b72, g72⟩ : ∃ z, z = hj5.size := ⟨_, rfl⟩
                      rw [← g72] at A72 D72 U72 st72
                      have gh_b72 : h0.size ≤ b72 := Nat.le_trans KP71.1 (Nat.le_of_eq g72.symm)
                      have gn_b72 : n0 ≤ b72 := Nat.le_trans Z0 gh_b72
                      have KP73 : Keep h0 h72 [] := KP71.ext E72
                      have F74 : Fld Z h72 b72 "com/example/fixd/fixd/client/Location" "provider" "Ljava/lang/String;" .null := D72 (Or.inr (hw _ ow125)) (ty := (.object "java/lang/String")) (by decide)
                      have F75 : Fld Z h72 b72 "com/example/fixd/fixd/client/Location" "time" "Ljava/time/Instant;" .null := D72 (Or.inl (hw _ ow132)) (ty := (.object "java/time/Instant")) (by decide)
                      have F76 : Fld Z h72 b72 "com/example/fixd/fixd/client/Location" "latitude" "D" (.double 0) := D72 (Or.inl (hw _ ow139)) (ty := .double) (by decide)
                      have F77 : Fld Z h72 b72 "com/example/fixd/fixd/client/Location" "longitude" "D" (.double 0) := D72 (Or.inl (hw _ ow146)) (ty := .double) (by decide)
                      have F78 : Fld Z h72 b72 "com/example/fixd/fixd/client/Location" "speed" "Ljava/util/OptionalDouble;" .null := D72 (Or.inl (hw _ ow153)) (ty := (.object "java/util/OptionalDouble")) (by decide)
                      have F79 : Fld Z h72 b72 "com/example/fixd/fixd/client/Location" "bearing" "Ljava/util/OptionalDouble;" .null := D72 (Or.inl (hw _ ow160)) (ty := (.object "java/util/OptionalDouble")) (by decide)
                      have F80 : Fld Z h72 b72 "com/example/fixd/fixd/client/Location" "altitude" "Ljava/util/OptionalDouble;" .null := D72 (Or.inl (hw _ ow167)) (ty := (.object "java/util/OptionalDouble")) (by decide)
                      have F81 : Fld Z h72 b72 "com/example/fixd/fixd/client/Location" "mslAltitude" "Ljava/util/OptionalDouble;" .null := D72 (Or.inl (hw _ ow174)) (ty := (.object "java/util/OptionalDouble")) (by decide)
                      have F82 : Fld Z h72 b72 "com/example/fixd/fixd/client/Location" "accuracy" "Ljava/util/OptionalDouble;" .null := D72 (Or.inl (hw _ ow181)) (ty := (.object "java/util/OptionalDouble")) (by decide)
                      have F83 : Fld Z h72 b72 "com/example/fixd/fixd/client/Location" "satellites" "Ljava/util/OptionalInt;" .null := D72 (Or.inl (hw _ ow188)) (ty := (.object "java/util/OptionalInt")) (by decide)
                      refine ownStep st72 ?_
                      refine ownStep (fun _ k => XS.dup X72.here hx rfl (hb hby at_282) rfl rfl k) ?_
                      refine ownStep (fun _ k => XS.aload X72.here hx rfl (hb hby at_283) rfl rfl k) ?_
                      refine ownStep (fun _ k => XS.aload X72.here hx rfl (hb hby at_285) rfl rfl k) ?_
                      show ownGo p.tables e below (T72.setTop (mkF m 287 #[.val (.long t), .second, .val (.int xa), .val (.int xo), .val (.long ab), .second, .val (.long cd), .second, .val (.long mi), .second, .val (.int hiw), .val (.int f1), .val (.int f2), .val (.int f3), .val (.int f4), .val (.int f5), .val (.int c0), .val (.int c1), .val (.int c2), .val (.ref ov), .val (.ref b6), .val (.float (FP.i2f (ab.toInt32))), .val (.float (FP.i2f (((ab.toUInt64 >>> ((32 : Int32) &&& 0x3f).toInt64.toUInt64).toInt64).toInt32))), .val (.double (FP.i2d (cd.toInt32))), .second, .val (.double (FP.i2d (((cd.toUInt64 >>> ((32 : Int32) &&& 0x3f).toInt64.toUInt64).toInt64).toInt32))), .second, .val (.float (FP.i2f (mi.toInt32))), .val (.double (FP.i2d xa)), .second, .val (.double (FP.i2d xo)), .second, .val (.ref b32), .unset, .unset, .unset, .unset, .unset, .unset, .unset] [(.ref b6), (.ref b32), (.ref b72), (.ref b72)])) _
                      have Q84 := (((((((Q62.keep R63).keep Kj1).keep Kj2).keep Kj3).keep Kj4).keep Kj5).ext E72)
                      have Q85 := (Cj5.ext E72)
                      have Zs87 : n0 ≤ h72.size := Nat.le_trans Z0 KP73.1
                      obtain ⟨cq86, kq86, q86a, q86b, q86c⟩ := isOf hZ e72 Q84
                      obtain ⟨_, _, ⟨T86, L86, k86, n86⟩, -, X86, hSq86, gq86, ⟨Lc86, hQ86, l86, y86, z86⟩, st86⟩ := X72.virtualBackS hx (y := (⟨"com/example/fixd/fixd/client/Location", "fix", "(Ljava/lang/String;)Lcom/example/fixd/fixd/location/Location;"⟩ : MethodName)) (z := (⟨"com/example/fixd/fixd/client/Location", "fix", "(Ljava/lang/String;)Lcom/example/fixd/fixd/location/Location;"⟩ : MethodName)) hown (mvT hZ (hw _ ow237)) (mvT hZ (hw _ ow238)) (notFace_of_selects (args := #[]) (mvT hZ (hw _ ow240))) (mvT hZ (hw _ ow240)) (mvT hZ (hw _ ow239)) (by decide) (backOfS (W := 2) (own_fix l Z a0 hw [] b32 ov ot (FP.i2d xa) (FP.i2d xo) o1 o2 o3 o4 o5 ei b6 h72 n0 Zs87 Q84 gn_b32 Q85) hZ (hw _ ow241) (hw _ ow46) (by decide) (by decide)) q86a q86c (g := (mkF m 287 #[.val (.long t), .second, .val (.int xa), .val (.int xo), .val (.long ab), .second, .val (.long cd), .second, .val (.long mi), .second, .val (.int hiw), .val (.int f1), .val (.int f2), .val (.int f3), .val (.int f4), .val (.int f5), .val (.int c0), .val (.int c1), .val (.int c2), .val (.ref ov), .val (.ref b6), .val (.float (FP.i2f (ab.toInt32))), .val (.float (FP.i2f (((ab.toUInt64 >>> ((32 : Int32) &&& 0x3f).toInt64.toUInt64).toInt64).toInt32))), .val (.double (FP.i2d (cd.toInt32))), .second, .val (.double (FP.i2d (((cd.toUInt64 >>> ((32 : Int32) &&& 0x3f).toInt64.toUInt64).toInt64).toInt32))), .second, .val (.float (FP.i2f (mi.toInt32))), .val (.double (FP.i2d xa)), .second, .val (.double (FP.i2d xo)), .second, .val (.ref b32), .unset, .unset, .unset, .unset, .unset, .unset, .unset] [(.ref b6), (.ref b32), (.ref b72), (.ref b72)])) rfl (by rw [hml]; rfl) (Steps.refl _) (argsL := [(.ref b6)]) (rest := [(.ref b72), (.ref b72)]) (lenOf own_law_pd5 rfl) rfl (by show 2 * 0 + _ ≤ _; exact Nat.le_of_eq rfl) (hb hby at_287) (fun _ _ => ⟨rfl, e72, (by decide : 32 + 17 ≤ _), (by decide : 367 + 286 ≤ _)⟩)
                      dsimp only [Pt.U, Pt.locs, Pt.cells, Pt.slots] at X86 l86 y86 z86 st86 hQ86 hSq86 gq86
                      obtain ⟨X86, hS, hZ, hown⟩ := rebS hS (show _ ≤ T72.heap.size by rw [e72]; exact (Nat.le_trans (Nat.le_refl _) (Nat.le_trans (Nat.le_trans (Nat.le_trans (Nat.le_trans (Nat.le_trans (Nat.le_trans (Nat.le_trans (Nat.le_trans (Nat.le_trans (Nat.le_refl _) R52.1) R58.1) R63.1) Kj1.1) Kj2.1) Kj3.1) Kj4.1) Kj5.1) E72.1))) X86 hSq86 gq86 hZ hown
                      obtain rfl : k86 = 49 := y86
                      obtain rfl : n86 = 653 := z86
                      obtain ⟨lf, rfl, N86q, R86, P88, P89, P90⟩ := hQ86
                      have N86 : Fr n0 L86 := l86 ▸ Fr.app Nj5 N86q
                      have gh_lf : h0.size ≤ lf := Nat.le_trans KP73.1 P88
                      have gn_lf : n0 ≤ lf := Nat.le_trans Z0 gh_lf
                      refine ownStep (fun _ k => st86.trans k) ?_
                      have KP91 : Keep h0 T86.heap [] := KP73.ext R86
                      show ownGo p.tables e below (T86.setTop (mkF m 290 #[.val (.long t), .second, .val (.int xa), .val (.int xo), .val (.long ab), .second, .val (.long cd), .second, .val (.long mi), .second, .val (.int hiw), .val (.int f1), .val (.int f2), .val (.int f3), .val (.int f4), .val (.int f5), .val (.int c0), .val (.int c1), .val (.int c2), .val (.ref ov), .val (.ref b6), .val (.float (FP.i2f (ab.toInt32))), .val (.float (FP.i2f (((ab.toUInt64 >>> ((32 : Int32) &&& 0x3f).toInt64.toUInt64).toInt64).toInt32))), .val (.double (FP.i2d (cd.toInt32))), .second, .val (.double (FP.i2d (((cd.toUInt64 >>> ((32 : Int32) &&& 0x3f).toInt64.toUInt64).toInt64).toInt32))), .second, .val (.float (FP.i2f (mi.toInt32))), .val (.double (FP.i2d xa)), .second, .val (.double (FP.i2d xo)), .second, .val (.ref b32), .unset, .unset, .unset, .unset, .unset, .unset, .unset] [(.ref lf), (.ref b72), (.ref b72)])) _
                      have Q92 := (A72.ext R86)
                      have Q93 := (F74.ext R86)
                      have Q94 := (F75.ext R86)
                      have Q95 := (F76.ext R86)
                      have Q96 := (F77.ext R86)
                      have Q97 := (F78.ext R86)
                      have Q98 := (F79.ext R86)
                      have Q99 := (F80.ext R86)
                      have Q100 := (F81.ext R86)
                      have Q101 := (F82.ext R86)
                      have Q102 := (F83.ext R86)
                      have Zs104 : n0 ≤ T86.heap.size := Nat.le_trans Z0 KP91.1
                      obtain ⟨_, _, ⟨T103, L103, k103, n103⟩, -, X103, ⟨Lc103, hQ103, l103, y103, z103⟩, st103⟩ := X86.specialBack hx (y := (⟨"com/example/fixd/fixd/client/Location", "<init>", "(Lcom/example/fixd/fixd/location/Location;)V"⟩ : MethodName)) rfl hown (mvT hZ (hw _ ow243)) (mvT hZ (hw _ ow116)) (mvT hZ (hw _ ow117)) (by decide) (backOf (W := 1) (own_cc l Z a0 hw [] b72 lf b6 ot (FP.i2d xa) (FP.i2d xo) o1 o2 o3 o4 o5 ei T86.heap n0 Zs104 Q92 gn_b72 P90 P89 Q93 Q94 Q95 Q96 Q97 Q98 Q99 Q100 Q101 Q102) hZ (hw _ ow117) (hw _ ow46) (by decide) (by decide)) (g := (mkF m 290 #[.val (.long t), .second, .val (.int xa), .val (.int xo), .val (.long ab), .second, .val (.long cd), .second, .val (.long mi), .second, .val (.int hiw), .val (.int f1), .val (.int f2), .val (.int f3), .val (.int f4), .val (.int f5), .val (.int c0), .val (.int c1), .val (.int c2), .val (.ref ov), .val (.ref b6), .val (.float (FP.i2f (ab.toInt32))), .val (.float (FP.i2f (((ab.toUInt64 >>> ((32 : Int32) &&& 0x3f).toInt64.toUInt64).toInt64).toInt32))), .val (.double (FP.i2d (cd.toInt32))), .second, .val (.double (FP.i2d (((cd.toUInt64 >>> ((32 : Int32) &&& 0x3f).toInt64.toUInt64).toInt64).toInt32))), .second, .val (.float (FP.i2f (mi.toInt32))), .val (.double (FP.i2d xa)), .second, .val (.double (FP.i2d xo)), .second, .val (.ref b32), .unset, .unset, .unset, .unset, .unset, .unset, .unset] [(.ref lf), (.ref b72), (.ref b72)])) rfl (by rw [hml]; rfl) (Steps.refl _) (a := b72) (argsL := [(.ref lf)]) (rest := [(.ref b72)]) (lenOf own_law_pd6 rfl) rfl (by show 2 * 0 + _ ≤ _; exact Nat.le_of_eq rfl) (hb hby at_290) (fun _ _ => ⟨rfl, rfl, (by decide : 49 + 0 ≤ _), (by decide : 653 + 0 ≤ _)⟩)
                      dsimp only [Pt.U, Pt.locs, Pt.cells, Pt.slots] at X103 l103 y103 z103 st103 hQ103
                      obtain rfl : k103 = 49 := y103
                      obtain rfl : n103 = 653 := z103
                      obtain ⟨rfl, N103q, R103, P105⟩ := hQ103
                      have N103 : Fr n0 L103 := l103 ▸ Fr.app N86 N103q
                      refine ownStep (fun _ k => st103.trans k) ?_
                      have KP106 : Keep h0 T103.heap [] := KP91.trans R103 (allS (Or.inr gh_b72) all0)
                      refine ownStep (fun _ k => XS.astore X103.here hx rfl (hb hby at_293) rfl rfl (l' := #[.val (.long t), .second, .val (.int xa), .val (.int xo), .val (.long ab), .second, .val (.long cd), .second, .val (.long mi), .second, .val (.int hiw), .val (.int f1), .val (.int f2), .val (.int f3), .val (.int f4), .val (.int f5), .val (.int c0), .val (.int c1), .val (.int c2), .val (.ref ov), .val (.ref b6), .val (.float (FP.i2f (ab.toInt32))), .val (.float (FP.i2f (((ab.toUInt64 >>> ((32 : Int32) &&& 0x3f).toInt64.toUInt64).toInt64).toInt32))), .val (.double (FP.i2d (cd.toInt32))), .second, .val (.double (FP.i2d (((cd.toUInt64 >>> ((32 : Int32) &&& 0x3f).toInt64.toUInt64).toInt64).toInt32))), .second, .val (.float (FP.i2f (mi.toInt32))), .val (.double (FP.i2d xa)), .second, .val (.double (FP.i2d xo)), .second, .val (.ref b32), .val (.ref b72), .unset, .unset, .unset, .unset, .unset, .unset]) rfl k) ?_
                      refine ownStep (fun _ k => XS.aload X103.here hx rfl (hb hby at_295) rfl rfl k) ?_
                      show ownGo p.tables e below (T103.setTop (mkF m 297 #[.val (.long t), .second, .val (.int xa), .val (.int xo), .val (.long ab), .second, .val (.long cd), .second, .val (.long mi), .second, .val (.int hiw), .val (.int f1), .val (.int f2), .val (.int f3), .val (.int f4), .val (.int f5), .val (.int c0), .val (.int c1), .val (.int c2), .val (.ref ov), .val (.ref b6), .val (.float (FP.i2f (ab.toInt32))), .val (.float (FP.i2f (((ab.toUInt64 >>> ((32 : Int32) &&& 0x3f).toInt64.toUInt64).toInt64).toInt32))), .val (.double (FP.i2d (cd.toInt32))), .second, .val (.double (FP.i2d (((cd.toUInt64 >>> ((32 : Int32) &&& 0x3f).toInt64.toUInt64).toInt64).toInt32))), .second, .val (.float (FP.i2f (mi.toInt32))), .val (.double (FP.i2d xa)), .second, .val (.double (FP.i2d xo)), .second, .val (.ref b32), .val (.ref b72), .unset, .unset, .unset, .unset, .unset, .unset] [(.ref b72)])) _
                      have Zs108 : n0 ≤ T103.heap.size := Nat.le_trans Z0 KP106.1
                      have Q109 := (Q92.keep R103)
                      obtain ⟨cq107, kq107, q107a, q107b, q107c⟩ := isOf hZ rfl Q109
                      obtain ⟨_, _, ⟨T107, L107, k107, n107⟩, -, X107, ⟨Lc107, hQ107, l107, y107, z107⟩, st107⟩ := X103.virtualBack hx (y := (⟨"com/example/fixd/fixd/client/Location", "getProvider", "()Ljava/lang/String;"⟩ : MethodName)) (z := (⟨"com/example/fixd/fixd/client/Location", "getProvider", "()Ljava/lang/String;"⟩ : MethodName)) hown (mvT hZ (hw _ ow244)) (mvT hZ (hw _ ow245)) (notFace_of_selects (args := #[]) (mvT hZ (hw _ ow247))) (mvT hZ (hw _ ow247)) (mvT hZ (hw _ ow246)) (by decide) (backOf (W := 0) (own_gP l Z a0 hw [] b72 b6 ot (FP.i2d xa) (FP.i2d xo) o1 o2 o3 o4 o5 ei T103.heap n0 Zs108 P105) hZ (hw _ ow248) (hw _ ow46) (by decide) (by decide)) q107a q107c (g := (mkF m 297 #[.val (.long t), .second, .val (.int xa), .val (.int xo), .val (.long ab), .second, .val (.long cd), .second, .val (.long mi), .second, .val (.int hiw), .val (.int f1), .val (.int f2), .val (.int f3), .val (.int f4), .val (.int f5), .val (.int c0), .val (.int c1), .val (.int c2), .val (.ref ov), .val (.ref b6), .val (.float (FP.i2f (ab.toInt32))), .val (.float (FP.i2f (((ab.toUInt64 >>> ((32 : Int32) &&& 0x3f).toInt64.toUInt64).toInt64).toInt32))), .val (.double (FP.i2d (cd.toInt32))), .second, .val (.double (FP.i2d (((cd.toUInt64 >>> ((32 : Int32) &&& 0x3f).toInt64.toUInt64).toInt64).toInt32))), .second, .val (.float (FP.i2f (mi.toInt32))), .val (.double (FP.i2d xa)), .second, .val (.double (FP.i2d xo)), .second, .val (.ref b32), .val (.ref b72), .unset, .unset, .unset, .unset, .unset, .unset] [(.ref b72)])) rfl (by rw [hml]; rfl) (Steps.refl _) (argsL := []) (rest := []) (lenOf own_law_pd7 rfl) rfl (by show 2 * 0 + _ ≤ _; exact Nat.le_of_eq rfl) (hb hby at_297) (fun _ _ => ⟨rfl, rfl, (by decide : 49 + 0 ≤ _), (by decide : 653 + 0 ≤ _)⟩)
                      dsimp only [Pt.U, Pt.locs, Pt.cells, Pt.slots] at X107 l107 y107 z107 st107 hQ107
                      obtain rfl : k107 = 49 := y107
                      obtain rfl : n107 = 653 := z107
                      obtain ⟨rfl, N107q, R107⟩ := hQ107
                      have N107 : Fr n0 L107 := l107 ▸ Fr.app N103 N107q
                      refine ownStep (fun _ k => st107.trans k) ?_
                      refine ownStep (fun _ k => XS.aload X107.here hx rfl (hb hby at_300) rfl rfl k) ?_
                      show ownGo p.tables e below (T107.setTop (mkF m 302 #[.val (.long t), .second, .val (.int xa), .val (.int xo), .val (.long ab), .second, .val (.long cd), .second, .val (.long mi), .second, .val (.int hiw), .val (.int f1), .val (.int f2), .val (.int f3), .val (.int f4), .val (.int f5), .val (.int c0), .val (.int c1), .val (.int c2), .val (.ref ov), .val (.ref b6), .val (.float (FP.i2f (ab.toInt32))), .val (.float (FP.i2f (((ab.toUInt64 >>> ((32 : Int32) &&& 0x3f).toInt64.toUInt64).toInt64).toInt32))), .val (.double (FP.i2d (cd.toInt32))), .second, .val (.double (FP.i2d (((cd.toUInt64 >>> ((32 : Int32) &&& 0x3f).toInt64.toUInt64).toInt64).toInt32))), .second, .val (.float (FP.i2f (mi.toInt32))), .val (.double (FP.i2d xa)), .second, .val (.double (FP.i2d xo)), .second, .val (.ref b32), .val (.ref b72), .unset, .unset, .unset, .unset, .unset, .unset] [(.ref b6), (.ref b6)])) _
                      have Zs111 : n0 ≤ T103.heap.size := Nat.le_trans Z0 KP106.1
                      have Q112 := ((((((((((((((Q23.keep R30).ext E32).keep R46).keep R52).keep R58).keep R63).keep Kj1).keep Kj2).keep Kj3).keep Kj4).keep Kj5).ext E72).ext R86).keep R103)
                      obtain ⟨cq110, kq110, q110a, q110b, q110c⟩ := isOf hZ R107 Q112
                      obtain ⟨_, _, ⟨T110, L110, k110, n110⟩, -, X110, ⟨Lc110, hQ110, l110, y110, z110⟩, st110⟩ := X107.virtualBack hx (y := (⟨"java/lang/String", "equals", "(Ljava/lang/Object;)Z"⟩ : MethodName)) (z := (⟨"java/lang/String", "equals", "(Ljava/lang/Object;)Z"⟩ : MethodName)) hown (mvT hZ (hw _ ow249)) (mvT hZ (hw _ ow250)) (notFace_of_selects (args := #[]) (mvT hZ (hw _ ow252))) (mvT hZ (hw _ ow252)) (mvT hZ (hw _ ow251)) (by decide) (backOf (W := 0) (own_equ l Z a0 hw [] b6 T103.heap n0 Zs111 ) hZ (hw _ ow253) (hw _ ow2) (by decide) (by decide)) q110a q110c (g := (mkF m 302 #[.val (.long t), .second, .val (.int xa), .val (.int xo), .val (.long ab), .second, .val (.long cd), .second, .val (.long mi), .second, .val (.int hiw), .val (.int f1), .val (.int f2), .val (.int f3), .val (.int f4), .val (.int f5), .val (.int c0), .val (.int c1), .val (.int c2), .val (.ref ov), .val (.ref b6), .val (.float (FP.i2f (ab.toInt32))), .val (.float (FP.i2f (((ab.toUInt64 >>> ((32 : Int32) &&& 0x3f).toInt64.toUInt64).toInt64).toInt32))), .val (.double (FP.i2d (cd.toInt32))), .second, .val (.double (FP.i2d (((cd.toUInt64 >>> ((32 : Int32) &&& 0x3f).toInt64.toUInt64).toInt64).toInt32))), .second, .val (.float (FP.i2f (mi.toInt32))), .val (.double (FP.i2d xa)), .second, .val (.double (FP.i2d xo)), .second, .val (.ref b32), .val (.ref b72), .unset, .unset, .unset, .unset, .unset, .unset] [(.ref b6), (.ref b6)])) rfl (by rw [hml]; rfl) (Steps.refl _) (argsL := [(.ref b6)]) (rest := []) (lenOf own_law_pd8 rfl) rfl (by show 2 * 0 + _ ≤ _; exact Nat.le_of_eq rfl) (hb hby at_302) (fun _ _ => ⟨rfl, R107, (by decide : 49 + 0 ≤ _), (by decide : 653 + 0 ≤ _)⟩)
                      dsimp only [Pt.U, Pt.locs, Pt.cells, Pt.slots] at X110 l110 y110 z110 st110 hQ110
                      obtain rfl : k110 = 49 := y110
                      obtain rfl : n110 = 653 := z110
                      obtain ⟨rfl, N110q, R110⟩ := hQ110
                      have N110 : Fr n0 L110 := l110 ▸ Fr.app N107 N110q
                      refine ownStep (fun _ k => st110.trans k) ?_
                      refine ownStep (fun _ k => XS.ifNo X110.here hx rfl (hb hby at_305) rfl ((if0 _ _).trans (feq (by decide : ¬ (1 : Int32) = (0 : Int32))).1) k) ?_
                      refine ownStep (fun _ k => XS.aload X110.here hx rfl (hb hby at_308) rfl rfl k) ?_
                      show ownGo p.tables e below (T110.setTop (mkF m 310 #[.val (.long t), .second, .val (.int xa), .val (.int xo), .val (.long ab), .second, .val (.long cd), .second, .val (.long mi), .second, .val (.int hiw), .val (.int f1), .val (.int f2), .val (.int f3), .val (.int f4), .val (.int f5), .val (.int c0), .val (.int c1), .val (.int c2), .val (.ref ov), .val (.ref b6), .val (.float (FP.i2f (ab.toInt32))), .val (.float (FP.i2f (((ab.toUInt64 >>> ((32 : Int32) &&& 0x3f).toInt64.toUInt64).toInt64).toInt32))), .val (.double (FP.i2d (cd.toInt32))), .second, .val (.double (FP.i2d (((cd.toUInt64 >>> ((32 : Int32) &&& 0x3f).toInt64.toUInt64).toInt64).toInt32))), .second, .val (.float (FP.i2f (mi.toInt32))), .val (.double (FP.i2d xa)), .second, .val (.double (FP.i2d xo)), .second, .val (.ref b32), .val (.ref b72), .unset, .unset, .unset, .unset, .unset, .unset] [(.ref b72)])) _
                      have ne113 : ot ≠ b32 := Exa.ne (P55.1) Q57 (by decide)
                      have ne114 : ot ≠ b72 := Exa.ne ((((((((((P55.1).keep R58).keep R63).keep Kj1).keep Kj2).keep Kj3).keep Kj4).keep Kj5).ext E72).ext R86) Q92 (by decide)
                      have Q115 := ((((((((((P55.keep R58 (ninS ne113 nin0)).keep R63 (ninS ne113 nin0)).keep Kj1 (ninS ne113 nin0)).keep Kj2 (ninS ne113 nin0)).keep Kj3 (ninS ne113 nin0)).keep Kj4 (ninS ne113 nin0)).keep Kj5 (ninS ne113 nin0)).ext E72).ext R86).keep R103 (ninS ne114 nin0))
                      have Q116 := (((((((((((P55.1).keep R58).keep R63).keep Kj1).keep Kj2).keep Kj3).keep Kj4).keep Kj5).ext E72).ext R86).keep R103)
                      have Zs118 : n0 ≤ T103.heap.size := Nat.le_trans Z0 KP106.1
                      obtain ⟨cq117, kq117, q117a, q117b, q117c⟩ := isOf hZ R110 Q109
                      obtain ⟨_, _, ⟨T117, L117, k117, n117⟩, -, X117, ⟨Lc117, hQ117, l117, y117, z117⟩, st117⟩ := X110.virtualBack hx (y := (⟨"com/example/fixd/fixd/client/Location", "getTime", "()J"⟩ : MethodName)) (z := (⟨"com/example/fixd/fixd/client/Location", "getTime", "()J"⟩ : MethodName)) hown (mvT hZ (hw _ ow254)) (mvT hZ (hw _ ow255)) (notFace_of_selects (args := #[]) (mvT hZ (hw _ ow257))) (mvT hZ (hw _ ow257)) (mvT hZ (hw _ ow256)) (by decide) (backOf (W := 0) (own_gT l Z a0 hw [] b72 b6 ot (FP.i2d xa) (FP.i2d xo) o1 o2 o3 o4 o5 ei t T103.heap n0 Zs118 P105 Q115 Q116) hZ (hw _ ow258) (hw _ ow46) (by decide) (by decide)) q117a q117c (g := (mkF m 310 #[.val (.long t), .second, .val (.int xa), .val (.int xo), .val (.long ab), .second, .val (.long cd), .second, .val (.long mi), .second, .val (.int hiw), .val (.int f1), .val (.int f2), .val (.int f3), .val (.int f4), .val (.int f5), .val (.int c0), .val (.int c1), .val (.int c2), .val (.ref ov), .val (.ref b6), .val (.float (FP.i2f (ab.toInt32))), .val (.float (FP.i2f (((ab.toUInt64 >>> ((32 : Int32) &&& 0x3f).toInt64.toUInt64).toInt64).toInt32))), .val (.double (FP.i2d (cd.toInt32))), .second, .val (.double (FP.i2d (((cd.toUInt64 >>> ((32 : Int32) &&& 0x3f).toInt64.toUInt64).toInt64).toInt32))), .second, .val (.float (FP.i2f (mi.toInt32))), .val (.double (FP.i2d xa)), .second, .val (.double (FP.i2d xo)), .second, .val (.ref b32), .val (.ref b72), .unset, .unset, .unset, .unset, .unset, .unset] [(.ref b72)])) rfl (by rw [hml]; rfl) (Steps.refl _) (argsL := []) (rest := []) (lenOf own_law_pd9 rfl) rfl (by show 2 * 0 + _ ≤ _; exact Nat.le_of_eq rfl) (hb hby at_310) (fun _ _ => ⟨rfl, R110, (by decide : 49 + 0 ≤ _), (by decide : 653 + 0 ≤ _)⟩)
                      dsimp only [Pt.U, Pt.locs, Pt.cells, Pt.slots] at X117 l117 y117 z117 st117 hQ117
                      obtain rfl : k117 = 49 := y117
                      obtain rfl : n117 = 653 := z117
                      obtain ⟨rfl, N117q, R117⟩ := hQ117
                      have N117 : Fr n0 L117 := l117 ▸ Fr.app N110 N117q
                      refine ownStep (fun _ k => st117.trans k) ?_
                      refine ownStep (fun _ k => XS.lloadN X117.here hx rfl (hb hby at_313) rfl  k) ?_
                      refine ownStep (fun _ k => XS.lcmp X117.here hx rfl (hb hby at_314) rfl k) ?_
                      refine ownStep (fun _ k => XS.ifNo X117.here hx rfl (hb hby at_315) rfl ((if0 _ _).trans (teq ((lw_eq t t).mpr rfl : (lcmpW t t) = (0 : Int32))).2) k) ?_
                      refine ownStep (fun _ k => XS.aload X117.here hx rfl (hb hby at_318) rfl rfl k) ?_
                      show ownGo p.tables e below (T117.setTop (mkF m 320 #[.val (.long t), .second, .val (.int xa), .val (.int xo), .val (.long ab), .second, .val (.long cd), .second, .val (.long mi), .second, .val (.int hiw), .val (.int f1), .val (.int f2), .val (.int f3), .val (.int f4), .val (.int f5), .val (.int c0), .val (.int c1), .val (.int c2), .val (.ref ov), .val (.ref b6), .val (.float (FP.i2f (ab.toInt32))), .val (.float (FP.i2f (((ab.toUInt64 >>> ((32 : Int32) &&& 0x3f).toInt64.toUInt64).toInt64).toInt32))), .val (.double (FP.i2d (cd.toInt32))), .second, .val (.double (FP.i2d (((cd.toUInt64 >>> ((32 : Int32) &&& 0x3f).toInt64.toUInt64).toInt64).toInt32))), .second, .val (.float (FP.i2f (mi.toInt32))), .val (.double (FP.i2d xa)), .second, .val (.double (FP.i2d xo)), .second, .val (.ref b32), .val (.ref b72), .unset, .unset, .unset, .unset, .unset, .unset] [(.ref b72)])) _
                      have Zs120 : n0 ≤ T103.heap.size := Nat.le_trans Z0 KP106.1
                      obtain ⟨cq119, kq119, q119a, q119b, q119c⟩ := isOf hZ R117 Q109
                      obtain ⟨_, _, ⟨T119, L119, k119, n119⟩, -, X119, ⟨Lc119, hQ119, l119, y119, z119⟩, st119⟩ := X117.virtualBack hx (y := (⟨"com/example/fixd/fixd/client/Location", "getLatitude", "()D"⟩ : MethodName)) (z := (⟨"com/example/fixd/fixd/client/Location", "getLatitude", "()D"⟩ : MethodName)) hown (mvT hZ (hw _ ow276)) (mvT hZ (hw _ ow277)) (notFace_of_selects (args := #[]) (mvT hZ (hw _ ow279))) (mvT hZ (hw _ ow279)) (mvT hZ (hw _ ow278)) (by decide) (backOf (W := 0) (od_la l Z a0 hw [] b72 b6 ot (FP.i2d xa) (FP.i2d xo) o1 o2 o3 o4 o5 ei T103.heap n0 Zs120 P105) hZ (hw _ ow280) (hw _ ow46) (by decide) (by decide)) q119a q119c (g := (mkF m 320 #[.val (.long t), .second, .val (.int xa), .val (.int xo), .val (.long ab), .second, .val (.long cd), .second, .val (.long mi), .second, .val (.int hiw), .val (.int f1), .val (.int f2), .val (.int f3), .val (.int f4), .val (.int f5), .val (.int c0), .val (.int c1), .val (.int c2), .val (.ref ov), .val (.ref b6), .val (.float (FP.i2f (ab.toInt32))), .val (.float (FP.i2f (((ab.toUInt64 >>> ((32 : Int32) &&& 0x3f).toInt64.toUInt64).toInt64).toInt32))), .val (.double (FP.i2d (cd.toInt32))), .second, .val (.double (FP.i2d (((cd.toUInt64 >>> ((32 : Int32) &&& 0x3f).toInt64.toUInt64).toInt64).toInt32))), .second, .val (.float (FP.i2f (mi.toInt32))), .val (.double (FP.i2d xa)), .second, .val (.double (FP.i2d xo)), .second, .val (.ref b32), .val (.ref b72), .unset, .unset, .unset, .unset, .unset, .unset] [(.ref b72)])) rfl (by rw [hml]; rfl) (Steps.refl _) (argsL := []) (rest := []) (lenOf own_law_pd10 rfl) rfl (by show 2 * 0 + _ ≤ _; exact Nat.le_of_eq rfl) (hb hby at_320) (fun _ _ => ⟨rfl, R117, (by decide : 49 + 0 ≤ _), (by decide : 653 + 0 ≤ _)⟩)
                      dsimp only [Pt.U, Pt.locs, Pt.cells, Pt.slots] at X119 l119 y119 z119 st119 hQ119
                      obtain rfl : k119 = 49 := y119
                      obtain rfl : n119 = 653 := z119
                      obtain ⟨rfl, N119q, R119⟩ := hQ119
                      have N119 : Fr n0 L119 := l119 ▸ Fr.app N117 N119q
                      refine ownStep (fun _ k => st119.trans k) ?_
                      refine ownStep (fun _ k => XS.dload X119.here hx rfl (hb hby at_323) rfl k) ?_
                      refine ownStep (fun _ k => XS.dcmpS X119.here hx rfl (hb hby at_325) rfl rfl k) ?_
                      refine ownStep (fun _ k => XS.ifNo X119.here hx rfl (hb hby at_326) rfl ((if0 _ _).trans (teq (dcmpV_self (i2d_fin _).noNaN _ : (cmpValue (FP.dcmp (FP.i2d xa) (FP.i2d xa)) .l) = (0 : Int32))).2) k) ?_
                      refine ownStep (fun _ k => XS.aload X119.here hx rfl (hb hby at_329) rfl rfl k) ?_
                      show ownGo p.tables e below (T119.setTop (mkF m 331 #[.val (.long t), .second, .val (.int xa), .val (.int xo), .val (.long ab), .second, .val (.long cd), .second, .val (.long mi), .second, .val (.int hiw), .val (.int f1), .val (.int f2), .val (.int f3), .val (.int f4), .val (.int f5), .val (.int c0), .val (.int c1), .val (.int c2), .val (.ref ov), .val (.ref b6), .val (.float (FP.i2f (ab.toInt32))), .val (.float (FP.i2f (((ab.toUInt64 >>> ((32 : Int32) &&& 0x3f).toInt64.toUInt64).toInt64).toInt32))), .val (.double (FP.i2d (cd.toInt32))), .second, .val (.double (FP.i2d (((cd.toUInt64 >>> ((32 : Int32) &&& 0x3f).toInt64.toUInt64).toInt64).toInt32))), .second, .val (.float (FP.i2f (mi.toInt32))), .val (.double (FP.i2d xa)), .second, .val (.double (FP.i2d xo)), .second, .val (.ref b32), .val (.ref b72), .unset, .unset, .unset, .unset, .unset, .unset] [(.ref b72)])) _
                      have Zs122 : n0 ≤ T103.heap.size := Nat.le_trans Z0 KP106.1
                      obtain ⟨cq121, kq121, q121a, q121b, q121c⟩ := isOf hZ R119 Q109
                      obtain ⟨_, _, ⟨T121, L121, k121, n121⟩, -, X121, ⟨Lc121, hQ121, l121, y121, z121⟩, st121⟩ := X119.virtualBack hx (y := (⟨"com/example/fixd/fixd/client/Location", "getLongitude", "()D"⟩ : MethodName)) (z := (⟨"com/example/fixd/fixd/client/Location", "getLongitude", "()D"⟩ : MethodName)) hown (mvT hZ (hw _ ow281)) (mvT hZ (hw _ ow282)) (notFace_of_selects (args := #[]) (mvT hZ (hw _ ow284))) (mvT hZ (hw _ ow284)) (mvT hZ (hw _ ow283)) (by decide) (backOf (W := 0) (od_lo l Z a0 hw [] b72 b6 ot (FP.i2d xa) (FP.i2d xo) o1 o2 o3 o4 o5 ei T103.heap n0 Zs122 P105) hZ (hw _ ow285) (hw _ ow46) (by decide) (by decide)) q121a q121c (g := (mkF m 331 #[.val (.long t), .second, .val (.int xa), .val (.int xo), .val (.long ab), .second, .val (.long cd), .second, .val (.long mi), .second, .val (.int hiw), .val (.int f1), .val (.int f2), .val (.int f3), .val (.int f4), .val (.int f5), .val (.int c0), .val (.int c1), .val (.int c2), .val (.ref ov), .val (.ref b6), .val (.float (FP.i2f (ab.toInt32))), .val (.float (FP.i2f (((ab.toUInt64 >>> ((32 : Int32) &&& 0x3f).toInt64.toUInt64).toInt64).toInt32))), .val (.double (FP.i2d (cd.toInt32))), .second, .val (.double (FP.i2d (((cd.toUInt64 >>> ((32 : Int32) &&& 0x3f).toInt64.toUInt64).toInt64).toInt32))), .second, .val (.float (FP.i2f (mi.toInt32))), .val (.double (FP.i2d xa)), .second, .val (.double (FP.i2d xo)), .second, .val (.ref b32), .val (.ref b72), .unset, .unset, .unset, .unset, .unset, .unset] [(.ref b72)])) rfl (by rw [hml]; rfl) (Steps.refl _) (argsL := []) (rest := []) (lenOf own_law_pd10 rfl) rfl (by show 2 * 0 + _ ≤ _; exact Nat.le_of_eq rfl) (hb hby at_331) (fun _ _ => ⟨rfl, R119, (by decide : 49 + 0 ≤ _), (by decide : 653 + 0 ≤ _)⟩)
                      dsimp only [Pt.U, Pt.locs, Pt.cells, Pt.slots] at X121 l121 y121 z121 st121 hQ121
                      obtain rfl : k121 = 49 := y121
                      obtain rfl : n121 = 653 := z121
                      obtain ⟨rfl, N121q, R121⟩ := hQ121
                      have N121 : Fr n0 L121 := l121 ▸ Fr.app N119 N121q
                      refine ownStep (fun _ k => st121.trans k) ?_
                      refine ownStep (fun _ k => XS.dload X121.here hx rfl (hb hby at_334) rfl k) ?_
                      refine ownStep (fun _ k => XS.dcmpS X121.here hx rfl (hb hby at_336) rfl rfl k) ?_
                      refine ownStep (fun _ k => XS.ifNo X121.here hx rfl (hb hby at_337) rfl ((if0 _ _).trans (teq (dcmpV_self (i2d_fin _).noNaN _ : (cmpValue (FP.dcmp (FP.i2d xo) (FP.i2d xo)) .l) = (0 : Int32))).2) k) ?_
                      refine ownStep (fun _ k => XS.iconst X121.here hx rfl (hb hby at_340) k) ?_
                      refine ownStep (fun _ k => XS.goto X121.here hx rfl (pc0 := 341) (pc' := 345) rfl (hb hby at_341) (by decide) (by decide) k) ?_
                      refine ownStep (fun _ k => XS.istore X121.here hx rfl (hb hby at_345) rfl (l' := #[.val (.long t), .second, .val (.int xa), .val (.int xo), .val (.long ab), .second, .val (.long cd), .second, .val (.long mi), .second, .val (.int hiw), .val (.int f1), .val (.int f2), .val (.int f3), .val (.int f4), .val (.int f5), .val (.int c0), .val (.int c1), .val (.int c2), .val (.ref ov), .val (.ref b6), .val (.float (FP.i2f (ab.toInt32))), .val (.float (FP.i2f (((ab.toUInt64 >>> ((32 : Int32) &&& 0x3f).toInt64.toUInt64).toInt64).toInt32))), .val (.double (FP.i2d (cd.toInt32))), .second, .val (.double (FP.i2d (((cd.toUInt64 >>> ((32 : Int32) &&& 0x3f).toInt64.toUInt64).toInt64).toInt32))), .second, .val (.float (FP.i2f (mi.toInt32))), .val (.double (FP.i2d xa)), .second, .val (.double (FP.i2d xo)), .second, .val (.ref b32), .val (.ref b72), .val (.int (1 : Int32)), .unset, .unset, .unset, .unset, .unset]) rfl k) ?_
                      refine ownStep (fun _ k => XS.aload X121.here hx rfl (hb hby at_347) rfl rfl k) ?_
                      show ownGo p.tables e below (T121.setTop (mkF m 349 #[.val (.long t), .second, .val (.int xa), .val (.int xo), .val (.long ab), .second, .val (.long cd), .second, .val (.long mi), .second, .val (.int hiw), .val (.int f1), .val (.int f2), .val (.int f3), .val (.int f4), .val (.int f5), .val (.int c0), .val (.int c1), .val (.int c2), .val (.ref ov), .val (.ref b6), .val (.float (FP.i2f (ab.toInt32))), .val (.float (FP.i2f (((ab.toUInt64 >>> ((32 : Int32) &&& 0x3f).toInt64.toUInt64).toInt64).toInt32))), .val (.double (FP.i2d (cd.toInt32))), .second, .val (.double (FP.i2d (((cd.toUInt64 >>> ((32 : Int32) &&& 0x3f).toInt64.toUInt64).toInt64).toInt32))), .second, .val (.float (FP.i2f (mi.toInt32))), .val (.double (FP.i2d xa)), .second, .val (.double (FP.i2d xo)), .second, .val (.ref b32), .val (.ref b72), .val (.int (1 : Int32)), .unset, .unset, .unset, .unset, .unset] [(.ref b72)])) _
                      have ne123 : o1 ≠ b32 := Exa.ne (Oj1.1) ((Q62.keep R63).keep Kj1) (by decide)
                      have ne124 : o1 ≠ b72 := Exa.ne (((((((Oj1.1).keep Kj2).keep Kj3).keep Kj4).keep Kj5).ext E72).ext R86) Q92 (by decide)
                      have Q125 := (((((((Oj1.keep Kj2 (ninS ne123 nin0)).keep Kj3 (ninS ne123 nin0)).keep Kj4 (ninS ne123 nin0)).keep Kj5 (ninS ne123 nin0)).ext E72).ext R86).keep R103 (ninS ne124 nin0))
                      have Q126 := ((((((((Oj1.1).keep Kj2).keep Kj3).keep Kj4).keep Kj5).ext E72).ext R86).keep R103)
                      have Zs128 : n0 ≤ T103.heap.size := Nat.le_trans Z0 KP106.1
                      obtain ⟨cq127, kq127, q127a, q127b, q127c⟩ := isOf hZ R121 Q109
                      obtain ⟨_, _, ⟨T127, L127, k127, n127⟩, -, X127, ⟨Lc127, hQ127, l127, y127, z127⟩, st127⟩ := X121.virtualBack hx (y := (⟨"com/example/fixd/fixd/client/Location", "hasSpeed", "()Z"⟩ : MethodName)) (z := (⟨"com/example/fixd/fixd/client/Location", "hasSpeed", "()Z"⟩ : MethodName)) hown (mvT hZ (hw _ ow286)) (mvT hZ (hw _ ow287)) (notFace_of_selects (args := #[]) (mvT hZ (hw _ ow289))) (mvT hZ (hw _ ow289)) (mvT hZ (hw _ ow288)) (by decide) (backOf (W := 0) (oh_sp l Z a0 hw [] b72 b6 ot (FP.i2d xa) (FP.i2d xo) o1 o2 o3 o4 o5 ei f1 v1 T103.heap n0 Zs128 P105 Q125 Q126 bf1) hZ (hw _ ow290) (hw _ ow46) (by decide) (by decide)) q127a q127c (g := (mkF m 349 #[.val (.long t), .second, .val (.int xa), .val (.int xo), .val (.long ab), .second, .val (.long cd), .second, .val (.long mi), .second, .val (.int hiw), .val (.int f1), .val (.int f2), .val (.int f3), .val (.int f4), .val (.int f5), .val (.int c0), .val (.int c1), .val (.int c2), .val (.ref ov), .val (.ref b6), .val (.float (FP.i2f (ab.toInt32))), .val (.float (FP.i2f (((ab.toUInt64 >>> ((32 : Int32) &&& 0x3f).toInt64.toUInt64).toInt64).toInt32))), .val (.double (FP.i2d (cd.toInt32))), .second, .val (.double (FP.i2d (((cd.toUInt64 >>> ((32 : Int32) &&& 0x3f).toInt64.toUInt64).toInt64).toInt32))), .second, .val (.float (FP.i2f (mi.toInt32))), .val (.double (FP.i2d xa)), .second, .val (.double (FP.i2d xo)), .second, .val (.ref b32), .val (.ref b72), .val (.int (1 : Int32)), .unset, .unset, .unset, .unset, .unset] [(.ref b72)])) rfl (by rw [hml]; rfl) (Steps.refl _) (argsL := []) (rest := []) (lenOf own_law_pd11 rfl) rfl (by show 2 * 0 + _ ≤ _; exact Nat.le_of_eq rfl) (hb hby at_349) (fun _ _ => ⟨rfl, R121, (by decide : 49 + 0 ≤ _), (by decide : 653 + 0 ≤ _)⟩)
                      dsimp only [Pt.U, Pt.locs, Pt.cells, Pt.slots] at X127 l127 y127 z127 st127 hQ127
                      obtain rfl : k127 = 49 := y127
                      obtain rfl : n127 = 653 := z127
                      obtain ⟨rfl, N127q, R127⟩ := hQ127
                      have N127 : Fr n0 L127 := l127 ▸ Fr.app N121 N127q
                      refine ownStep (fun _ k => st127.trans k) ?_
                      refine ownStep (fun _ k => XS.iload X127.here hx rfl (hb hby at_352) rfl  k) ?_
                      refine ownStep (fun _ k => XS.icmpNo X127.here hx rfl (hb hby at_354) rfl (teq (rfl : f1 = f1)).2 k) ?_
                      refine ownStep (fun _ k => XS.aload X127.here hx rfl (hb hby at_357) rfl rfl k) ?_
                      show ownGo p.tables e below (T127.setTop (mkF m 359 #[.val (.long t), .second, .val (.int xa), .val (.int xo), .val (.long ab), .second, .val (.long cd), .second, .val (.long mi), .second, .val (.int hiw), .val (.int f1), .val (.int f2), .val (.int f3), .val (.int f4), .val (.int f5), .val (.int c0), .val (.int c1), .val (.int c2), .val (.ref ov), .val (.ref b6), .val (.float (FP.i2f (ab.toInt32))), .val (.float (FP.i2f (((ab.toUInt64 >>> ((32 : Int32) &&& 0x3f).toInt64.toUInt64).toInt64).toInt32))), .val (.double (FP.i2d (cd.toInt32))), .second, .val (.double (FP.i2d (((cd.toUInt64 >>> ((32 : Int32) &&& 0x3f).toInt64.toUInt64).toInt64).toInt32))), .second, .val (.float (FP.i2f (mi.toInt32))), .val (.double (FP.i2d xa)), .second, .val (.double (FP.i2d xo)), .second, .val (.ref b32), .val (.ref b72), .val (.int (1 : Int32)), .unset, .unset, .unset, .unset, .unset] [(.ref b72)])) _
                      have Zs130 : n0 ≤ T103.heap.size := Nat.le_trans Z0 KP106.1
                      obtain ⟨cq129, kq129, q129a, q129b, q129c⟩ := isOf hZ R127 Q109
                      obtain ⟨_, _, ⟨T129, L129, k129, n129⟩, -, X129, ⟨Lc129, hQ129, l129, y129, z129⟩, st129⟩ := X127.virtualBack hx (y := (⟨"com/example/fixd/fixd/client/Location", "getSpeed", "()F"⟩ : MethodName)) (z := (⟨"com/example/fixd/fixd/client/Location", "getSpeed", "()F"⟩ : MethodName)) hown (mvT hZ (hw _ ow298)) (mvT hZ (hw _ ow299)) (notFace_of_selects (args := #[]) (mvT hZ (hw _ ow301))) (mvT hZ (hw _ ow301)) (mvT hZ (hw _ ow300)) (by decide) (backOf (W := 0) (ot_sp l Z a0 hw [] b72 b6 ot (FP.i2d xa) (FP.i2d xo) o1 o2 o3 o4 o5 ei f1 v1 T103.heap n0 Zs130 P105 Q125 Q126 bf1 (own_gv hv1).1) hZ (hw _ ow302) (hw _ ow46) (by decide) (by decide)) q129a q129c (g := (mkF m 359 #[.val (.long t), .second, .val (.int xa), .val (.int xo), .val (.long ab), .second, .val (.long cd), .second, .val (.long mi), .second, .val (.int hiw), .val (.int f1), .val (.int f2), .val (.int f3), .val (.int f4), .val (.int f5), .val (.int c0), .val (.int c1), .val (.int c2), .val (.ref ov), .val (.ref b6), .val (.float (FP.i2f (ab.toInt32))), .val (.float (FP.i2f (((ab.toUInt64 >>> ((32 : Int32) &&& 0x3f).toInt64.toUInt64).toInt64).toInt32))), .val (.double (FP.i2d (cd.toInt32))), .second, .val (.double (FP.i2d (((cd.toUInt64 >>> ((32 : Int32) &&& 0x3f).toInt64.toUInt64).toInt64).toInt32))), .second, .val (.float (FP.i2f (mi.toInt32))), .val (.double (FP.i2d xa)), .second, .val (.double (FP.i2d xo)), .second, .val (.ref b32), .val (.ref b72), .val (.int (1 : Int32)), .unset, .unset, .unset, .unset, .unset] [(.ref b72)])) rfl (by rw [hml]; rfl) (Steps.refl _) (argsL := []) (rest := []) (lenOf own_law_pd12 rfl) rfl (by show 2 * 0 + _ ≤ _; exact Nat.le_of_eq rfl) (hb hby at_359) (fun _ _ => ⟨rfl, R127, (by decide : 49 + 0 ≤ _), (by decide : 653 + 0 ≤ _)⟩)
                      dsimp only [Pt.U, Pt.locs, Pt.cells, Pt.slots] at X129 l129 y129 z129 st129 hQ129
                      obtain rfl : k129 = 49 := y129
                      obtain rfl : n129 = 653 := z129
                      obtain ⟨rfl, N129q, R129⟩ := hQ129
                      have N129 : Fr n0 L129 := l129 ▸ Fr.app N127 N129q
                      refine ownStep (fun _ k => st129.trans k) ?_
                      show ownGo p.tables e below (T129.setTop (mkF m 362 #[.val (.long t), .second, .val (.int xa), .val (.int xo), .val (.long ab), .second, .val (.long cd), .second, .val (.long mi), .second, .val (.int hiw), .val (.int f1), .val (.int f2), .val (.int f3), .val (.int f4), .val (.int f5), .val (.int c0), .val (.int c1), .val (.int c2), .val (.ref ov), .val (.ref b6), .val (.float (FP.i2f (ab.toInt32))), .val (.float (FP.i2f (((ab.toUInt64 >>> ((32 : Int32) &&& 0x3f).toInt64.toUInt64).toInt64).toInt32))), .val (.double (FP.i2d (cd.toInt32))), .second, .val (.double (FP.i2d (((cd.toUInt64 >>> ((32 : Int32) &&& 0x3f).toInt64.toUInt64).toInt64).toInt32))), .second, .val (.float (FP.i2f (mi.toInt32))), .val (.double (FP.i2d xa)), .second, .val (.double (FP.i2d xo)), .second, .val (.ref b32), .val (.ref b72), .val (.int (1 : Int32)), .unset, .unset, .unset, .unset, .unset] [(.float (FP.d2f (if f1 = (0 : Int32) then FP.dconst0 else v1)))])) _
                      have J384 : ∀ (Tj : State) (Lj : List Loc) (Xj : Stand p l e room_1 (s.setVm T86.vm) m #[(.long t), (.int xa), (.int xo), (.long ab), (.long cd), (.long mi)] below meth c Tj Lj 49 653) (ej : Tj.heap = T103.heap) (Nj : Fr n0 Lj), ownGo p.tables e below (Tj.setTop (mkF m 384 #[.val (.long t), .second, .val (.int xa), .val (.int xo), .val (.long ab), .second, .val (.long cd), .second, .val (.long mi), .second, .val (.int hiw), .val (.int f1), .val (.int f2), .val (.int f3), .val (.int f4), .val (.int f5), .val (.int c0), .val (.int c1), .val (.int c2), .val (.ref ov), .val (.ref b6), .val (.float (FP.i2f (ab.toInt32))), .val (.float (FP.i2f (((ab.toUInt64 >>> ((32 : Int32) &&& 0x3f).toInt64.toUInt64).toInt64).toInt32))), .val (.double (FP.i2d (cd.toInt32))), .second, .val (.double (FP.i2d (((cd.toUInt64 >>> ((32 : Int32) &&& 0x3f).toInt64.toUInt64).toInt64).toInt32))), .second, .val (.float (FP.i2f (mi.toInt32))), .val (.double (FP.i2d xa)), .second, .val (.double (FP.i2d xo)), .second, .val (.ref b32), .val (.ref b72), .val (.int (1 : Int32)), .val (.int (1 : Int32)), .unset, .unset, .unset, .unset] [])) (ownEndW below s (own_law_Q Z zc em ei ep t xa xo ab cd mi h0 n0) room_1.cells room_1.slots) := by
                        intro Tj Lj Xj ej Nj
                        refine ownStep (fun _ k => XS.aload Xj.here hx rfl (hb hby at_384) rfl rfl k) ?_
                        show ownGo p.tables e below (Tj.setTop (mkF m 386 #[.val (.long t), .second, .val (.int xa), .val (.int xo), .val (.long ab), .second, .val (.long cd), .second, .val (.long mi), .second, .val (.int hiw), .val (.int f1), .val (.int f2), .val (.int f3), .val (.int f4), .val (.int f5), .val (.int c0), .val (.int c1), .val (.int c2), .val (.ref ov), .val (.ref b6), .val (.float (FP.i2f (ab.toInt32))), .val (.float (FP.i2f (((ab.toUInt64 >>> ((32 : Int32) &&& 0x3f).toInt64.toUInt64).toInt64).toInt32))), .val (.double (FP.i2d (cd.toInt32))), .second, .val (.double (FP.i2d (((cd.toUInt64 >>> ((32 : Int32) &&& 0x3f).toInt64.toUInt64).toInt64).toInt32))), .second, .val (.float (FP.i2f (mi.toInt32))), .val (.double (FP.i2d xa)), .second, .val (.double (FP.i2d xo)), .second, .val (.ref b32), .val (.ref b72), .val (.int (1 : Int32)), .val (.int (1 : Int32)), .unset, .unset, .unset, .unset] [(.ref b72)])) _
                        have ne131 : o2 ≠ b32 := Exa.ne (Oj2.1) (((Q62.keep R63).keep Kj1).keep Kj2) (by decide)
                        have ne132 : o2 ≠ b72 := Exa.ne ((((((Oj2.1).keep Kj3).keep Kj4).keep Kj5).ext E72).ext R86) Q92 (by decide)
                        have Q133 := ((((((Oj2.keep Kj3 (ninS ne131 nin0)).keep Kj4 (ninS ne131 nin0)).keep Kj5 (ninS ne131 nin0)).ext E72).ext R86).keep R103 (ninS ne132 nin0))
                        have Q134 := (((((((Oj2.1).keep Kj3).keep Kj4).keep Kj5).ext E72).ext R86).keep R103)
                        have Zs136 : n0 ≤ T103.heap.size := Nat.le_trans Z0 KP106.1
                        obtain ⟨cq135, kq135, q135a, q135b, q135c⟩ := isOf hZ ej Q109
                        obtain ⟨_, _, ⟨T135, L135, k135, n135⟩, -, X135, ⟨Lc135, hQ135, l135, y135, z135⟩, st135⟩ := Xj.virtualBack hx (y := (⟨"com/example/fixd/fixd/client/Location", "hasBearing", "()Z"⟩ : MethodName)) (z := (⟨"com/example/fixd/fixd/client/Location", "hasBearing", "()Z"⟩ : MethodName)) hown (mvT hZ (hw _ ow308)) (mvT hZ (hw _ ow309)) (notFace_of_selects (args := #[]) (mvT hZ (hw _ ow311))) (mvT hZ (hw _ ow311)) (mvT hZ (hw _ ow310)) (by decide) (backOf (W := 0) (oh_be l Z a0 hw [] b72 b6 ot (FP.i2d xa) (FP.i2d xo) o1 o2 o3 o4 o5 ei f2 v2 T103.heap n0 Zs136 P105 Q133 Q134 bf2) hZ (hw _ ow312) (hw _ ow46) (by decide) (by decide)) q135a q135c (g := (mkF m 386 #[.val (.long t), .second, .val (.int xa), .val (.int xo), .val (.long ab), .second, .val (.long cd), .second, .val (.long mi), .second, .val (.int hiw), .val (.int f1), .val (.int f2), .val (.int f3), .val (.int f4), .val (.int f5), .val (.int c0), .val (.int c1), .val (.int c2), .val (.ref ov), .val (.ref b6), .val (.float (FP.i2f (ab.toInt32))), .val (.float (FP.i2f (((ab.toUInt64 >>> ((32 : Int32) &&& 0x3f).toInt64.toUInt64).toInt64).toInt32))), .val (.double (FP.i2d (cd.toInt32))), .second, .val (.double (FP.i2d (((cd.toUInt64 >>> ((32 : Int32) &&& 0x3f).toInt64.toUInt64).toInt64).toInt32))), .second, .val (.float (FP.i2f (mi.toInt32))), .val (.double (FP.i2d xa)), .second, .val (.double (FP.i2d xo)), .second, .val (.ref b32), .val (.ref b72), .val (.int (1 : Int32)), .val (.int (1 : Int32)), .unset, .unset, .unset, .unset] [(.ref b72)])) rfl (by rw [hml]; rfl) (Steps.refl _) (argsL := []) (rest := []) (lenOf own_law_pd11 rfl) rfl (by show 2 * 0 + _ ≤ _; exact Nat.le_of_eq rfl) (hb hby at_386) (fun _ _ => ⟨rfl, ej, (by decide : 49 + 0 ≤ _), (by decide : 653 + 0 ≤ _)⟩)
                        dsimp only [Pt.U, Pt.locs, Pt.cells, Pt.slots] at X135 l135 y135 z135 st135 hQ135
                        obtain rfl : k135 = 49 := y135
                        obtain rfl : n135 = 653 := z135
                        obtain ⟨rfl, N135q, R135⟩ := hQ135
                        have N135 : Fr n0 L135 := l135 ▸ Fr.app Nj N135q
                        refine ownStep (fun _ k => st135.trans k) ?_
                        refine ownStep (fun _ k => XS.iload X135.here hx rfl (hb hby at_389) rfl  k) ?_
                        refine ownStep (fun _ k => XS.icmpNo X135.here hx rfl (hb hby at_391) rfl (teq (rfl : f2 = f2)).2 k) ?_
                        refine ownStep (fun _ k => XS.aload X135.here hx rfl (hb hby at_394) rfl rfl k) ?_
                        show ownGo p.tables e below (T135.setTop (mkF m 396 #[.val (.long t), .second, .val (.int xa), .val (.int xo), .val (.long ab), .second, .val (.long cd), .second, .val (.long mi), .second, .val (.int hiw), .val (.int f1), .val (.int f2), .val (.int f3), .val (.int f4), .val (.int f5), .val (.int c0), .val (.int c1), .val (.int c2), .val (.ref ov), .val (.ref b6), .val (.float (FP.i2f (ab.toInt32))), .val (.float (FP.i2f (((ab.toUInt64 >>> ((32 : Int32) &&& 0x3f).toInt64.toUInt64).toInt64).toInt32))), .val (.double (FP.i2d (cd.toInt32))), .second, .val (.double (FP.i2d (((cd.toUInt64 >>> ((32 : Int32) &&& 0x3f).toInt64.toUInt64).toInt64).toInt32))), .second, .val (.float (FP.i2f (mi.toInt32))), .val (.double (FP.i2d xa)), .second, .val (.double (FP.i2d xo)), .second, .val (.ref b32), .val (.ref b72), .val (.int (1 : Int32)), .val (.int (1 : Int32)), .unset, .unset, .unset, .unset] [(.ref b72)])) _
                        have Zs138 : n0 ≤ T103.heap.size := Nat.le_trans Z0 KP106.1
                        obtain ⟨cq137, kq137, q137a, q137b, q137c⟩ := isOf hZ R135 Q109
                        obtain ⟨_, _, ⟨T137, L137, k137, n137⟩, -, X137, ⟨Lc137, hQ137, l137, y137, z137⟩, st137⟩ := X135.virtualBack hx (y := (⟨"com/example/fixd/fixd/client/Location", "getBearing", "()F"⟩ : MethodName)) (z := (⟨"com/example/fixd/fixd/client/Location", "getBearing", "()F"⟩ : MethodName)) hown (mvT hZ (hw _ ow313)) (mvT hZ (hw _ ow314)) (notFace_of_selects (args := #[]) (mvT hZ (hw _ ow316))) (mvT hZ (hw _ ow316)) (mvT hZ (hw _ ow315)) (by decide) (backOf (W := 0) (ot_be l Z a0 hw [] b72 b6 ot (FP.i2d xa) (FP.i2d xo) o1 o2 o3 o4 o5 ei f2 v2 T103.heap n0 Zs138 P105 Q133 Q134 bf2 (own_gv hv2).1) hZ (hw _ ow317) (hw _ ow46) (by decide) (by decide)) q137a q137c (g := (mkF m 396 #[.val (.long t), .second, .val (.int xa), .val (.int xo), .val (.long ab), .second, .val (.long cd), .second, .val (.long mi), .second, .val (.int hiw), .val (.int f1), .val (.int f2), .val (.int f3), .val (.int f4), .val (.int f5), .val (.int c0), .val (.int c1), .val (.int c2), .val (.ref ov), .val (.ref b6), .val (.float (FP.i2f (ab.toInt32))), .val (.float (FP.i2f (((ab.toUInt64 >>> ((32 : Int32) &&& 0x3f).toInt64.toUInt64).toInt64).toInt32))), .val (.double (FP.i2d (cd.toInt32))), .second, .val (.double (FP.i2d (((cd.toUInt64 >>> ((32 : Int32) &&& 0x3f).toInt64.toUInt64).toInt64).toInt32))), .second, .val (.float (FP.i2f (mi.toInt32))), .val (.double (FP.i2d xa)), .second, .val (.double (FP.i2d xo)), .second, .val (.ref b32), .val (.ref b72), .val (.int (1 : Int32)), .val (.int (1 : Int32)), .unset, .unset, .unset, .unset] [(.ref b72)])) rfl (by rw [hml]; rfl) (Steps.refl _) (argsL := []) (rest := []) (lenOf own_law_pd12 rfl) rfl (by show 2 * 0 + _ ≤ _; exact Nat.le_of_eq rfl) (hb hby at_396) (fun _ _ => ⟨rfl, R135, (by decide : 49 + 0 ≤ _), (by decide : 653 + 0 ≤ _)⟩)
                        dsimp only [Pt.U, Pt.locs, Pt.cells, Pt.slots] at X137 l137 y137 z137 st137 hQ137
                        obtain rfl : k137 = 49 := y137
                        obtain rfl : n137 = 653 := z137
                        obtain ⟨rfl, N137q, R137⟩ := hQ137
                        have N137 : Fr n0 L137 := l137 ▸ Fr.app N135 N137q
                        refine ownStep (fun _ k => st137.trans k) ?_
                        show ownGo p.tables e below (T137.setTop (mkF m 399 #[.val (.long t), .second, .val (.int xa), .val (.int xo), .val (.long ab), .second, .val (.long cd), .second, .val (.long mi), .second, .val (.int hiw), .val (.int f1), .val (.int f2), .val (.int f3), .val (.int f4), .val (.int f5), .val (.int c0), .val (.int c1), .val (.int c2), .val (.ref ov), .val (.ref b6), .val (.float (FP.i2f (ab.toInt32))), .val (.float (FP.i2f (((ab.toUInt64 >>> ((32 : Int32) &&& 0x3f).toInt64.toUInt64).toInt64).toInt32))), .val (.double (FP.i2d (cd.toInt32))), .second, .val (.double (FP.i2d (((cd.toUInt64 >>> ((32 : Int32) &&& 0x3f).toInt64.toUInt64).toInt64).toInt32))), .second, .val (.float (FP.i2f (mi.toInt32))), .val (.double (FP.i2d xa)), .second, .val (.double (FP.i2d xo)), .second, .val (.ref b32), .val (.ref b72), .val (.int (1 : Int32)), .val (.int (1 : Int32)), .unset, .unset, .unset, .unset] [(.float (FP.d2f (if f2 = (0 : Int32) then FP.dconst0 else v2)))])) _
                        have J421 : ∀ (Tj : State) (Lj : List Loc) (Xj : Stand p l e room_1 (s.setVm T86.vm) m #[(.long t), (.int xa), (.int xo), (.long ab), (.long cd), (.long mi)] below meth c Tj Lj 49 653) (ej : Tj.heap = T103.heap) (Nj : Fr n0 Lj), ownGo p.tables e below (Tj.setTop (mkF m 421 #[.val (.long t), .second, .val (.int xa), .val (.int xo), .val (.long ab), .second, .val (.long cd), .second, .val (.long mi), .second, .val (.int hiw), .val (.int f1), .val (.int f2), .val (.int f3), .val (.int f4), .val (.int f5), .val (.int c0), .val (.int c1), .val (.int c2), .val (.ref ov), .val (.ref b6), .val (.float (FP.i2f (ab.toInt32))), .val (.float (FP.i2f (((ab.toUInt64 >>> ((32 : Int32) &&& 0x3f).toInt64.toUInt64).toInt64).toInt32))), .val (.double (FP.i2d (cd.toInt32))), .second, .val (.double (FP.i2d (((cd.toUInt64 >>> ((32 : Int32) &&& 0x3f).toInt64.toUInt64).toInt64).toInt32))), .second, .val (.float (FP.i2f (mi.toInt32))), .val (.double (FP.i2d xa)), .second, .val (.double (FP.i2d xo)), .second, .val (.ref b32), .val (.ref b72), .val (.int (1 : Int32)), .val (.int (1 : Int32)), .val (.int (1 : Int32)), .unset, .unset, .unset] [])) (ownEndW below s (own_law_Q Z zc em ei ep t xa xo ab cd mi h0 n0) room_1.cells room_1.slots) := by
                          intro Tj Lj Xj ej Nj
                          refine ownStep (fun _ k => XS.aload Xj.here hx rfl (hb hby at_421) rfl rfl k) ?_
                          show ownGo p.tables e below (Tj.setTop (mkF m 423 #[.val (.long t), .second, .val (.int xa), .val (.int xo), .val (.long ab), .second, .val (.long cd), .second, .val (.long mi), .second, .val (.int hiw), .val (.int f1), .val (.int f2), .val (.int f3), .val (.int f4), .val (.int f5), .val (.int c0), .val (.int c1), .val (.int c2), .val (.ref ov), .val (.ref b6), .val (.float (FP.i2f (ab.toInt32))), .val (.float (FP.i2f (((ab.toUInt64 >>> ((32 : Int32) &&& 0x3f).toInt64.toUInt64).toInt64).toInt32))), .val (.double (FP.i2d (cd.toInt32))), .second, .val (.double (FP.i2d (((cd.toUInt64 >>> ((32 : Int32) &&& 0x3f).toInt64.toUInt64).toInt64).toInt32))), .second, .val (.float (FP.i2f (mi.toInt32))), .val (.double (FP.i2d xa)), .second, .val (.double (FP.i2d xo)), .second, .val (.ref b32), .val (.ref b72), .val (.int (1 : Int32)), .val (.int (1 : Int32)), .val (.int (1 : Int32)), .unset, .unset, .unset] [(.ref b72)])) _
                          have ne139 : o3 ≠ b32 := Exa.ne (Oj3.1) ((((Q62.keep R63).keep Kj1).keep Kj2).keep Kj3) (by decide)
                          have ne140 : o3 ≠ b72 := Exa.ne (((((Oj3.1).keep Kj4).keep Kj5).ext E72).ext R86) Q92 (by decide)
                          have Q141 := (((((Oj3.keep Kj4 (ninS ne139 nin0)).keep Kj5 (ninS ne139 nin0)).ext E72).ext R86).keep R103 (ninS ne140 nin0))
                          have Q142 := ((((((Oj3.1).keep Kj4).keep Kj5).ext E72).ext R86).keep R103)
                          have Zs144 : n0 ≤ T103.heap.size := Nat.le_trans Z0 KP106.1
                          obtain ⟨cq143, kq143, q143a, q143b, q143c⟩ := isOf hZ ej Q109
                          obtain ⟨_, _, ⟨T143, L143, k143, n143⟩, -, X143, ⟨Lc143, hQ143, l143, y143, z143⟩, st143⟩ := Xj.virtualBack hx (y := (⟨"com/example/fixd/fixd/client/Location", "hasAltitude", "()Z"⟩ : MethodName)) (z := (⟨"com/example/fixd/fixd/client/Location", "hasAltitude", "()Z"⟩ : MethodName)) hown (mvT hZ (hw _ ow318)) (mvT hZ (hw _ ow319)) (notFace_of_selects (args := #[]) (mvT hZ (hw _ ow321))) (mvT hZ (hw _ ow321)) (mvT hZ (hw _ ow320)) (by decide) (backOf (W := 0) (oh_al l Z a0 hw [] b72 b6 ot (FP.i2d xa) (FP.i2d xo) o1 o2 o3 o4 o5 ei f3 v3 T103.heap n0 Zs144 P105 Q141 Q142 bf3) hZ (hw _ ow322) (hw _ ow46) (by decide) (by decide)) q143a q143c (g := (mkF m 423 #[.val (.long t), .second, .val (.int xa), .val (.int xo), .val (.long ab), .second, .val (.long cd), .second, .val (.long mi), .second, .val (.int hiw), .val (.int f1), .val (.int f2), .val (.int f3), .val (.int f4), .val (.int f5), .val (.int c0), .val (.int c1), .val (.int c2), .val (.ref ov), .val (.ref b6), .val (.float (FP.i2f (ab.toInt32))), .val (.float (FP.i2f (((ab.toUInt64 >>> ((32 : Int32) &&& 0x3f).toInt64.toUInt64).toInt64).toInt32))), .val (.double (FP.i2d (cd.toInt32))), .second, .val (.double (FP.i2d (((cd.toUInt64 >>> ((32 : Int32) &&& 0x3f).toInt64.toUInt64).toInt64).toInt32))), .second, .val (.float (FP.i2f (mi.toInt32))), .val (.double (FP.i2d xa)), .second, .val (.double (FP.i2d xo)), .second, .val (.ref b32), .val (.ref b72), .val (.int (1 : Int32)), .val (.int (1 : Int32)), .val (.int (1 : Int32)), .unset, .unset, .unset] [(.ref b72)])) rfl (by rw [hml]; rfl) (Steps.refl _) (argsL := []) (rest := []) (lenOf own_law_pd11 rfl) rfl (by show 2 * 0 + _ ≤ _; exact Nat.le_of_eq rfl) (hb hby at_423) (fun _ _ => ⟨rfl, ej, (by decide : 49 + 0 ≤ _), (by decide : 653 + 0 ≤ _)⟩)
                          dsimp only [Pt.U, Pt.locs, Pt.cells, Pt.slots] at X143 l143 y143 z143 st143 hQ143
                          obtain rfl : k143 = 49 := y143
                          obtain rfl : n143 = 653 := z143
                          obtain ⟨rfl, N143q, R143⟩ := hQ143
                          have N143 : Fr n0 L143 := l143 ▸ Fr.app Nj N143q
                          refine ownStep (fun _ k => st143.trans k) ?_
                          refine ownStep (fun _ k => XS.iload X143.here hx rfl (hb hby at_426) rfl  k) ?_
                          refine ownStep (fun _ k => XS.icmpNo X143.here hx rfl (hb hby at_428) rfl (teq (rfl : f3 = f3)).2 k) ?_
                          refine ownStep (fun _ k => XS.aload X143.here hx rfl (hb hby at_431) rfl rfl k) ?_
                          show ownGo p.tables e below (T143.setTop (mkF m 433 #[.val (.long t), .second, .val (.int xa), .val (.int xo), .val (.long ab), .second, .val (.long cd), .second, .val (.long mi), .second, .val (.int hiw), .val (.int f1), .val (.int f2), .val (.int f3), .val (.int f4), .val (.int f5), .val (.int c0), .val (.int c1), .val (.int c2), .val (.ref ov), .val (.ref b6), .val (.float (FP.i2f (ab.toInt32))), .val (.float (FP.i2f (((ab.toUInt64 >>> ((32 : Int32) &&& 0x3f).toInt64.toUInt64).toInt64).toInt32))), .val (.double (FP.i2d (cd.toInt32))), .second, .val (.double (FP.i2d (((cd.toUInt64 >>> ((32 : Int32) &&& 0x3f).toInt64.toUInt64).toInt64).toInt32))), .second, .val (.float (FP.i2f (mi.toInt32))), .val (.double (FP.i2d xa)), .second, .val (.double (FP.i2d xo)), .second, .val (.ref b32), .val (.ref b72), .val (.int (1 : Int32)), .val (.int (1 : Int32)), .val (.int (1 : Int32)), .unset, .unset, .unset] [(.ref b72)])) _
                          have Zs146 : n0 ≤ T103.heap.size := Nat.le_trans Z0 KP106.1
                          obtain ⟨cq145, kq145, q145a, q145b, q145c⟩ := isOf hZ R143 Q109
                          obtain ⟨_, _, ⟨T145, L145, k145, n145⟩, -, X145, ⟨Lc145, hQ145, l145, y145, z145⟩, st145⟩ := X143.virtualBack hx (y := (⟨"com/example/fixd/fixd/client/Location", "getAltitude", "()D"⟩ : MethodName)) (z := (⟨"com/example/fixd/fixd/client/Location", "getAltitude", "()D"⟩ : MethodName)) hown (mvT hZ (hw _ ow323)) (mvT hZ (hw _ ow324)) (notFace_of_selects (args := #[]) (mvT hZ (hw _ ow326))) (mvT hZ (hw _ ow326)) (mvT hZ (hw _ ow325)) (by decide) (backOf (W := 0) (ot_al l Z a0 hw [] b72 b6 ot (FP.i2d xa) (FP.i2d xo) o1 o2 o3 o4 o5 ei f3 v3 T103.heap n0 Zs146 P105 Q141 Q142 bf3) hZ (hw _ ow327) (hw _ ow46) (by decide) (by decide)) q145a q145c (g := (mkF m 433 #[.val (.long t), .second, .val (.int xa), .val (.int xo), .val (.long ab), .second, .val (.long cd), .second, .val (.long mi), .second, .val (.int hiw), .val (.int f1), .val (.int f2), .val (.int f3), .val (.int f4), .val (.int f5), .val (.int c0), .val (.int c1), .val (.int c2), .val (.ref ov), .val (.ref b6), .val (.float (FP.i2f (ab.toInt32))), .val (.float (FP.i2f (((ab.toUInt64 >>> ((32 : Int32) &&& 0x3f).toInt64.toUInt64).toInt64).toInt32))), .val (.double (FP.i2d (cd.toInt32))), .second, .val (.double (FP.i2d (((cd.toUInt64 >>> ((32 : Int32) &&& 0x3f).toInt64.toUInt64).toInt64).toInt32))), .second, .val (.float (FP.i2f (mi.toInt32))), .val (.double (FP.i2d xa)), .second, .val (.double (FP.i2d xo)), .second, .val (.ref b32), .val (.ref b72), .val (.int (1 : Int32)), .val (.int (1 : Int32)), .val (.int (1 : Int32)), .unset, .unset, .unset] [(.ref b72)])) rfl (by rw [hml]; rfl) (Steps.refl _) (argsL := []) (rest := []) (lenOf own_law_pd10 rfl) rfl (by show 2 * 0 + _ ≤ _; exact Nat.le_of_eq rfl) (hb hby at_433) (fun _ _ => ⟨rfl, R143, (by decide : 49 + 0 ≤ _), (by decide : 653 + 0 ≤ _)⟩)
                          dsimp only [Pt.U, Pt.locs, Pt.cells, Pt.slots] at X145 l145 y145 z145 st145 hQ145
                          obtain rfl : k145 = 49 := y145
                          obtain rfl : n145 = 653 := z145
                          obtain ⟨rfl, N145q, R145⟩ := hQ145
                          have N145 : Fr n0 L145 := l145 ▸ Fr.app N143 N145q
                          refine ownStep (fun _ k => st145.trans k) ?_
                          show ownGo p.tables e below (T145.setTop (mkF m 436 #[.val (.long t), .second, .val (.int xa), .val (.int xo), .val (.long ab), .second, .val (.long cd), .second, .val (.long mi), .second, .val (.int hiw), .val (.int f1), .val (.int f2), .val (.int f3), .val (.int f4), .val (.int f5), .val (.int c0), .val (.int c1), .val (.int c2), .val (.ref ov), .val (.ref b6), .val (.float (FP.i2f (ab.toInt32))), .val (.float (FP.i2f (((ab.toUInt64 >>> ((32 : Int32) &&& 0x3f).toInt64.toUInt64).toInt64).toInt32))), .val (.double (FP.i2d (cd.toInt32))), .second, .val (.double (FP.i2d (((cd.toUInt64 >>> ((32 : Int32) &&& 0x3f).toInt64.toUInt64).toInt64).toInt32))), .second, .val (.float (FP.i2f (mi.toInt32))), .val (.double (FP.i2d xa)), .second, .val (.double (FP.i2d xo)), .second, .val (.ref b32), .val (.ref b72), .val (.int (1 : Int32)), .val (.int (1 : Int32)), .val (.int (1 : Int32)), .unset, .unset, .unset] [(.double (if f3 = (0 : Int32) then FP.dconst0 else v3))])) _
                          have J458 : ∀ (Tj : State) (Lj : List Loc) (Xj : Stand p l e room_1 (s.setVm T86.vm) m #[(.long t), (.int xa), (.int xo), (.long ab), (.long cd), (.long mi)] below meth c Tj Lj 49 653) (ej : Tj.heap = T103.heap) (Nj : Fr n0 Lj), ownGo p.tables e below (Tj.setTop (mkF m 458 #[.val (.long t), .second, .val (.int xa), .val (.int xo), .val (.long ab), .second, .val (.long cd), .second, .val (.long mi), .second, .val (.int hiw), .val (.int f1), .val (.int f2), .val (.int f3), .val (.int f4), .val (.int f5), .val (.int c0), .val (.int c1), .val (.int c2), .val (.ref ov), .val (.ref b6), .val (.float (FP.i2f (ab.toInt32))), .val (.float (FP.i2f (((ab.toUInt64 >>> ((32 : Int32) &&& 0x3f).toInt64.toUInt64).toInt64).toInt32))), .val (.double (FP.i2d (cd.toInt32))), .second, .val (.double (FP.i2d (((cd.toUInt64 >>> ((32 : Int32) &&& 0x3f).toInt64.toUInt64).toInt64).toInt32))), .second, .val (.float (FP.i2f (mi.toInt32))), .val (.double (FP.i2d xa)), .second, .val (.double (FP.i2d xo)), .second, .val (.ref b32), .val (.ref b72), .val (.int (1 : Int32)), .val (.int (1 : Int32)), .val (.int (1 : Int32)), .val (.int (1 : Int32)), .unset, .unset] [])) (ownEndW below s (own_law_Q Z zc em ei ep t xa xo ab cd mi h0 n0) room_1.cells room_1.slots) := by
                            intro Tj Lj Xj ej Nj
                            refine ownStep (fun _ k => XS.aload Xj.here hx rfl (hb hby at_458) rfl rfl k) ?_
                            show ownGo p.tables e below (Tj.setTop (mkF m 460 #[.val (.long t), .second, .val (.int xa), .val (.int xo), .val (.long ab), .second, .val (.long cd), .second, .val (.long mi), .second, .val (.int hiw), .val (.int f1), .val (.int f2), .val (.int f3), .val (.int f4), .val (.int f5), .val (.int c0), .val (.int c1), .val (.int c2), .val (.ref ov), .val (.ref b6), .val (.float (FP.i2f (ab.toInt32))), .val (.float (FP.i2f (((ab.toUInt64 >>> ((32 : Int32) &&& 0x3f).toInt64.toUInt64).toInt64).toInt32))), .val (.double (FP.i2d (cd.toInt32))), .second, .val (.double (FP.i2d (((cd.toUInt64 >>> ((32 : Int32) &&& 0x3f).toInt64.toUInt64).toInt64).toInt32))), .second, .val (.float (FP.i2f (mi.toInt32))), .val (.double (FP.i2d xa)), .second, .val (.double (FP.i2d xo)), .second, .val (.ref b32), .val (.ref b72), .val (.int (1 : Int32)), .val (.int (1 : Int32)), .val (.int (1 : Int32)), .val (.int (1 : Int32)), .unset, .unset] [(.ref b72)])) _
                            have ne147 : o4 ≠ b32 := Exa.ne (Oj4.1) (((((Q62.keep R63).keep Kj1).keep Kj2).keep Kj3).keep Kj4) (by decide)
                            have ne148 : o4 ≠ b72 := Exa.ne ((((Oj4.1).keep Kj5).ext E72).ext R86) Q92 (by decide)
                            have Q149 := ((((Oj4.keep Kj5 (ninS ne147 nin0)).ext E72).ext R86).keep R103 (ninS ne148 nin0))
                            have Q150 := (((((Oj4.1).keep Kj5).ext E72).ext R86).keep R103)
                            have Zs152 : n0 ≤ T103.heap.size := Nat.le_trans Z0 KP106.1
                            obtain ⟨cq151, kq151, q151a, q151b, q151c⟩ := isOf hZ ej Q109
                            obtain ⟨_, _, ⟨T151, L151, k151, n151⟩, -, X151, ⟨Lc151, hQ151, l151, y151, z151⟩, st151⟩ := Xj.virtualBack hx (y := (⟨"com/example/fixd/fixd/client/Location", "hasMslAltitude", "()Z"⟩ : MethodName)) (z := (⟨"com/example/fixd/fixd/client/Location", "hasMslAltitude", "()Z"⟩ : MethodName)) hown (mvT hZ (hw _ ow328)) (mvT hZ (hw _ ow329)) (notFace_of_selects (args := #[]) (mvT hZ (hw _ ow331))) (mvT hZ (hw _ ow331)) (mvT hZ (hw _ ow330)) (by decide) (backOf (W := 0) (oh_ms l Z a0 hw [] b72 b6 ot (FP.i2d xa) (FP.i2d xo) o1 o2 o3 o4 o5 ei f4 v4 T103.heap n0 Zs152 P105 Q149 Q150 bf4) hZ (hw _ ow332) (hw _ ow46) (by decide) (by decide)) q151a q151c (g := (mkF m 460 #[.val (.long t), .second, .val (.int xa), .val (.int xo), .val (.long ab), .second, .val (.long cd), .second, .val (.long mi), .second, .val (.int hiw), .val (.int f1), .val (.int f2), .val (.int f3), .val (.int f4), .val (.int f5), .val (.int c0), .val (.int c1), .val (.int c2), .val (.ref ov), .val (.ref b6), .val (.float (FP.i2f (ab.toInt32))), .val (.float (FP.i2f (((ab.toUInt64 >>> ((32 : Int32) &&& 0x3f).toInt64.toUInt64).toInt64).toInt32))), .val (.double (FP.i2d (cd.toInt32))), .second, .val (.double (FP.i2d (((cd.toUInt64 >>> ((32 : Int32) &&& 0x3f).toInt64.toUInt64).toInt64).toInt32))), .second, .val (.float (FP.i2f (mi.toInt32))), .val (.double (FP.i2d xa)), .second, .val (.double (FP.i2d xo)), .second, .val (.ref b32), .val (.ref b72), .val (.int (1 : Int32)), .val (.int (1 : Int32)), .val (.int (1 : Int32)), .val (.int (1 : Int32)), .unset, .unset] [(.ref b72)])) rfl (by rw [hml]; rfl) (Steps.refl _) (argsL := []) (rest := []) (lenOf own_law_pd11 rfl) rfl (by show 2 * 0 + _ ≤ _; exact Nat.le_of_eq rfl) (hb hby at_460) (fun _ _ => ⟨rfl, ej, (by decide : 49 + 0 ≤ _), (by decide : 653 + 0 ≤ _)⟩)
                            dsimp only [Pt.U, Pt.locs, Pt.cells, Pt.slots] at X151 l151 y151 z151 st151 hQ151
                            obtain rfl : k151 = 49 := y151
                            obtain rfl : n151 = 653 := z151
                            obtain ⟨rfl, N151q, R151⟩ := hQ151
                            have N151 : Fr n0 L151 := l151 ▸ Fr.app Nj N151q
                            refine ownStep (fun _ k => st151.trans k) ?_
                            refine ownStep (fun _ k => XS.iload X151.here hx rfl (hb hby at_463) rfl  k) ?_
                            refine ownStep (fun _ k => XS.icmpNo X151.here hx rfl (hb hby at_465) rfl (teq (rfl : f4 = f4)).2 k) ?_
                            refine ownStep (fun _ k => XS.aload X151.here hx rfl (hb hby at_468) rfl rfl k) ?_
                            show ownGo p.tables e below (T151.setTop (mkF m 470 #[.val (.long t), .second, .val (.int xa), .val (.int xo), .val (.long ab), .second, .val (.long cd), .second, .val (.long mi), .second, .val (.int hiw), .val (.int f1), .val (.int f2), .val (.int f3), .val (.int f4), .val (.int f5), .val (.int c0), .val (.int c1), .val (.int c2), .val (.ref ov), .val (.ref b6), .val (.float (FP.i2f (ab.toInt32))), .val (.float (FP.i2f (((ab.toUInt64 >>> ((32 : Int32) &&& 0x3f).toInt64.toUInt64).toInt64).toInt32))), .val (.double (FP.i2d (cd.toInt32))), .second, .val (.double (FP.i2d (((cd.toUInt64 >>> ((32 : Int32) &&& 0x3f).toInt64.toUInt64).toInt64).toInt32))), .second, .val (.float (FP.i2f (mi.toInt32))), .val (.double (FP.i2d xa)), .second, .val (.double (FP.i2d xo)), .second, .val (.ref b32), .val (.ref b72), .val (.int (1 : Int32)), .val (.int (1 : Int32)), .val (.int (1 : Int32)), .val (.int (1 : Int32)), .unset, .unset] [(.ref b72)])) _
                            have Zs154 : n0 ≤ T103.heap.size := Nat.le_trans Z0 KP106.1
                            obtain ⟨cq153, kq153, q153a, q153b, q153c⟩ := isOf hZ R151 Q109
                            obtain ⟨_, _, ⟨T153, L153, k153, n153⟩, -, X153, ⟨Lc153, hQ153, l153, y153, z153⟩, st153⟩ := X151.virtualBack hx (y := (⟨"com/example/fixd/fixd/client/Location", "getMslAltitude", "()D"⟩ : MethodName)) (z := (⟨"com/example/fixd/fixd/client/Location", "getMslAltitude", "()D"⟩ : MethodName)) hown (mvT hZ (hw _ ow333)) (mvT hZ (hw _ ow334)) (notFace_of_selects (args := #[]) (mvT hZ (hw _ ow336))) (mvT hZ (hw _ ow336)) (mvT hZ (hw _ ow335)) (by decide) (backOf (W := 0) (ot_ms l Z a0 hw [] b72 b6 ot (FP.i2d xa) (FP.i2d xo) o1 o2 o3 o4 o5 ei f4 v4 T103.heap n0 Zs154 P105 Q149 Q150 bf4) hZ (hw _ ow337) (hw _ ow46) (by decide) (by decide)) q153a q153c (g := (mkF m 470 #[.val (.long t), .second, .val (.int xa), .val (.int xo), .val (.long ab), .second, .val (.long cd), .second, .val (.long mi), .second, .val (.int hiw), .val (.int f1), .val (.int f2), .val (.int f3), .val (.int f4), .val (.int f5), .val (.int c0), .val (.int c1), .val (.int c2), .val (.ref ov), .val (.ref b6), .val (.float (FP.i2f (ab.toInt32))), .val (.float (FP.i2f (((ab.toUInt64 >>> ((32 : Int32) &&& 0x3f).toInt64.toUInt64).toInt64).toInt32))), .val (.double (FP.i2d (cd.toInt32))), .second, .val (.double (FP.i2d (((cd.toUInt64 >>> ((32 : Int32) &&& 0x3f).toInt64.toUInt64).toInt64).toInt32))), .second, .val (.float (FP.i2f (mi.toInt32))), .val (.double (FP.i2d xa)), .second, .val (.double (FP.i2d xo)), .second, .val (.ref b32), .val (.ref b72), .val (.int (1 : Int32)), .val (.int (1 : Int32)), .val (.int (1 : Int32)), .val (.int (1 : Int32)), .unset, .unset] [(.ref b72)])) rfl (by rw [hml]; rfl) (Steps.refl _) (argsL := []) (rest := []) (lenOf own_law_pd10 rfl) rfl (by show 2 * 0 + _ ≤ _; exact Nat.le_of_eq rfl) (hb hby at_470) (fun _ _ => ⟨rfl, R151, (by decide : 49 + 0 ≤ _), (by decide : 653 + 0 ≤ _)⟩)
                            dsimp only [Pt.U, Pt.locs, Pt.cells, Pt.slots] at X153 l153 y153 z153 st153 hQ153
                            obtain rfl : k153 = 49 := y153
                            obtain rfl : n153 = 653 := z153
                            obtain ⟨rfl, N153q, R153⟩ := hQ153
                            have N153 : Fr n0 L153 := l153 ▸ Fr.app N151 N153q
                            refine ownStep (fun _ k => st153.trans k) ?_
                            show ownGo p.tables e below (T153.setTop (mkF m 473 #[.val (.long t), .second, .val (.int xa), .val (.int xo), .val (.long ab), .second, .val (.long cd), .second, .val (.long mi), .second, .val (.int hiw), .val (.int f1), .val (.int f2), .val (.int f3), .val (.int f4), .val (.int f5), .val (.int c0), .val (.int c1), .val (.int c2), .val (.ref ov), .val (.ref b6), .val (.float (FP.i2f (ab.toInt32))), .val (.float (FP.i2f (((ab.toUInt64 >>> ((32 : Int32) &&& 0x3f).toInt64.toUInt64).toInt64).toInt32))), .val (.double (FP.i2d (cd.toInt32))), .second, .val (.double (FP.i2d (((cd.toUInt64 >>> ((32 : Int32) &&& 0x3f).toInt64.toUInt64).toInt64).toInt32))), .second, .val (.float (FP.i2f (mi.toInt32))), .val (.double (FP.i2d xa)), .second, .val (.double (FP.i2d xo)), .second, .val (.ref b32), .val (.ref b72), .val (.int (1 : Int32)), .val (.int (1 : Int32)), .val (.int (1 : Int32)), .val (.int (1 : Int32)), .unset, .unset] [(.double (if f4 = (0 : Int32) then FP.dconst0 else v4))])) _
                            have J495 : ∀ (Tj : State) (Lj : List Loc) (Xj : Stand p l e room_1 (s.setVm T86.vm) m #[(.long t), (.int xa), (.int xo), (.long ab), (.long cd), (.long mi)] below meth c Tj Lj 49 653) (ej : Tj.heap = T103.heap) (Nj : Fr n0 Lj), ownGo p.tables e below (Tj.setTop (mkF m 495 #[.val (.long t), .second, .val (.int xa), .val (.int xo), .val (.long ab), .second, .val (.long cd), .second, .val (.long mi), .second, .val (.int hiw), .val (.int f1), .val (.int f2), .val (.int f3), .val (.int f4), .val (.int f5), .val (.int c0), .val (.int c1), .val (.int c2), .val (.ref ov), .val (.ref b6), .val (.float (FP.i2f (ab.toInt32))), .val (.float (FP.i2f (((ab.toUInt64 >>> ((32 : Int32) &&& 0x3f).toInt64.toUInt64).toInt64).toInt32))), .val (.double (FP.i2d (cd.toInt32))), .second, .val (.double (FP.i2d (((cd.toUInt64 >>> ((32 : Int32) &&& 0x3f).toInt64.toUInt64).toInt64).toInt32))), .second, .val (.float (FP.i2f (mi.toInt32))), .val (.double (FP.i2d xa)), .second, .val (.double (FP.i2d xo)), .second, .val (.ref b32), .val (.ref b72), .val (.int (1 : Int32)), .val (.int (1 : Int32)), .val (.int (1 : Int32)), .val (.int (1 : Int32)), .val (.int (1 : Int32)), .unset] [])) (ownEndW below s (own_law_Q Z zc em ei ep t xa xo ab cd mi h0 n0) room_1.cells room_1.slots) := by
                              intro Tj Lj Xj ej Nj
                              refine ownStep (fun _ k => XS.aload Xj.here hx rfl (hb hby at_495) rfl rfl k) ?_
                              show ownGo p.tables e below (Tj.setTop (mkF m 497 #[.val (.long t), .second, .val (.int xa), .val (.int xo), .val (.long ab), .second, .val (.long cd), .second, .val (.long mi), .second, .val (.int hiw), .val (.int f1), .val (.int f2), .val (.int f3), .val (.int f4), .val (.int f5), .val (.int c0), .val (.int c1), .val (.int c2), .val (.ref ov), .val (.ref b6), .val (.float (FP.i2f (ab.toInt32))), .val (.float (FP.i2f (((ab.toUInt64 >>> ((32 : Int32) &&& 0x3f).toInt64.toUInt64).toInt64).toInt32))), .val (.double (FP.i2d (cd.toInt32))), .second, .val (.double (FP.i2d (((cd.toUInt64 >>> ((32 : Int32) &&& 0x3f).toInt64.toUInt64).toInt64).toInt32))), .second, .val (.float (FP.i2f (mi.toInt32))), .val (.double (FP.i2d xa)), .second, .val (.double (FP.i2d xo)), .second, .val (.ref b32), .val (.ref b72), .val (.int (1 : Int32)), .val (.int (1 : Int32)), .val (.int (1 : Int32)), .val (.int (1 : Int32)), .val (.int (1 : Int32)), .unset] [(.ref b72)])) _
                              have ne155 : o5 ≠ b72 := Exa.ne (((Oj5.1).ext E72).ext R86) Q92 (by decide)
                              have Q156 := (((Oj5.ext E72).ext R86).keep R103 (ninS ne155 nin0))
                              have Q157 := ((((Oj5.1).ext E72).ext R86).keep R103)
                              have Zs159 : n0 ≤ T103.heap.size := Nat.le_trans Z0 KP106.1
                              obtain ⟨cq158, kq158, q158a, q158b, q158c⟩ := isOf hZ ej Q109
                              obtain ⟨_, _, ⟨T158, L158, k158, n158⟩, -, X158, ⟨Lc158, hQ158, l158, y158, z158⟩, st158⟩ := Xj.virtualBack hx (y := (⟨"com/example/fixd/fixd/client/Location", "hasAccuracy", "()Z"⟩ : MethodName)) (z := (⟨"com/example/fixd/fixd/client/Location", "hasAccuracy", "()Z"⟩ : MethodName)) hown (mvT hZ (hw _ ow338)) (mvT hZ (hw _ ow339)) (notFace_of_selects (args := #[]) (mvT hZ (hw _ ow341))) (mvT hZ (hw _ ow341)) (mvT hZ (hw _ ow340)) (by decide) (backOf (W := 0) (oh_ac l Z a0 hw [] b72 b6 ot (FP.i2d xa) (FP.i2d xo) o1 o2 o3 o4 o5 ei f5 v5 T103.heap n0 Zs159 P105 Q156 Q157 bf5) hZ (hw _ ow342) (hw _ ow46) (by decide) (by decide)) q158a q158c (g := (mkF m 497 #[.val (.long t), .second, .val (.int xa), .val (.int xo), .val (.long ab), .second, .val (.long cd), .second, .val (.long mi), .second, .val (.int hiw), .val (.int f1), .val (.int f2), .val (.int f3), .val (.int f4), .val (.int f5), .val (.int c0), .val (.int c1), .val (.int c2), .val (.ref ov), .val (.ref b6), .val (.float (FP.i2f (ab.toInt32))), .val (.float (FP.i2f (((ab.toUInt64 >>> ((32 : Int32) &&& 0x3f).toInt64.toUInt64).toInt64).toInt32))), .val (.double (FP.i2d (cd.toInt32))), .second, .val (.double (FP.i2d (((cd.toUInt64 >>> ((32 : Int32) &&& 0x3f).toInt64.toUInt64).toInt64).toInt32))), .second, .val (.float (FP.i2f (mi.toInt32))), .val (.double (FP.i2d xa)), .second, .val (.double (FP.i2d xo)), .second, .val (.ref b32), .val (.ref b72), .val (.int (1 : Int32)), .val (.int (1 : Int32)), .val (.int (1 : Int32)), .val (.int (1 : Int32)), .val (.int (1 : Int32)), .unset] [(.ref b72)])) rfl (by rw [hml]; rfl) (Steps.refl _) (argsL := []) (rest := []) (lenOf own_law_pd11 rfl) rfl (by show 2 * 0 + _ ≤ _; exact Nat.le_of_eq rfl) (hb hby at_497) (fun _ _ => ⟨rfl, ej, (by decide : 49 + 0 ≤ _), (by decide : 653 + 0 ≤ _)⟩)
                              dsimp only [Pt.U, Pt.locs, Pt.cells, Pt.slots] at X158 l158 y158 z158 st158 hQ158
                              obtain rfl : k158 = 49 := y158
                              obtain rfl : n158 = 653 := z158
                              obtain ⟨rfl, N158q, R158⟩ := hQ158
                              have N158 : Fr n0 L158 := l158 ▸ Fr.app Nj N158q
                              refine ownStep (fun _ k => st158.trans k) ?_
                              refine ownStep (fun _ k => XS.iload X158.here hx rfl (hb hby at_500) rfl  k) ?_
                              refine ownStep (fun _ k => XS.icmpNo X158.here hx rfl (hb hby at_502) rfl (teq (rfl : f5 = f5)).2 k) ?_
                              refine ownStep (fun _ k => XS.aload X158.here hx rfl (hb hby at_505) rfl rfl k) ?_
                              show ownGo p.tables e below (T158.setTop (mkF m 507 #[.val (.long t), .second, .val (.int xa), .val (.int xo), .val (.long ab), .second, .val (.long cd), .second, .val (.long mi), .second, .val (.int hiw), .val (.int f1), .val (.int f2), .val (.int f3), .val (.int f4), .val (.int f5), .val (.int c0), .val (.int c1), .val (.int c2), .val (.ref ov), .val (.ref b6), .val (.float (FP.i2f (ab.toInt32))), .val (.float (FP.i2f (((ab.toUInt64 >>> ((32 : Int32) &&& 0x3f).toInt64.toUInt64).toInt64).toInt32))), .val (.double (FP.i2d (cd.toInt32))), .second, .val (.double (FP.i2d (((cd.toUInt64 >>> ((32 : Int32) &&& 0x3f).toInt64.toUInt64).toInt64).toInt32))), .second, .val (.float (FP.i2f (mi.toInt32))), .val (.double (FP.i2d xa)), .second, .val (.double (FP.i2d xo)), .second, .val (.ref b32), .val (.ref b72), .val (.int (1 : Int32)), .val (.int (1 : Int32)), .val (.int (1 : Int32)), .val (.int (1 : Int32)), .val (.int (1 : Int32)), .unset] [(.ref b72)])) _
                              have Zs161 : n0 ≤ T103.heap.size := Nat.le_trans Z0 KP106.1
                              obtain ⟨cq160, kq160, q160a, q160b, q160c⟩ := isOf hZ R158 Q109
                              obtain ⟨_, _, ⟨T160, L160, k160, n160⟩, -, X160, ⟨Lc160, hQ160, l160, y160, z160⟩, st160⟩ := X158.virtualBack hx (y := (⟨"com/example/fixd/fixd/client/Location", "getAccuracy", "()F"⟩ : MethodName)) (z := (⟨"com/example/fixd/fixd/client/Location", "getAccuracy", "()F"⟩ : MethodName)) hown (mvT hZ (hw _ ow343)) (mvT hZ (hw _ ow344)) (notFace_of_selects (args := #[]) (mvT hZ (hw _ ow346))) (mvT hZ (hw _ ow346)) (mvT hZ (hw _ ow345)) (by decide) (backOf (W := 0) (ot_ac l Z a0 hw [] b72 b6 ot (FP.i2d xa) (FP.i2d xo) o1 o2 o3 o4 o5 ei f5 v5 T103.heap n0 Zs161 P105 Q156 Q157 bf5 (own_gv hv5).1) hZ (hw _ ow347) (hw _ ow46) (by decide) (by decide)) q160a q160c (g := (mkF m 507 #[.val (.long t), .second, .val (.int xa), .val (.int xo), .val (.long ab), .second, .val (.long cd), .second, .val (.long mi), .second, .val (.int hiw), .val (.int f1), .val (.int f2), .val (.int f3), .val (.int f4), .val (.int f5), .val (.int c0), .val (.int c1), .val (.int c2), .val (.ref ov), .val (.ref b6), .val (.float (FP.i2f (ab.toInt32))), .val (.float (FP.i2f (((ab.toUInt64 >>> ((32 : Int32) &&& 0x3f).toInt64.toUInt64).toInt64).toInt32))), .val (.double (FP.i2d (cd.toInt32))), .second, .val (.double (FP.i2d (((cd.toUInt64 >>> ((32 : Int32) &&& 0x3f).toInt64.toUInt64).toInt64).toInt32))), .second, .val (.float (FP.i2f (mi.toInt32))), .val (.double (FP.i2d xa)), .second, .val (.double (FP.i2d xo)), .second, .val (.ref b32), .val (.ref b72), .val (.int (1 : Int32)), .val (.int (1 : Int32)), .val (.int (1 : Int32)), .val (.int (1 : Int32)), .val (.int (1 : Int32)), .unset] [(.ref b72)])) rfl (by rw [hml]; rfl) (Steps.refl _) (argsL := []) (rest := []) (lenOf own_law_pd12 rfl) rfl (by show 2 * 0 + _ ≤ _; exact Nat.le_of_eq rfl) (hb hby at_507) (fun _ _ => ⟨rfl, R158, (by decide : 49 + 0 ≤ _), (by decide : 653 + 0 ≤ _)⟩)
                              dsimp only [Pt.U, Pt.locs, Pt.cells, Pt.slots] at X160 l160 y160 z160 st160 hQ160
                              obtain rfl : k160 = 49 := y160
                              obtain rfl : n160 = 653 := z160
                              obtain ⟨rfl, N160q, R160⟩ := hQ160
                              have N160 : Fr n0 L160 := l160 ▸ Fr.app N158 N160q
                              refine ownStep (fun _ k => st160.trans k) ?_
                              show ownGo p.tables e below (T160.setTop (mkF m 510 #[.val (.long t), .second, .val (.int xa), .val (.int xo), .val (.long ab), .second, .val (.long cd), .second, .val (.long mi), .second, .val (.int hiw), .val (.int f1), .val (.int f2), .val (.int f3), .val (.int f4), .val (.int f5), .val (.int c0), .val (.int c1), .val (.int c2), .val (.ref ov), .val (.ref b6), .val (.float (FP.i2f (ab.toInt32))), .val (.float (FP.i2f (((ab.toUInt64 >>> ((32 : Int32) &&& 0x3f).toInt64.toUInt64).toInt64).toInt32))), .val (.double (FP.i2d (cd.toInt32))), .second, .val (.double (FP.i2d (((cd.toUInt64 >>> ((32 : Int32) &&& 0x3f).toInt64.toUInt64).toInt64).toInt32))), .second, .val (.float (FP.i2f (mi.toInt32))), .val (.double (FP.i2d xa)), .second, .val (.double (FP.i2d xo)), .second, .val (.ref b32), .val (.ref b72), .val (.int (1 : Int32)), .val (.int (1 : Int32)), .val (.int (1 : Int32)), .val (.int (1 : Int32)), .val (.int (1 : Int32)), .unset] [(.float (FP.d2f (if f5 = (0 : Int32) then FP.dconst0 else v5)))])) _
                              have J532 : ∀ (Tj : State) (Lj : List Loc) (Xj : Stand p l e room_1 (s.setVm T86.vm) m #[(.long t), (.int xa), (.int xo), (.long ab), (.long cd), (.long mi)] below meth c Tj Lj 49 653) (ej : Tj.heap = T103.heap) (Nj : Fr n0 Lj), ownGo p.tables e below (Tj.setTop (mkF m 532 #[.val (.long t), .second, .val (.int xa), .val (.int xo), .val (.long ab), .second, .val (.long cd), .second, .val (.long mi), .second, .val (.int hiw), .val (.int f1), .val (.int f2), .val (.int f3), .val (.int f4), .val (.int f5), .val (.int c0), .val (.int c1), .val (.int c2), .val (.ref ov), .val (.ref b6), .val (.float (FP.i2f (ab.toInt32))), .val (.float (FP.i2f (((ab.toUInt64 >>> ((32 : Int32) &&& 0x3f).toInt64.toUInt64).toInt64).toInt32))), .val (.double (FP.i2d (cd.toInt32))), .second, .val (.double (FP.i2d (((cd.toUInt64 >>> ((32 : Int32) &&& 0x3f).toInt64.toUInt64).toInt64).toInt32))), .second, .val (.float (FP.i2f (mi.toInt32))), .val (.double (FP.i2d xa)), .second, .val (.double (FP.i2d xo)), .second, .val (.ref b32), .val (.ref b72), .val (.int (1 : Int32)), .val (.int (1 : Int32)), .val (.int (1 : Int32)), .val (.int (1 : Int32)), .val (.int (1 : Int32)), .val (.int (1 : Int32))] [])) (ownEndW below s (own_law_Q Z zc em ei ep t xa xo ab cd mi h0 n0) room_1.cells room_1.slots) := by
                                intro Tj Lj Xj ej Nj
                                refine ownStep (fun _ k => XS.iload Xj.here hx rfl (hb hby at_532) rfl  k) ?_
                                refine ownStep (fun _ k => XS.ifNo Xj.here hx rfl (hb hby at_534) rfl ((if0 _ _).trans (feq (by decide : ¬ (1 : Int32) = (0 : Int32))).1) k) ?_
                                refine ownStep (fun _ k => XS.iload Xj.here hx rfl (hb hby at_537) rfl  k) ?_
                                refine ownStep (fun _ k => XS.ifNo Xj.here hx rfl (hb hby at_539) rfl ((if0 _ _).trans (feq (by decide : ¬ (1 : Int32) = (0 : Int32))).1) k) ?_
                                refine ownStep (fun _ k => XS.iload Xj.here hx rfl (hb hby at_542) rfl  k) ?_
                                refine ownStep (fun _ k => XS.ifNo Xj.here hx rfl (hb hby at_544) rfl ((if0 _ _).trans (feq (by decide : ¬ (1 : Int32) = (0 : Int32))).1) k) ?_
                                refine ownStep (fun _ k => XS.iload Xj.here hx rfl (hb hby at_547) rfl  k) ?_
                                refine ownStep (fun _ k => XS.ifNo Xj.here hx rfl (hb hby at_549) rfl ((if0 _ _).trans (feq (by decide : ¬ (1 : Int32) = (0 : Int32))).1) k) ?_
                                refine ownStep (fun _ k => XS.iload Xj.here hx rfl (hb hby at_552) rfl  k) ?_
                                refine ownStep (fun _ k => XS.ifNo Xj.here hx rfl (hb hby at_554) rfl ((if0 _ _).trans (feq (by decide : ¬ (1 : Int32) = (0 : Int32))).1) k) ?_
                                refine ownStep (fun _ k => XS.iload Xj.here hx rfl (hb hby at_557) rfl  k) ?_
                                refine ownStep (fun _ k => XS.ifNo Xj.here hx rfl (hb hby at_559) rfl ((if0 _ _).trans (feq (by decide : ¬ (1 : Int32) = (0 : Int32))).1) k) ?_
                                show ownGo p.tables e below (Tj.setTop (mkF m 562 #[.val (.long t), .second, .val (.int xa), .val (.int xo), .val (.long ab), .second, .val (.long cd), .second, .val (.long mi), .second, .val (.int hiw), .val (.int f1), .val (.int f2), .val (.int f3), .val (.int f4), .val (.int f5), .val (.int c0), .val (.int c1), .val (.int c2), .val (.ref ov), .val (.ref b6), .val (.float (FP.i2f (ab.toInt32))), .val (.float (FP.i2f (((ab.toUInt64 >>> ((32 : Int32) &&& 0x3f).toInt64.toUInt64).toInt64).toInt32))), .val (.double (FP.i2d (cd.toInt32))), .second, .val (.double (FP.i2d (((cd.toUInt64 >>> ((32 : Int32) &&& 0x3f).toInt64.toUInt64).toInt64).toInt32))), .second, .val (.float (FP.i2f (mi.toInt32))), .val (.double (FP.i2d xa)), .second, .val (.double (FP.i2d xo)), .second, .val (.ref b32), .val (.ref b72), .val (.int (1 : Int32)), .val (.int (1 : Int32)), .val (.int (1 : Int32)), .val (.int (1 : Int32)), .val (.int (1 : Int32)), .val (.int (1 : Int32))] [])) _
                                refine ownStep (fun _ k => XS.iconst Xj.here hx rfl (hb hby at_562) k) ?_
                                refine ownStep (fun _ k => XS.goto Xj.here hx rfl (pc0 := 563) (pc' := 567) rfl (hb hby at_563) (by decide) (by decide) k) ?_
                                show ownGo p.tables e below (Tj.setTop (mkF m 567 #[.val (.long t), .second, .val (.int xa), .val (.int xo), .val (.long ab), .second, .val (.long cd), .second, .val (.long mi), .second, .val (.int hiw), .val (.int f1), .val (.int f2), .val (.int f3), .val (.int f4), .val (.int f5), .val (.int c0), .val (.int c1), .val (.int c2), .val (.ref ov), .val (.ref b6), .val (.float (FP.i2f (ab.toInt32))), .val (.float (FP.i2f (((ab.toUInt64 >>> ((32 : Int32) &&& 0x3f).toInt64.toUInt64).toInt64).toInt32))), .val (.double (FP.i2d (cd.toInt32))), .second, .val (.double (FP.i2d (((cd.toUInt64 >>> ((32 : Int32) &&& 0x3f).toInt64.toUInt64).toInt64).toInt32))), .second, .val (.float (FP.i2f (mi.toInt32))), .val (.double (FP.i2d xa)), .second, .val (.double (FP.i2d xo)), .second, .val (.ref b32), .val (.ref b72), .val (.int (1 : Int32)), .val (.int (1 : Int32)), .val (.int (1 : Int32)), .val (.int (1 : Int32)), .val (.int (1 : Int32)), .val (.int (1 : Int32))] [(.int (1 : Int32))])) _
                                exact ownRetW Xj hS (show _ ≤ Tj.heap.size by rw [ej]; exact (Nat.le_trans (Nat.le_refl _) (Nat.le_trans (Nat.le_refl _) R103.1))) (v := some (.int (1 : Int32))) Bd.notSynchronized (fun h => by rw [Bd.returns] at h; cases h) (fun _ hr => retN Xj hx (t := .boolean) Bd.returns (by simp) (hb hby at_567) hr) (by rw [ej]; exact ⟨rfl, Nj, (own_extOf KP106)⟩) (by decide) (by decide)
                              refine ownStep (fun _ k => XS.iload X160.here hx rfl (hb hby at_510) rfl  k) ?_
                              show ownGo p.tables e below (T160.setTop (mkF m 512 #[.val (.long t), .second, .val (.int xa), .val (.int xo), .val (.long ab), .second, .val (.long cd), .second, .val (.long mi), .second, .val (.int hiw), .val (.int f1), .val (.int f2), .val (.int f3), .val (.int f4), .val (.int f5), .val (.int c0), .val (.int c1), .val (.int c2), .val (.ref ov), .val (.ref b6), .val (.float (FP.i2f (ab.toInt32))), .val (.float (FP.i2f (((ab.toUInt64 >>> ((32 : Int32) &&& 0x3f).toInt64.toUInt64).toInt64).toInt32))), .val (.double (FP.i2d (cd.toInt32))), .second, .val (.double (FP.i2d (((cd.toUInt64 >>> ((32 : Int32) &&& 0x3f).toInt64.toUInt64).toInt64).toInt32))), .second, .val (.float (FP.i2f (mi.toInt32))), .val (.double (FP.i2d xa)), .second, .val (.double (FP.i2d xo)), .second, .val (.ref b32), .val (.ref b72), .val (.int (1 : Int32)), .val (.int (1 : Int32)), .val (.int (1 : Int32)), .val (.int (1 : Int32)), .val (.int (1 : Int32)), .unset] [(.int f5), (.float (FP.d2f (if f5 = (0 : Int32) then FP.dconst0 else v5)))])) _
                              by_cases hc512 : f5 = (0 : Int32)
                              · skip
                                refine ownStep (fun _ k => XS.ifYes X160.here hx rfl (pc0 := 512) (pc' := 520) rfl (hb hby at_512) rfl ((if0 _ _).trans (teq (hc512 : f5 = (0 : Int32))).1) (by decide) (by decide) k) ?_
                                refine ownStep (fun _ k => XS.fconst0 X160.here hx rfl (hb hby at_520) rfl k) ?_
                                refine ownStep (fun _ k => XS.fcmpS X160.here hx rfl (hb hby at_521) rfl rfl k) ?_
                                refine ownStep (fun _ k => XS.ifNo X160.here hx rfl (hb hby at_522) rfl ((if0 _ _).trans (teq ((own_gv hv5).2.1 hc512 : (cmpValue (FP.fcmp (FP.d2f (if f5 = (0 : Int32) then FP.dconst0 else v5)) FP.fconst0) .l) = (0 : Int32))).2) k) ?_
                                refine ownStep (fun _ k => XS.iconst X160.here hx rfl (hb hby at_525) k) ?_
                                refine ownStep (fun _ k => XS.goto X160.here hx rfl (pc0 := 526) (pc' := 530) rfl (hb hby at_526) (by decide) (by decide) k) ?_
                                refine ownStep (fun _ k => XS.istore X160.here hx rfl (hb hby at_530) rfl (l' := #[.val (.long t), .second, .val (.int xa), .val (.int xo), .val (.long ab), .second, .val (.long cd), .second, .val (.long mi), .second, .val (.int hiw), .val (.int f1), .val (.int f2), .val (.int f3), .val (.int f4), .val (.int f5), .val (.int c0), .val (.int c1), .val (.int c2), .val (.ref ov), .val (.ref b6), .val (.float (FP.i2f (ab.toInt32))), .val (.float (FP.i2f (((ab.toUInt64 >>> ((32 : Int32) &&& 0x3f).toInt64.toUInt64).toInt64).toInt32))), .val (.double (FP.i2d (cd.toInt32))), .second, .val (.double (FP.i2d (((cd.toUInt64 >>> ((32 : Int32) &&& 0x3f).toInt64.toUInt64).toInt64).toInt32))), .second, .val (.float (FP.i2f (mi.toInt32))), .val (.double (FP.i2d xa)), .second, .val (.double (FP.i2d xo)), .second, .val (.ref b32), .val (.ref b72), .val (.int (1 : Int32)), .val (.int (1 : Int32)), .val (.int (1 : Int32)), .val (.int (1 : Int32)), .val (.int (1 : Int32)), .val (.int (1 : Int32))]) rfl k) ?_
                                show ownGo p.tables e below (T160.setTop (mkF m 532 #[.val (.long t), .second, .val (.int xa), .val (.int xo), .val (.long ab), .second, .val (.long cd), .second, .val (.long mi), .second, .val (.int hiw), .val (.int f1), .val (.int f2), .val (.int f3), .val (.int f4), .val (.int f5), .val (.int c0), .val (.int c1), .val (.int c2), .val (.ref ov), .val (.ref b6), .val (.float (FP.i2f (ab.toInt32))), .val (.float (FP.i2f (((ab.toUInt64 >>> ((32 : Int32) &&& 0x3f).toInt64.toUInt64).toInt64).toInt32))), .val (.double (FP.i2d (cd.toInt32))), .second, .val (.double (FP.i2d (((cd.toUInt64 >>> ((32 : Int32) &&& 0x3f).toInt64.toUInt64).toInt64).toInt32))), .second, .val (.float (FP.i2f (mi.toInt32))), .val (.double (FP.i2d xa)), .second, .val (.double (FP.i2d xo)), .second, .val (.ref b32), .val (.ref b72), .val (.int (1 : Int32)), .val (.int (1 : Int32)), .val (.int (1 : Int32)), .val (.int (1 : Int32)), .val (.int (1 : Int32)), .val (.int (1 : Int32))] [])) _
                                exact J532 _ _ X160 R160 N160
                              · skip
                                refine ownStep (fun _ k => XS.ifNo X160.here hx rfl (hb hby at_512) rfl ((if0 _ _).trans (feq (hc512 : ¬ f5 = (0 : Int32))).1) k) ?_
                                refine ownStep (fun _ k => XS.fload X160.here hx rfl (hb hby at_515) rfl k) ?_
                                refine ownStep (fun _ k => XS.goto X160.here hx rfl (pc0 := 517) (pc' := 521) rfl (hb hby at_517) (by decide) (by decide) k) ?_
                                refine ownStep (fun _ k => XS.fcmpS X160.here hx rfl (hb hby at_521) rfl rfl k) ?_
                                refine ownStep (fun _ k => XS.ifNo X160.here hx rfl (hb hby at_522) rfl ((if0 _ _).trans (teq ((own_gv hv5).2.2 hc512 : (cmpValue (FP.fcmp (FP.d2f (if f5 = (0 : Int32) then FP.dconst0 else v5)) (FP.i2f (mi.toInt32))) .l) = (0 : Int32))).2) k) ?_
                                refine ownStep (fun _ k => XS.iconst X160.here hx rfl (hb hby at_525) k) ?_
                                refine ownStep (fun _ k => XS.goto X160.here hx rfl (pc0 := 526) (pc' := 530) rfl (hb hby at_526) (by decide) (by decide) k) ?_
                                refine ownStep (fun _ k => XS.istore X160.here hx rfl (hb hby at_530) rfl (l' := #[.val (.long t), .second, .val (.int xa), .val (.int xo), .val (.long ab), .second, .val (.long cd), .second, .val (.long mi), .second, .val (.int hiw), .val (.int f1), .val (.int f2), .val (.int f3), .val (.int f4), .val (.int f5), .val (.int c0), .val (.int c1), .val (.int c2), .val (.ref ov), .val (.ref b6), .val (.float (FP.i2f (ab.toInt32))), .val (.float (FP.i2f (((ab.toUInt64 >>> ((32 : Int32) &&& 0x3f).toInt64.toUInt64).toInt64).toInt32))), .val (.double (FP.i2d (cd.toInt32))), .second, .val (.double (FP.i2d (((cd.toUInt64 >>> ((32 : Int32) &&& 0x3f).toInt64.toUInt64).toInt64).toInt32))), .second, .val (.float (FP.i2f (mi.toInt32))), .val (.double (FP.i2d xa)), .second, .val (.double (FP.i2d xo)), .second, .val (.ref b32), .val (.ref b72), .val (.int (1 : Int32)), .val (.int (1 : Int32)), .val (.int (1 : Int32)), .val (.int (1 : Int32)), .val (.int (1 : Int32)), .val (.int (1 : Int32))]) rfl k) ?_
                                show ownGo p.tables e below (T160.setTop (mkF m 532 #[.val (.long t), .second, .val (.int xa), .val (.int xo), .val (.long ab), .second, .val (.long cd), .second, .val (.long mi), .second, .val (.int hiw), .val (.int f1), .val (.int f2), .val (.int f3), .val (.int f4), .val (.int f5), .val (.int c0), .val (.int c1), .val (.int c2), .val (.ref ov), .val (.ref b6), .val (.float (FP.i2f (ab.toInt32))), .val (.float (FP.i2f (((ab.toUInt64 >>> ((32 : Int32) &&& 0x3f).toInt64.toUInt64).toInt64).toInt32))), .val (.double (FP.i2d (cd.toInt32))), .second, .val (.double (FP.i2d (((cd.toUInt64 >>> ((32 : Int32) &&& 0x3f).toInt64.toUInt64).toInt64).toInt32))), .second, .val (.float (FP.i2f (mi.toInt32))), .val (.double (FP.i2d xa)), .second, .val (.double (FP.i2d xo)), .second, .val (.ref b32), .val (.ref b72), .val (.int (1 : Int32)), .val (.int (1 : Int32)), .val (.int (1 : Int32)), .val (.int (1 : Int32)), .val (.int (1 : Int32)), .val (.int (1 : Int32))] [])) _
                                exact J532 _ _ X160 R160 N160
                            refine ownStep (fun _ k => XS.iload X153.here hx rfl (hb hby at_473) rfl  k) ?_
                            show ownGo p.tables e below (T153.setTop (mkF m 475 #[.val (.long t), .second, .val (.int xa), .val (.int xo), .val (.long ab), .second, .val (.long cd), .second, .val (.long mi), .second, .val (.int hiw), .val (.int f1), .val (.int f2), .val (.int f3), .val (.int f4), .val (.int f5), .val (.int c0), .val (.int c1), .val (.int c2), .val (.ref ov), .val (.ref b6), .val (.float (FP.i2f (ab.toInt32))), .val (.float (FP.i2f (((ab.toUInt64 >>> ((32 : Int32) &&& 0x3f).toInt64.toUInt64).toInt64).toInt32))), .val (.double (FP.i2d (cd.toInt32))), .second, .val (.double (FP.i2d (((cd.toUInt64 >>> ((32 : Int32) &&& 0x3f).toInt64.toUInt64).toInt64).toInt32))), .second, .val (.float (FP.i2f (mi.toInt32))), .val (.double (FP.i2d xa)), .second, .val (.double (FP.i2d xo)), .second, .val (.ref b32), .val (.ref b72), .val (.int (1 : Int32)), .val (.int (1 : Int32)), .val (.int (1 : Int32)), .val (.int (1 : Int32)), .unset, .unset] [(.int f4), (.double (if f4 = (0 : Int32) then FP.dconst0 else v4))])) _
                            by_cases hc475 : f4 = (0 : Int32)
                            · skip
                              refine ownStep (fun _ k => XS.ifYes X153.here hx rfl (pc0 := 475) (pc' := 483) rfl (hb hby at_475) rfl ((if0 _ _).trans (teq (hc475 : f4 = (0 : Int32))).1) (by decide) (by decide) k) ?_
                              refine ownStep (fun _ k => XS.dconst0 X153.here hx rfl (hb hby at_483) rfl k) ?_
                              refine ownStep (fun _ k => XS.dcmpS X153.here hx rfl (hb hby at_484) rfl rfl k) ?_
                              refine ownStep (fun _ k => XS.ifNo X153.here hx rfl (hb hby at_485) rfl ((if0 _ _).trans (teq ((own_gw hv4).1 hc475 : (cmpValue (FP.dcmp (if f4 = (0 : Int32) then FP.dconst0 else v4) FP.dconst0) .l) = (0 : Int32))).2) k) ?_
                              refine ownStep (fun _ k => XS.iconst X153.here hx rfl (hb hby at_488) k) ?_
                              refine ownStep (fun _ k => XS.goto X153.here hx rfl (pc0 := 489) (pc' := 493) rfl (hb hby at_489) (by decide) (by decide) k) ?_
                              refine ownStep (fun _ k => XS.istore X153.here hx rfl (hb hby at_493) rfl (l' := #[.val (.long t), .second, .val (.int xa), .val (.int xo), .val (.long ab), .second, .val (.long cd), .second, .val (.long mi), .second, .val (.int hiw), .val (.int f1), .val (.int f2), .val (.int f3), .val (.int f4), .val (.int f5), .val (.int c0), .val (.int c1), .val (.int c2), .val (.ref ov), .val (.ref b6), .val (.float (FP.i2f (ab.toInt32))), .val (.float (FP.i2f (((ab.toUInt64 >>> ((32 : Int32) &&& 0x3f).toInt64.toUInt64).toInt64).toInt32))), .val (.double (FP.i2d (cd.toInt32))), .second, .val (.double (FP.i2d (((cd.toUInt64 >>> ((32 : Int32) &&& 0x3f).toInt64.toUInt64).toInt64).toInt32))), .second, .val (.float (FP.i2f (mi.toInt32))), .val (.double (FP.i2d xa)), .second, .val (.double (FP.i2d xo)), .second, .val (.ref b32), .val (.ref b72), .val (.int (1 : Int32)), .val (.int (1 : Int32)), .val (.int (1 : Int32)), .val (.int (1 : Int32)), .val (.int (1 : Int32)), .unset]) rfl k) ?_
                              show ownGo p.tables e below (T153.setTop (mkF m 495 #[.val (.long t), .second, .val (.int xa), .val (.int xo), .val (.long ab), .second, .val (.long cd), .second, .val (.long mi), .second, .val (.int hiw), .val (.int f1), .val (.int f2), .val (.int f3), .val (.int f4), .val (.int f5), .val (.int c0), .val (.int c1), .val (.int c2), .val (.ref ov), .val (.ref b6), .val (.float (FP.i2f (ab.toInt32))), .val (.float (FP.i2f (((ab.toUInt64 >>> ((32 : Int32) &&& 0x3f).toInt64.toUInt64).toInt64).toInt32))), .val (.double (FP.i2d (cd.toInt32))), .second, .val (.double (FP.i2d (((cd.toUInt64 >>> ((32 : Int32) &&& 0x3f).toInt64.toUInt64).toInt64).toInt32))), .second, .val (.float (FP.i2f (mi.toInt32))), .val (.double (FP.i2d xa)), .second, .val (.double (FP.i2d xo)), .second, .val (.ref b32), .val (.ref b72), .val (.int (1 : Int32)), .val (.int (1 : Int32)), .val (.int (1 : Int32)), .val (.int (1 : Int32)), .val (.int (1 : Int32)), .unset] [])) _
                              exact J495 _ _ X153 R153 N153
                            · skip
                              refine ownStep (fun _ k => XS.ifNo X153.here hx rfl (hb hby at_475) rfl ((if0 _ _).trans (feq (hc475 : ¬ f4 = (0 : Int32))).1) k) ?_
                              refine ownStep (fun _ k => XS.dload X153.here hx rfl (hb hby at_478) rfl k) ?_
                              refine ownStep (fun _ k => XS.goto X153.here hx rfl (pc0 := 480) (pc' := 484) rfl (hb hby at_480) (by decide) (by decide) k) ?_
                              refine ownStep (fun _ k => XS.dcmpS X153.here hx rfl (hb hby at_484) rfl rfl k) ?_
                              refine ownStep (fun _ k => XS.ifNo X153.here hx rfl (hb hby at_485) rfl ((if0 _ _).trans (teq ((own_gw hv4).2 hc475 : (cmpValue (FP.dcmp (if f4 = (0 : Int32) then FP.dconst0 else v4) (FP.i2d (((cd.toUInt64 >>> ((32 : Int32) &&& 0x3f).toInt64.toUInt64).toInt64).toInt32))) .l) = (0 : Int32))).2) k) ?_
                              refine ownStep (fun _ k => XS.iconst X153.here hx rfl (hb hby at_488) k) ?_
                              refine ownStep (fun _ k => XS.goto X153.here hx rfl (pc0 := 489) (pc' := 493) rfl (hb hby at_489) (by decide) (by decide) k) ?_
                              refine ownStep (fun _ k => XS.istore X153.here hx rfl (hb hby at_493) rfl (l' := #[.val (.long t), .second, .val (.int xa), .val (.int xo), .val (.long ab), .second, .val (.long cd), .second, .val (.long mi), .second, .val (.int hiw), .val (.int f1), .val (.int f2), .val (.int f3), .val (.int f4), .val (.int f5), .val (.int c0), .val (.int c1), .val (.int c2), .val (.ref ov), .val (.ref b6), .val (.float (FP.i2f (ab.toInt32))), .val (.float (FP.i2f (((ab.toUInt64 >>> ((32 : Int32) &&& 0x3f).toInt64.toUInt64).toInt64).toInt32))), .val (.double (FP.i2d (cd.toInt32))), .second, .val (.double (FP.i2d (((cd.toUInt64 >>> ((32 : Int32) &&& 0x3f).toInt64.toUInt64).toInt64).toInt32))), .second, .val (.float (FP.i2f (mi.toInt32))), .val (.double (FP.i2d xa)), .second, .val (.double (FP.i2d xo)), .second, .val (.ref b32), .val (.ref b72), .val (.int (1 : Int32)), .val (.int (1 : Int32)), .val (.int (1 : Int32)), .val (.int (1 : Int32)), .val (.int (1 : Int32)), .unset]) rfl k) ?_
                              show ownGo p.tables e below (T153.setTop (mkF m 495 #[.val (.long t), .second, .val (.int xa), .val (.int xo), .val (.long ab), .second, .val (.long cd), .second, .val (.long mi), .second, .val (.int hiw), .val (.int f1), .val (.int f2), .val (.int f3), .val (.int f4), .val (.int f5), .val (.int c0), .val (.int c1), .val (.int c2), .val (.ref ov), .val (.ref b6), .val (.float (FP.i2f (ab.toInt32))), .val (.float (FP.i2f (((ab.toUInt64 >>> ((32 : Int32) &&& 0x3f).toInt64.toUInt64).toInt64).toInt32))), .val (.double (FP.i2d (cd.toInt32))), .second, .val (.double (FP.i2d (((cd.toUInt64 >>> ((32 : Int32) &&& 0x3f).toInt64.toUInt64).toInt64).toInt32))), .second, .val (.float (FP.i2f (mi.toInt32))), .val (.double (FP.i2d xa)), .second, .val (.double (FP.i2d xo)), .second, .val (.ref b32), .val (.ref b72), .val (.int (1 : Int32)), .val (.int (1 : Int32)), .val (.int (1 : Int32)), .val (.int (1 : Int32)), .val (.int (1 : Int32)), .unset] [])) _
                              exact J495 _ _ X153 R153 N153
                          refine ownStep (fun _ k => XS.iload X145.here hx rfl (hb hby at_436) rfl  k) ?_
                          show ownGo p.tables e below (T145.setTop (mkF m 438 #[.val (.long t), .second, .val (.int xa), .val (.int xo), .val (.long ab), .second, .val (.long cd), .second, .val (.long mi), .second, .val (.int hiw), .val (.int f1), .val (.int f2), .val (.int f3), .val (.int f4), .val (.int f5), .val (.int c0), .val (.int c1), .val (.int c2), .val (.ref ov), .val (.ref b6), .val (.float (FP.i2f (ab.toInt32))), .val (.float (FP.i2f (((ab.toUInt64 >>> ((32 : Int32) &&& 0x3f).toInt64.toUInt64).toInt64).toInt32))), .val (.double (FP.i2d (cd.toInt32))), .second, .val (.double (FP.i2d (((cd.toUInt64 >>> ((32 : Int32) &&& 0x3f).toInt64.toUInt64).toInt64).toInt32))), .second, .val (.float (FP.i2f (mi.toInt32))), .val (.double (FP.i2d xa)), .second, .val (.double (FP.i2d xo)), .second, .val (.ref b32), .val (.ref b72), .val (.int (1 : Int32)), .val (.int (1 : Int32)), .val (.int (1 : Int32)), .unset, .unset, .unset] [(.int f3), (.double (if f3 = (0 : Int32) then FP.dconst0 else v3))])) _
                          by_cases hc438 : f3 = (0 : Int32)
                          · skip
                            refine ownStep (fun _ k => XS.ifYes X145.here hx rfl (pc0 := 438) (pc' := 446) rfl (hb hby at_438) rfl ((if0 _ _).trans (teq (hc438 : f3 = (0 : Int32))).1) (by decide) (by decide) k) ?_
                            refine ownStep (fun _ k => XS.dconst0 X145.here hx rfl (hb hby at_446) rfl k) ?_
                            refine ownStep (fun _ k => XS.dcmpS X145.here hx rfl (hb hby at_447) rfl rfl k) ?_
                            refine ownStep (fun _ k => XS.ifNo X145.here hx rfl (hb hby at_448) rfl ((if0 _ _).trans (teq ((own_gw hv3).1 hc438 : (cmpValue (FP.dcmp (if f3 = (0 : Int32) then FP.dconst0 else v3) FP.dconst0) .l) = (0 : Int32))).2) k) ?_
                            refine ownStep (fun _ k => XS.iconst X145.here hx rfl (hb hby at_451) k) ?_
                            refine ownStep (fun _ k => XS.goto X145.here hx rfl (pc0 := 452) (pc' := 456) rfl (hb hby at_452) (by decide) (by decide) k) ?_
                            refine ownStep (fun _ k => XS.istore X145.here hx rfl (hb hby at_456) rfl (l' := #[.val (.long t), .second, .val (.int xa), .val (.int xo), .val (.long ab), .second, .val (.long cd), .second, .val (.long mi), .second, .val (.int hiw), .val (.int f1), .val (.int f2), .val (.int f3), .val (.int f4), .val (.int f5), .val (.int c0), .val (.int c1), .val (.int c2), .val (.ref ov), .val (.ref b6), .val (.float (FP.i2f (ab.toInt32))), .val (.float (FP.i2f (((ab.toUInt64 >>> ((32 : Int32) &&& 0x3f).toInt64.toUInt64).toInt64).toInt32))), .val (.double (FP.i2d (cd.toInt32))), .second, .val (.double (FP.i2d (((cd.toUInt64 >>> ((32 : Int32) &&& 0x3f).toInt64.toUInt64).toInt64).toInt32))), .second, .val (.float (FP.i2f (mi.toInt32))), .val (.double (FP.i2d xa)), .second, .val (.double (FP.i2d xo)), .second, .val (.ref b32), .val (.ref b72), .val (.int (1 : Int32)), .val (.int (1 : Int32)), .val (.int (1 : Int32)), .val (.int (1 : Int32)), .unset, .unset]) rfl k) ?_
                            show ownGo p.tables e below (T145.setTop (mkF m 458 #[.val (.long t), .second, .val (.int xa), .val (.int xo), .val (.long ab), .second, .val (.long cd), .second, .val (.long mi), .second, .val (.int hiw), .val (.int f1), .val (.int f2), .val (.int f3), .val (.int f4), .val (.int f5), .val (.int c0), .val (.int c1), .val (.int c2), .val (.ref ov), .val (.ref b6), .val (.float (FP.i2f (ab.toInt32))), .val (.float (FP.i2f (((ab.toUInt64 >>> ((32 : Int32) &&& 0x3f).toInt64.toUInt64).toInt64).toInt32))), .val (.double (FP.i2d (cd.toInt32))), .second, .val (.double (FP.i2d (((cd.toUInt64 >>> ((32 : Int32) &&& 0x3f).toInt64.toUInt64).toInt64).toInt32))), .second, .val (.float (FP.i2f (mi.toInt32))), .val (.double (FP.i2d xa)), .second, .val (.double (FP.i2d xo)), .second, .val (.ref b32), .val (.ref b72), .val (.int (1 : Int32)), .val (.int (1 : Int32)), .val (.int (1 : Int32)), .val (.int (1 : Int32)), .unset, .unset] [])) _
                            exact J458 _ _ X145 R145 N145
                          · skip
                            refine ownStep (fun _ k => XS.ifNo X145.here hx rfl (hb hby at_438) rfl ((if0 _ _).trans (feq (hc438 : ¬ f3 = (0 : Int32))).1) k) ?_
                            refine ownStep (fun _ k => XS.dload X145.here hx rfl (hb hby at_441) rfl k) ?_
                            refine ownStep (fun _ k => XS.goto X145.here hx rfl (pc0 := 443) (pc' := 447) rfl (hb hby at_443) (by decide) (by decide) k) ?_
                            refine ownStep (fun _ k => XS.dcmpS X145.here hx rfl (hb hby at_447) rfl rfl k) ?_
                            refine ownStep (fun _ k => XS.ifNo X145.here hx rfl (hb hby at_448) rfl ((if0 _ _).trans (teq ((own_gw hv3).2 hc438 : (cmpValue (FP.dcmp (if f3 = (0 : Int32) then FP.dconst0 else v3) (FP.i2d (cd.toInt32))) .l) = (0 : Int32))).2) k) ?_
                            refine ownStep (fun _ k => XS.iconst X145.here hx rfl (hb hby at_451) k) ?_
                            refine ownStep (fun _ k => XS.goto X145.here hx rfl (pc0 := 452) (pc' := 456) rfl (hb hby at_452) (by decide) (by decide) k) ?_
                            refine ownStep (fun _ k => XS.istore X145.here hx rfl (hb hby at_456) rfl (l' := #[.val (.long t), .second, .val (.int xa), .val (.int xo), .val (.long ab), .second, .val (.long cd), .second, .val (.long mi), .second, .val (.int hiw), .val (.int f1), .val (.int f2), .val (.int f3), .val (.int f4), .val (.int f5), .val (.int c0), .val (.int c1), .val (.int c2), .val (.ref ov), .val (.ref b6), .val (.float (FP.i2f (ab.toInt32))), .val (.float (FP.i2f (((ab.toUInt64 >>> ((32 : Int32) &&& 0x3f).toInt64.toUInt64).toInt64).toInt32))), .val (.double (FP.i2d (cd.toInt32))), .second, .val (.double (FP.i2d (((cd.toUInt64 >>> ((32 : Int32) &&& 0x3f).toInt64.toUInt64).toInt64).toInt32))), .second, .val (.float (FP.i2f (mi.toInt32))), .val (.double (FP.i2d xa)), .second, .val (.double (FP.i2d xo)), .second, .val (.ref b32), .val (.ref b72), .val (.int (1 : Int32)), .val (.int (1 : Int32)), .val (.int (1 : Int32)), .val (.int (1 : Int32)), .unset, .unset]) rfl k) ?_
                            show ownGo p.tables e below (T145.setTop (mkF m 458 #[.val (.long t), .second, .val (.int xa), .val (.int xo), .val (.long ab), .second, .val (.long cd), .second, .val (.long mi), .second, .val (.int hiw), .val (.int f1), .val (.int f2), .val (.int f3), .val (.int f4), .val (.int f5), .val (.int c0), .val (.int c1), .val (.int c2), .val (.ref ov), .val (.ref b6), .val (.float (FP.i2f (ab.toInt32))), .val (.float (FP.i2f (((ab.toUInt64 >>> ((32 : Int32) &&& 0x3f).toInt64.toUInt64).toInt64).toInt32))), .val (.double (FP.i2d (cd.toInt32))), .second, .val (.double (FP.i2d (((cd.toUInt64 >>> ((32 : Int32) &&& 0x3f).toInt64.toUInt64).toInt64).toInt32))), .second, .val (.float (FP.i2f (mi.toInt32))), .val (.double (FP.i2d xa)), .second, .val (.double (FP.i2d xo)), .second, .val (.ref b32), .val (.ref b72), .val (.int (1 : Int32)), .val (.int (1 : Int32)), .val (.int (1 : Int32)), .val (.int (1 : Int32)), .unset, .unset] [])) _
                            exact J458 _ _ X145 R145 N145
                        refine ownStep (fun _ k => XS.iload X137.here hx rfl (hb hby at_399) rfl  k) ?_
                        show ownGo p.tables e below (T137.setTop (mkF m 401 #[.val (.long t), .second, .val (.int xa), .val (.int xo), .val (.long ab), .second, .val (.long cd), .second, .val (.long mi), .second, .val (.int hiw), .val (.int f1), .val (.int f2), .val (.int f3), .val (.int f4), .val (.int f5), .val (.int c0), .val (.int c1), .val (.int c2), .val (.ref ov), .val (.ref b6), .val (.float (FP.i2f (ab.toInt32))), .val (.float (FP.i2f (((ab.toUInt64 >>> ((32 : Int32) &&& 0x3f).toInt64.toUInt64).toInt64).toInt32))), .val (.double (FP.i2d (cd.toInt32))), .second, .val (.double (FP.i2d (((cd.toUInt64 >>> ((32 : Int32) &&& 0x3f).toInt64.toUInt64).toInt64).toInt32))), .second, .val (.float (FP.i2f (mi.toInt32))), .val (.double (FP.i2d xa)), .second, .val (.double (FP.i2d xo)), .second, .val (.ref b32), .val (.ref b72), .val (.int (1 : Int32)), .val (.int (1 : Int32)), .unset, .unset, .unset, .unset] [(.int f2), (.float (FP.d2f (if f2 = (0 : Int32) then FP.dconst0 else v2)))])) _
                        by_cases hc401 : f2 = (0 : Int32)
                        · skip
                          refine ownStep (fun _ k => XS.ifYes X137.here hx rfl (pc0 := 401) (pc' := 409) rfl (hb hby at_401) rfl ((if0 _ _).trans (teq (hc401 : f2 = (0 : Int32))).1) (by decide) (by decide) k) ?_
                          refine ownStep (fun _ k => XS.fconst0 X137.here hx rfl (hb hby at_409) rfl k) ?_
                          refine ownStep (fun _ k => XS.fcmpS X137.here hx rfl (hb hby at_410) rfl rfl k) ?_
                          refine ownStep (fun _ k => XS.ifNo X137.here hx rfl (hb hby at_411) rfl ((if0 _ _).trans (teq ((own_gv hv2).2.1 hc401 : (cmpValue (FP.fcmp (FP.d2f (if f2 = (0 : Int32) then FP.dconst0 else v2)) FP.fconst0) .l) = (0 : Int32))).2) k) ?_
                          refine ownStep (fun _ k => XS.iconst X137.here hx rfl (hb hby at_414) k) ?_
                          refine ownStep (fun _ k => XS.goto X137.here hx rfl (pc0 := 415) (pc' := 419) rfl (hb hby at_415) (by decide) (by decide) k) ?_
                          refine ownStep (fun _ k => XS.istore X137.here hx rfl (hb hby at_419) rfl (l' := #[.val (.long t), .second, .val (.int xa), .val (.int xo), .val (.long ab), .second, .val (.long cd), .second, .val (.long mi), .second, .val (.int hiw), .val (.int f1), .val (.int f2), .val (.int f3), .val (.int f4), .val (.int f5), .val (.int c0), .val (.int c1), .val (.int c2), .val (.ref ov), .val (.ref b6), .val (.float (FP.i2f (ab.toInt32))), .val (.float (FP.i2f (((ab.toUInt64 >>> ((32 : Int32) &&& 0x3f).toInt64.toUInt64).toInt64).toInt32))), .val (.double (FP.i2d (cd.toInt32))), .second, .val (.double (FP.i2d (((cd.toUInt64 >>> ((32 : Int32) &&& 0x3f).toInt64.toUInt64).toInt64).toInt32))), .second, .val (.float (FP.i2f (mi.toInt32))), .val (.double (FP.i2d xa)), .second, .val (.double (FP.i2d xo)), .second, .val (.ref b32), .val (.ref b72), .val (.int (1 : Int32)), .val (.int (1 : Int32)), .val (.int (1 : Int32)), .unset, .unset, .unset]) rfl k) ?_
                          show ownGo p.tables e below (T137.setTop (mkF m 421 #[.val (.long t), .second, .val (.int xa), .val (.int xo), .val (.long ab), .second, .val (.long cd), .second, .val (.long mi), .second, .val (.int hiw), .val (.int f1), .val (.int f2), .val (.int f3), .val (.int f4), .val (.int f5), .val (.int c0), .val (.int c1), .val (.int c2), .val (.ref ov), .val (.ref b6), .val (.float (FP.i2f (ab.toInt32))), .val (.float (FP.i2f (((ab.toUInt64 >>> ((32 : Int32) &&& 0x3f).toInt64.toUInt64).toInt64).toInt32))), .val (.double (FP.i2d (cd.toInt32))), .second, .val (.double (FP.i2d (((cd.toUInt64 >>> ((32 : Int32) &&& 0x3f).toInt64.toUInt64).toInt64).toInt32))), .second, .val (.float (FP.i2f (mi.toInt32))), .val (.double (FP.i2d xa)), .second, .val (.double (FP.i2d xo)), .second, .val (.ref b32), .val (.ref b72), .val (.int (1 : Int32)), .val (.int (1 : Int32)), .val (.int (1 : Int32)), .unset, .unset, .unset] [])) _
                          exact J421 _ _ X137 R137 N137
                        · skip
                          refine ownStep (fun _ k => XS.ifNo X137.here hx rfl (hb hby at_401) rfl ((if0 _ _).trans (feq (hc401 : ¬ f2 = (0 : Int32))).1) k) ?_
                          refine ownStep (fun _ k => XS.fload X137.here hx rfl (hb hby at_404) rfl k) ?_
                          refine ownStep (fun _ k => XS.goto X137.here hx rfl (pc0 := 406) (pc' := 410) rfl (hb hby at_406) (by decide) (by decide) k) ?_
                          refine ownStep (fun _ k => XS.fcmpS X137.here hx rfl (hb hby at_410) rfl rfl k) ?_
                          refine ownStep (fun _ k => XS.ifNo X137.here hx rfl (hb hby at_411) rfl ((if0 _ _).trans (teq ((own_gv hv2).2.2 hc401 : (cmpValue (FP.fcmp (FP.d2f (if f2 = (0 : Int32) then FP.dconst0 else v2)) (FP.i2f (((ab.toUInt64 >>> ((32 : Int32) &&& 0x3f).toInt64.toUInt64).toInt64).toInt32))) .l) = (0 : Int32))).2) k) ?_
                          refine ownStep (fun _ k => XS.iconst X137.here hx rfl (hb hby at_414) k) ?_
                          refine ownStep (fun _ k => XS.goto X137.here hx rfl (pc0 := 415) (pc' := 419) rfl (hb hby at_415) (by decide) (by decide) k) ?_
                          refine ownStep (fun _ k => XS.istore X137.here hx rfl (hb hby at_419) rfl (l' := #[.val (.long t), .second, .val (.int xa), .val (.int xo), .val (.long ab), .second, .val (.long cd), .second, .val (.long mi), .second, .val (.int hiw), .val (.int f1), .val (.int f2), .val (.int f3), .val (.int f4), .val (.int f5), .val (.int c0), .val (.int c1), .val (.int c2), .val (.ref ov), .val (.ref b6), .val (.float (FP.i2f (ab.toInt32))), .val (.float (FP.i2f (((ab.toUInt64 >>> ((32 : Int32) &&& 0x3f).toInt64.toUInt64).toInt64).toInt32))), .val (.double (FP.i2d (cd.toInt32))), .second, .val (.double (FP.i2d (((cd.toUInt64 >>> ((32 : Int32) &&& 0x3f).toInt64.toUInt64).toInt64).toInt32))), .second, .val (.float (FP.i2f (mi.toInt32))), .val (.double (FP.i2d xa)), .second, .val (.double (FP.i2d xo)), .second, .val (.ref b32), .val (.ref b72), .val (.int (1 : Int32)), .val (.int (1 : Int32)), .val (.int (1 : Int32)), .unset, .unset, .unset]) rfl k) ?_
                          show ownGo p.tables e below (T137.setTop (mkF m 421 #[.val (.long t), .second, .val (.int xa), .val (.int xo), .val (.long ab), .second, .val (.long cd), .second, .val (.long mi), .second, .val (.int hiw), .val (.int f1), .val (.int f2), .val (.int f3), .val (.int f4), .val (.int f5), .val (.int c0), .val (.int c1), .val (.int c2), .val (.ref ov), .val (.ref b6), .val (.float (FP.i2f (ab.toInt32))), .val (.float (FP.i2f (((ab.toUInt64 >>> ((32 : Int32) &&& 0x3f).toInt64.toUInt64).toInt64).toInt32))), .val (.double (FP.i2d (cd.toInt32))), .second, .val (.double (FP.i2d (((cd.toUInt64 >>> ((32 : Int32) &&& 0x3f).toInt64.toUInt64).toInt64).toInt32))), .second, .val (.float (FP.i2f (mi.toInt32))), .val (.double (FP.i2d xa)), .second, .val (.double (FP.i2d xo)), .second, .val (.ref b32), .val (.ref b72), .val (.int (1 : Int32)), .val (.int (1 : Int32)), .val (.int (1 : Int32)), .unset, .unset, .unset] [])) _
                          exact J421 _ _ X137 R137 N137
                      refine ownStep (fun _ k => XS.iload X129.here hx rfl (hb hby at_362) rfl  k) ?_
                      show ownGo p.tables e below (T129.setTop (mkF m 364 #[.val (.long t), .second, .val (.int xa), .val (.int xo), .val (.long ab), .second, .val (.long cd), .second, .val (.long mi), .second, .val (.int hiw), .val (.int f1), .val (.int f2), .val (.int f3), .val (.int f4), .val (.int f5), .val (.int c0), .val (.int c1), .val (.int c2), .val (.ref ov), .val (.ref b6), .val (.float (FP.i2f (ab.toInt32))), .val (.float (FP.i2f (((ab.toUInt64 >>> ((32 : Int32) &&& 0x3f).toInt64.toUInt64).toInt64).toInt32))), .val (.double (FP.i2d (cd.toInt32))), .second, .val (.double (FP.i2d (((cd.toUInt64 >>> ((32 : Int32) &&& 0x3f).toInt64.toUInt64).toInt64).toInt32))), .second, .val (.float (FP.i2f (mi.toInt32))), .val (.double (FP.i2d xa)), .second, .val (.double (FP.i2d xo)), .second, .val (.ref b32), .val (.ref b72), .val (.int (1 : Int32)), .unset, .unset, .unset, .unset, .unset] [(.int f1), (.float (FP.d2f (if f1 = (0 : Int32) then FP.dconst0 else v1)))])) _
                      by_cases hc364 : f1 = (0 : Int32)
                      · skip
                        refine ownStep (fun _ k => XS.ifYes X129.here hx rfl (pc0 := 364) (pc' := 372) rfl (hb hby at_364) rfl ((if0 _ _).trans (teq (hc364 : f1 = (0 : Int32))).1) (by decide) (by decide) k) ?_
                        refine ownStep (fun _ k => XS.fconst0 X129.here hx rfl (hb hby at_372) rfl k) ?_
                        refine ownStep (fun _ k => XS.fcmpS X129.here hx rfl (hb hby at_373) rfl rfl k) ?_
                        refine ownStep (fun _ k => XS.ifNo X129.here hx rfl (hb hby at_374) rfl ((if0 _ _).trans (teq ((own_gv hv1).2.1 hc364 : (cmpValue (FP.fcmp (FP.d2f (if f1 = (0 : Int32) then FP.dconst0 else v1)) FP.fconst0) .l) = (0 : Int32))).2) k) ?_
                        refine ownStep (fun _ k => XS.iconst X129.here hx rfl (hb hby at_377) k) ?_
                        refine ownStep (fun _ k => XS.goto X129.here hx rfl (pc0 := 378) (pc' := 382) rfl (hb hby at_378) (by decide) (by decide) k) ?_
                        refine ownStep (fun _ k => XS.istore X129.here hx rfl (hb hby at_382) rfl (l' := #[.val (.long t), .second, .val (.int xa), .val (.int xo), .val (.long ab), .second, .val (.long cd), .second, .val (.long mi), .second, .val (.int hiw), .val (.int f1), .val (.int f2), .val (.int f3), .val (.int f4), .val (.int f5), .val (.int c0), .val (.int c1), .val (.int c2), .val (.ref ov), .val (.ref b6), .val (.float (FP.i2f (ab.toInt32))), .val (.float (FP.i2f (((ab.toUInt64 >>> ((32 : Int32) &&& 0x3f).toInt64.toUInt64).toInt64).toInt32))), .val (.double (FP.i2d (cd.toInt32))), .second, .val (.double (FP.i2d (((cd.toUInt64 >>> ((32 : Int32) &&& 0x3f).toInt64.toUInt64).toInt64).toInt32))), .second, .val (.float (FP.i2f (mi.toInt32))), .val (.double (FP.i2d xa)), .second, .val (.double (FP.i2d xo)), .second, .val (.ref b32), .val (.ref b72), .val (.int (1 : Int32)), .val (.int (1 : Int32)), .unset, .unset, .unset, .unset]) rfl k) ?_
                        show ownGo p.tables e below (T129.setTop (mkF m 384 #[.val (.long t), .second, .val (.int xa), .val (.int xo), .val (.long ab), .second, .val (.long cd), .second, .val (.long mi), .second, .val (.int hiw), .val (.int f1), .val (.int f2), .val (.int f3), .val (.int f4), .val (.int f5), .val (.int c0), .val (.int c1), .val (.int c2), .val (.ref ov), .val (.ref b6), .val (.float (FP.i2f (ab.toInt32))), .val (.float (FP.i2f (((ab.toUInt64 >>> ((32 : Int32) &&& 0x3f).toInt64.toUInt64).toInt64).toInt32))), .val (.double (FP.i2d (cd.toInt32))), .second, .val (.double (FP.i2d (((cd.toUInt64 >>> ((32 : Int32) &&& 0x3f).toInt64.toUInt64).toInt64).toInt32))), .second, .val (.float (FP.i2f (mi.toInt32))), .val (.double (FP.i2d xa)), .second, .val (.double (FP.i2d xo)), .second, .val (.ref b32), .val (.ref b72), .val (.int (1 : Int32)), .val (.int (1 : Int32)), .unset, .unset, .unset, .unset] [])) _
                        exact J384 _ _ X129 R129 N129
                      · skip
                        refine ownStep (fun _ k => XS.ifNo X129.here hx rfl (hb hby at_364) rfl ((if0 _ _).trans (feq (hc364 : ¬ f1 = (0 : Int32))).1) k) ?_
                        refine ownStep (fun _ k => XS.fload X129.here hx rfl (hb hby at_367) rfl k) ?_
                        refine ownStep (fun _ k => XS.goto X129.here hx rfl (pc0 := 369) (pc' := 373) rfl (hb hby at_369) (by decide) (by decide) k) ?_
                        refine ownStep (fun _ k => XS.fcmpS X129.here hx rfl (hb hby at_373) rfl rfl k) ?_
                        refine ownStep (fun _ k => XS.ifNo X129.here hx rfl (hb hby at_374) rfl ((if0 _ _).trans (teq ((own_gv hv1).2.2 hc364 : (cmpValue (FP.fcmp (FP.d2f (if f1 = (0 : Int32) then FP.dconst0 else v1)) (FP.i2f (ab.toInt32))) .l) = (0 : Int32))).2) k) ?_
                        refine ownStep (fun _ k => XS.iconst X129.here hx rfl (hb hby at_377) k) ?_
                        refine ownStep (fun _ k => XS.goto X129.here hx rfl (pc0 := 378) (pc' := 382) rfl (hb hby at_378) (by decide) (by decide) k) ?_
                        refine ownStep (fun _ k => XS.istore X129.here hx rfl (hb hby at_382) rfl (l' := #[.val (.long t), .second, .val (.int xa), .val (.int xo), .val (.long ab), .second, .val (.long cd), .second, .val (.long mi), .second, .val (.int hiw), .val (.int f1), .val (.int f2), .val (.int f3), .val (.int f4), .val (.int f5), .val (.int c0), .val (.int c1), .val (.int c2), .val (.ref ov), .val (.ref b6), .val (.float (FP.i2f (ab.toInt32))), .val (.float (FP.i2f (((ab.toUInt64 >>> ((32 : Int32) &&& 0x3f).toInt64.toUInt64).toInt64).toInt32))), .val (.double (FP.i2d (cd.toInt32))), .second, .val (.double (FP.i2d (((cd.toUInt64 >>> ((32 : Int32) &&& 0x3f).toInt64.toUInt64).toInt64).toInt32))), .second, .val (.float (FP.i2f (mi.toInt32))), .val (.double (FP.i2d xa)), .second, .val (.double (FP.i2d xo)), .second, .val (.ref b32), .val (.ref b72), .val (.int (1 : Int32)), .val (.int (1 : Int32)), .unset, .unset, .unset, .unset]) rfl k) ?_
                        show ownGo p.tables e below (T129.setTop (mkF m 384 #[.val (.long t), .second, .val (.int xa), .val (.int xo), .val (.long ab), .second, .val (.long cd), .second, .val (.long mi), .second, .val (.int hiw), .val (.int f1), .val (.int f2), .val (.int f3), .val (.int f4), .val (.int f5), .val (.int c0), .val (.int c1), .val (.int c2), .val (.ref ov), .val (.ref b6), .val (.float (FP.i2f (ab.toInt32))), .val (.float (FP.i2f (((ab.toUInt64 >>> ((32 : Int32) &&& 0x3f).toInt64.toUInt64).toInt64).toInt32))), .val (.double (FP.i2d (cd.toInt32))), .second, .val (.double (FP.i2d (((cd.toUInt64 >>> ((32 : Int32) &&& 0x3f).toInt64.toUInt64).toInt64).toInt32))), .second, .val (.float (FP.i2f (mi.toInt32))), .val (.double (FP.i2d xa)), .second, .val (.double (FP.i2d xo)), .second, .val (.ref b32), .val (.ref b72), .val (.int (1 : Int32)), .val (.int (1 : Int32)), .unset, .unset, .unset, .unset] [])) _
                        exact J384 _ _ X129 R129 N129
                    refine ownStep (fun _ k => XS.iload Xj4.here hx rfl (hb hby at_267) rfl  k) ?_
                    show ownGo p.tables e below (Tj4.setTop (mkF m 269 #[.val (.long t), .second, .val (.int xa), .val (.int xo), .val (.long ab), .second, .val (.long cd), .second, .val (.long mi), .second, .val (.int hiw), .val (.int f1), .val (.int f2), .val (.int f3), .val (.int f4), .val (.int f5), .val (.int c0), .val (.int c1), .val (.int c2), .val (.ref ov), .val (.ref b6), .val (.float (FP.i2f (ab.toInt32))), .val (.float (FP.i2f (((ab.toUInt64 >>> ((32 : Int32) &&& 0x3f).toInt64.toUInt64).toInt64).toInt32))), .val (.double (FP.i2d (cd.toInt32))), .second, .val (.double (FP.i2d (((cd.toUInt64 >>> ((32 : Int32) &&& 0x3f).toInt64.toUInt64).toInt64).toInt32))), .second, .val (.float (FP.i2f (mi.toInt32))), .val (.double (FP.i2d xa)), .second, .val (.double (FP.i2d xo)), .second, .val (.ref b32), .unset, .unset, .unset, .unset, .unset, .unset, .unset] [(.int f5)])) _
                    by_cases hc269 : f5 = (0 : Int32)
                    · skip
                      refine ownStep (fun _ k => XS.ifYes Xj4.here hx rfl (pc0 := 269) (pc' := 279) rfl (hb hby at_269) rfl ((if0 _ _).trans (teq (hc269 : f5 = (0 : Int32))).1) (by decide) (by decide) k) ?_
                      show ownGo p.tables e below (Tj4.setTop (mkF m 279 #[.val (.long t), .second, .val (.int xa), .val (.int xo), .val (.long ab), .second, .val (.long cd), .second, .val (.long mi), .second, .val (.int hiw), .val (.int f1), .val (.int f2), .val (.int f3), .val (.int f4), .val (.int f5), .val (.int c0), .val (.int c1), .val (.int c2), .val (.ref ov), .val (.ref b6), .val (.float (FP.i2f (ab.toInt32))), .val (.float (FP.i2f (((ab.toUInt64 >>> ((32 : Int32) &&& 0x3f).toInt64.toUInt64).toInt64).toInt32))), .val (.double (FP.i2d (cd.toInt32))), .second, .val (.double (FP.i2d (((cd.toUInt64 >>> ((32 : Int32) &&& 0x3f).toInt64.toUInt64).toInt64).toInt32))), .second, .val (.float (FP.i2f (mi.toInt32))), .val (.double (FP.i2d xa)), .second, .val (.double (FP.i2d xo)), .second, .val (.ref b32), .unset, .unset, .unset, .unset, .unset, .unset, .unset] [])) _
                      have Q162 := (((((((Q50.keep R52 (allS gn_b32 all0)).keep R58 (allS gn_b32 all0)).keep R63 (allS gn_b32 all0)).keep Kj1 (allS gn_b32 all0)).keep Kj2 (allS gn_b32 all0)).keep Kj3 (allS gn_b32 all0)).keep Kj4 (allS gn_b32 all0))
                      have Q163 := Oem.ext Q162.2
                      exact J279 _ _ _ (Xj4.mono (by decide) (by decide)) ej4 Nj4 (Keep.refl _ _) em 0 (fun q => absurd hc269 q) Cj4 (by rw [hc269]; exact Q163)
                    · skip
                      refine ownStep (fun _ k => XS.ifNo Xj4.here hx rfl (hb hby at_269) rfl ((if0 _ _).trans (feq (hc269 : ¬ f5 = (0 : Int32))).1) k) ?_
                      refine ownStep (fun _ k => XS.aload Xj4.here hx rfl (hb hby at_272) rfl rfl k) ?_
                      refine ownStep (fun _ k => XS.fload Xj4.here hx rfl (hb hby at_274) rfl k) ?_
                      show ownGo p.tables e below (Tj4.setTop (mkF m 276 #[.val (.long t), .second, .val (.int xa), .val (.int xo), .val (.long ab), .second, .val (.long cd), .second, .val (.long mi), .second, .val (.int hiw), .val (.int f1), .val (.int f2), .val (.int f3), .val (.int f4), .val (.int f5), .val (.int c0), .val (.int c1), .val (.int c2), .val (.ref ov), .val (.ref b6), .val (.float (FP.i2f (ab.toInt32))), .val (.float (FP.i2f (((ab.toUInt64 >>> ((32 : Int32) &&& 0x3f).toInt64.toUInt64).toInt64).toInt32))), .val (.double (FP.i2d (cd.toInt32))), .second, .val (.double (FP.i2d (((cd.toUInt64 >>> ((32 : Int32) &&& 0x3f).toInt64.toUInt64).toInt64).toInt32))), .second, .val (.float (FP.i2f (mi.toInt32))), .val (.double (FP.i2d xa)), .second, .val (.double (FP.i2d xo)), .second, .val (.ref b32), .unset, .unset, .unset, .unset, .unset, .unset, .unset] [(.float (FP.i2f (mi.toInt32))), (.ref b32)])) _
                      have Q164 := (((((Q62.keep R63).keep Kj1).keep Kj2).keep Kj3).keep Kj4)
                      have Zs166 : n0 ≤ hj4.size := Nat.le_trans Z0 KP70.1
                      obtain ⟨cq165, kq165, q165a, q165b, q165c⟩ := isOf hZ ej4 Q164
                      obtain ⟨_, _, ⟨T165, L165, k165, n165⟩, -, X165, ⟨Lc165, hQ165, l165, y165, z165⟩, st165⟩ := Xj4.virtualBack hx (y := (⟨"com/example/fixd/fixd/client/Location", "setAccuracy", "(F)V"⟩ : MethodName)) (z := (⟨"com/example/fixd/fixd/client/Location", "setAccuracy", "(F)V"⟩ : MethodName)) hown (mvT hZ (hw _ ow375)) (mvT hZ (hw _ ow376)) (notFace_of_selects (args := #[]) (mvT hZ (hw _ ow378))) (mvT hZ (hw _ ow378)) (mvT hZ (hw _ ow377)) (by decide) (backOf (W := 0) (os_ac l Z a0 hw [] b32 ov ot (FP.i2d xa) (FP.i2d xo) o1 o2 o3 o4 em ei (FP.i2f (mi.toInt32)) hj4 n0 Zs166 Q164 gn_b32 Cj4 (own_f2dn _)) hZ (hw _ ow379) (hw _ ow46) (by decide) (by decide)) q165a q165c (g := (mkF m 276 #[.val (.long t), .second, .val (.int xa), .val (.int xo), .val (.long ab), .second, .val (.long cd), .second, .val (.long mi), .second, .val (.int hiw), .val (.int f1), .val (.int f2), .val (.int f3), .val (.int f4), .val (.int f5), .val (.int c0), .val (.int c1), .val (.int c2), .val (.ref ov), .val (.ref b6), .val (.float (FP.i2f (ab.toInt32))), .val (.float (FP.i2f (((ab.toUInt64 >>> ((32 : Int32) &&& 0x3f).toInt64.toUInt64).toInt64).toInt32))), .val (.double (FP.i2d (cd.toInt32))), .second, .val (.double (FP.i2d (((cd.toUInt64 >>> ((32 : Int32) &&& 0x3f).toInt64.toUInt64).toInt64).toInt32))), .second, .val (.float (FP.i2f (mi.toInt32))), .val (.double (FP.i2d xa)), .second, .val (.double (FP.i2d xo)), .second, .val (.ref b32), .unset, .unset, .unset, .unset, .unset, .unset, .unset] [(.float (FP.i2f (mi.toInt32))), (.ref b32)])) rfl (by rw [hml]; rfl) (Steps.refl _) (argsL := [(.float (FP.i2f (mi.toInt32)))]) (rest := []) (lenOf own_law_pd13 rfl) rfl (by show 2 * 0 + _ ≤ _; exact Nat.le_of_eq rfl) (hb hby at_276) (fun _ _ => ⟨rfl, ej4, (by decide : 30 + 1 ≤ _), (by decide : 355 + 2 ≤ _)⟩)
                      dsimp only [Pt.U, Pt.locs, Pt.cells, Pt.slots] at X165 l165 y165 z165 st165 hQ165
                      obtain rfl : k165 = 31 := y165
                      obtain rfl : n165 = 357 := z165
                      obtain ⟨oo5, rfl, N165q, R165, P167, P168⟩ := hQ165
                      have N165 : Fr n0 L165 := l165 ▸ Fr.app Nj4 N165q
                      refine ownStep (fun _ k => st165.trans k) ?_
                      have KP169 : Keep h0 T165.heap [] := KP70.trans R165 (allS (Or.inr gh_b32) all0)
                      show ownGo p.tables e below (T165.setTop (mkF m 279 #[.val (.long t), .second, .val (.int xa), .val (.int xo), .val (.long ab), .second, .val (.long cd), .second, .val (.long mi), .second, .val (.int hiw), .val (.int f1), .val (.int f2), .val (.int f3), .val (.int f4), .val (.int f5), .val (.int c0), .val (.int c1), .val (.int c2), .val (.ref ov), .val (.ref b6), .val (.float (FP.i2f (ab.toInt32))), .val (.float (FP.i2f (((ab.toUInt64 >>> ((32 : Int32) &&& 0x3f).toInt64.toUInt64).toInt64).toInt32))), .val (.double (FP.i2d (cd.toInt32))), .second, .val (.double (FP.i2d (((cd.toUInt64 >>> ((32 : Int32) &&& 0x3f).toInt64.toUInt64).toInt64).toInt32))), .second, .val (.float (FP.i2f (mi.toInt32))), .val (.double (FP.i2d xa)), .second, .val (.double (FP.i2d xo)), .second, .val (.ref b32), .unset, .unset, .unset, .unset, .unset, .unset, .unset] [])) _
                      exact J279 _ _ _ X165 rfl N165 R165 oo5 (FP.f2d (FP.i2f (mi.toInt32))) (fun _ => rfl) P167 (by rw [own_f1 bf5 hc269]; exact P168)
                  refine ownStep (fun _ k => XS.iload Xj3.here hx rfl (hb hby at_255) rfl  k) ?_
                  show ownGo p.tables e below (Tj3.setTop (mkF m 257 #[.val (.long t), .second, .val (.int xa), .val (.int xo), .val (.long ab), .second, .val (.long cd), .second, .val (.long mi), .second, .val (.int hiw), .val (.int f1), .val (.int f2), .val (.int f3), .val (.int f4), .val (.int f5), .val (.int c0), .val (.int c1), .val (.int c2), .val (.ref ov), .val (.ref b6), .val (.float (FP.i2f (ab.toInt32))), .val (.float (FP.i2f (((ab.toUInt64 >>> ((32 : Int32) &&& 0x3f).toInt64.toUInt64).toInt64).toInt32))), .val (.double (FP.i2d (cd.toInt32))), .second, .val (.double (FP.i2d (((cd.toUInt64 >>> ((32 : Int32) &&& 0x3f).toInt64.toUInt64).toInt64).toInt32))), .second, .val (.float (FP.i2f (mi.toInt32))), .val (.double (FP.i2d xa)), .second, .val (.double (FP.i2d xo)), .second, .val (.ref b32), .unset, .unset, .unset, .unset, .unset, .unset, .unset] [(.int f4)])) _
                  by_cases hc257 : f4 = (0 : Int32)
                  · skip
                    refine ownStep (fun _ k => XS.ifYes Xj3.here hx rfl (pc0 := 257) (pc' := 267) rfl (hb hby at_257) rfl ((if0 _ _).trans (teq (hc257 : f4 = (0 : Int32))).1) (by decide) (by decide) k) ?_
                    show ownGo p.tables e below (Tj3.setTop (mkF m 267 #[.val (.long t), .second, .val (.int xa), .val (.int xo), .val (.long ab), .second, .val (.long cd), .second, .val (.long mi), .second, .val (.int hiw), .val (.int f1), .val (.int f2), .val (.int f3), .val (.int f4), .val (.int f5), .val (.int c0), .val (.int c1), .val (.int c2), .val (.ref ov), .val (.ref b6), .val (.float (FP.i2f (ab.toInt32))), .val (.float (FP.i2f (((ab.toUInt64 >>> ((32 : Int32) &&& 0x3f).toInt64.toUInt64).toInt64).toInt32))), .val (.double (FP.i2d (cd.toInt32))), .second, .val (.double (FP.i2d (((cd.toUInt64 >>> ((32 : Int32) &&& 0x3f).toInt64.toUInt64).toInt64).toInt32))), .second, .val (.float (FP.i2f (mi.toInt32))), .val (.double (FP.i2d xa)), .second, .val (.double (FP.i2d xo)), .second, .val (.ref b32), .unset, .unset, .unset, .unset, .unset, .unset, .unset] [])) _
                    have Q170 := ((((((Q50.keep R52 (allS gn_b32 all0)).keep R58 (allS gn_b32 all0)).keep R63 (allS gn_b32 all0)).keep Kj1 (allS gn_b32 all0)).keep Kj2 (allS gn_b32 all0)).keep Kj3 (allS gn_b32 all0))
                    have Q171 := Oem.ext Q170.2
                    exact J267 _ _ _ (Xj3.mono (by decide) (by decide)) ej3 Nj3 (Keep.refl _ _) em 0 (fun q => absurd hc257 q) Cj3 (by rw [hc257]; exact Q171)
                  · skip
                    refine ownStep (fun _ k => XS.ifNo Xj3.here hx rfl (hb hby at_257) rfl ((if0 _ _).trans (feq (hc257 : ¬ f4 = (0 : Int32))).1) k) ?_
                    refine ownStep (fun _ k => XS.aload Xj3.here hx rfl (hb hby at_260) rfl rfl k) ?_
                    refine ownStep (fun _ k => XS.dload Xj3.here hx rfl (hb hby at_262) rfl k) ?_
                    show ownGo p.tables e below (Tj3.setTop (mkF m 264 #[.val (.long t), .second, .val (.int xa), .val (.int xo), .val (.long ab), .second, .val (.long cd), .second, .val (.long mi), .second, .val (.int hiw), .val (.int f1), .val (.int f2), .val (.int f3), .val (.int f4), .val (.int f5), .val (.int c0), .val (.int c1), .val (.int c2), .val (.ref ov), .val (.ref b6), .val (.float (FP.i2f (ab.toInt32))), .val (.float (FP.i2f (((ab.toUInt64 >>> ((32 : Int32) &&& 0x3f).toInt64.toUInt64).toInt64).toInt32))), .val (.double (FP.i2d (cd.toInt32))), .second, .val (.double (FP.i2d (((cd.toUInt64 >>> ((32 : Int32) &&& 0x3f).toInt64.toUInt64).toInt64).toInt32))), .second, .val (.float (FP.i2f (mi.toInt32))), .val (.double (FP.i2d xa)), .second, .val (.double (FP.i2d xo)), .second, .val (.ref b32), .unset, .unset, .unset, .unset, .unset, .unset, .unset] [(.double (FP.i2d (((cd.toUInt64 >>> ((32 : Int32) &&& 0x3f).toInt64.toUInt64).toInt64).toInt32))), (.ref b32)])) _
                    have Q172 := ((((Q62.keep R63).keep Kj1).keep Kj2).keep Kj3)
                    have Zs174 : n0 ≤ hj3.size := Nat.le_trans Z0 KP69.1
                    obtain ⟨cq173, kq173, q173a, q173b, q173c⟩ := isOf hZ ej3 Q172
                    obtain ⟨_, _, ⟨T173, L173, k173, n173⟩, -, X173, ⟨Lc173, hQ173, l173, y173, z173⟩, st173⟩ := Xj3.virtualBack hx (y := (⟨"com/example/fixd/fixd/client/Location", "setMslAltitude", "(D)V"⟩ : MethodName)) (z := (⟨"com/example/fixd/fixd/client/Location", "setMslAltitude", "(D)V"⟩ : MethodName)) hown (mvT hZ (hw _ ow370)) (mvT hZ (hw _ ow371)) (notFace_of_selects (args := #[]) (mvT hZ (hw _ ow373))) (mvT hZ (hw _ ow373)) (mvT hZ (hw _ ow372)) (by decide) (backOf (W := 0) (os_ms l Z a0 hw [] b32 ov ot (FP.i2d xa) (FP.i2d xo) o1 o2 o3 em em ei (FP.i2d (((cd.toUInt64 >>> ((32 : Int32) &&& 0x3f).toInt64.toUInt64).toInt64).toInt32)) hj3 n0 Zs174 Q172 gn_b32 Cj3) hZ (hw _ ow374) (hw _ ow46) (by decide) (by decide)) q173a q173c (g := (mkF m 264 #[.val (.long t), .second, .val (.int xa), .val (.int xo), .val (.long ab), .second, .val (.long cd), .second, .val (.long mi), .second, .val (.int hiw), .val (.int f1), .val (.int f2), .val (.int f3), .val (.int f4), .val (.int f5), .val (.int c0), .val (.int c1), .val (.int c2), .val (.ref ov), .val (.ref b6), .val (.float (FP.i2f (ab.toInt32))), .val (.float (FP.i2f (((ab.toUInt64 >>> ((32 : Int32) &&& 0x3f).toInt64.toUInt64).toInt64).toInt32))), .val (.double (FP.i2d (cd.toInt32))), .second, .val (.double (FP.i2d (((cd.toUInt64 >>> ((32 : Int32) &&& 0x3f).toInt64.toUInt64).toInt64).toInt32))), .second, .val (.float (FP.i2f (mi.toInt32))), .val (.double (FP.i2d xa)), .second, .val (.double (FP.i2d xo)), .second, .val (.ref b32), .unset, .unset, .unset, .unset, .unset, .unset, .unset] [(.double (FP.i2d (((cd.toUInt64 >>> ((32 : Int32) &&& 0x3f).toInt64.toUInt64).toInt64).toInt32))), (.ref b32)])) rfl (by rw [hml]; rfl) (Steps.refl _) (argsL := [(.double (FP.i2d (((cd.toUInt64 >>> ((32 : Int32) &&& 0x3f).toInt64.toUInt64).toInt64).toInt32)))]) (rest := []) (lenOf own_law_pd4 rfl) rfl (by show 2 * 0 + _ ≤ _; exact Nat.le_of_eq rfl) (hb hby at_264) (fun _ _ => ⟨rfl, ej3, (by decide : 29 + 1 ≤ _), (by decide : 353 + 2 ≤ _)⟩)
                    dsimp only [Pt.U, Pt.locs, Pt.cells, Pt.slots] at X173 l173 y173 z173 st173 hQ173
                    obtain rfl : k173 = 30 := y173
                    obtain rfl : n173 = 355 := z173
                    obtain ⟨oo4, rfl, N173q, R173, P175, P176⟩ := hQ173
                    have N173 : Fr n0 L173 := l173 ▸ Fr.app Nj3 N173q
                    refine ownStep (fun _ k => st173.trans k) ?_
                    have KP177 : Keep h0 T173.heap [] := KP69.trans R173 (allS (Or.inr gh_b32) all0)
                    show ownGo p.tables e below (T173.setTop (mkF m 267 #[.val (.long t), .second, .val (.int xa), .val (.int xo), .val (.long ab), .second, .val (.long cd), .second, .val (.long mi), .second, .val (.int hiw), .val (.int f1), .val (.int f2), .val (.int f3), .val (.int f4), .val (.int f5), .val (.int c0), .val (.int c1), .val (.int c2), .val (.ref ov), .val (.ref b6), .val (.float (FP.i2f (ab.toInt32))), .val (.float (FP.i2f (((ab.toUInt64 >>> ((32 : Int32) &&& 0x3f).toInt64.toUInt64).toInt64).toInt32))), .val (.double (FP.i2d (cd.toInt32))), .second, .val (.double (FP.i2d (((cd.toUInt64 >>> ((32 : Int32) &&& 0x3f).toInt64.toUInt64).toInt64).toInt32))), .second, .val (.float (FP.i2f (mi.toInt32))), .val (.double (FP.i2d xa)), .second, .val (.double (FP.i2d xo)), .second, .val (.ref b32), .unset, .unset, .unset, .unset, .unset, .unset, .unset] [])) _
                    exact J267 _ _ _ X173 rfl N173 R173 oo4 (FP.i2d (((cd.toUInt64 >>> ((32 : Int32) &&& 0x3f).toInt64.toUInt64).toInt64).toInt32)) (fun _ => rfl) P175 (by rw [own_f1 bf4 hc257]; exact P176)
                refine ownStep (fun _ k => XS.iload Xj2.here hx rfl (hb hby at_243) rfl  k) ?_
                show ownGo p.tables e below (Tj2.setTop (mkF m 245 #[.val (.long t), .second, .val (.int xa), .val (.int xo), .val (.long ab), .second, .val (.long cd), .second, .val (.long mi), .second, .val (.int hiw), .val (.int f1), .val (.int f2), .val (.int f3), .val (.int f4), .val (.int f5), .val (.int c0), .val (.int c1), .val (.int c2), .val (.ref ov), .val (.ref b6), .val (.float (FP.i2f (ab.toInt32))), .val (.float (FP.i2f (((ab.toUInt64 >>> ((32 : Int32) &&& 0x3f).toInt64.toUInt64).toInt64).toInt32))), .val (.double (FP.i2d (cd.toInt32))), .second, .val (.double (FP.i2d (((cd.toUInt64 >>> ((32 : Int32) &&& 0x3f).toInt64.toUInt64).toInt64).toInt32))), .second, .val (.float (FP.i2f (mi.toInt32))), .val (.double (FP.i2d xa)), .second, .val (.double (FP.i2d xo)), .second, .val (.ref b32), .unset, .unset, .unset, .unset, .unset, .unset, .unset] [(.int f3)])) _
                by_cases hc245 : f3 = (0 : Int32)
                · skip
                  refine ownStep (fun _ k => XS.ifYes Xj2.here hx rfl (pc0 := 245) (pc' := 255) rfl (hb hby at_245) rfl ((if0 _ _).trans (teq (hc245 : f3 = (0 : Int32))).1) (by decide) (by decide) k) ?_
                  show ownGo p.tables e below (Tj2.setTop (mkF m 255 #[.val (.long t), .second, .val (.int xa), .val (.int xo), .val (.long ab), .second, .val (.long cd), .second, .val (.long mi), .second, .val (.int hiw), .val (.int f1), .val (.int f2), .val (.int f3), .val (.int f4), .val (.int f5), .val (.int c0), .val (.int c1), .val (.int c2), .val (.ref ov), .val (.ref b6), .val (.float (FP.i2f (ab.toInt32))), .val (.float (FP.i2f (((ab.toUInt64 >>> ((32 : Int32) &&& 0x3f).toInt64.toUInt64).toInt64).toInt32))), .val (.double (FP.i2d (cd.toInt32))), .second, .val (.double (FP.i2d (((cd.toUInt64 >>> ((32 : Int32) &&& 0x3f).toInt64.toUInt64).toInt64).toInt32))), .second, .val (.float (FP.i2f (mi.toInt32))), .val (.double (FP.i2d xa)), .second, .val (.double (FP.i2d xo)), .second, .val (.ref b32), .unset, .unset, .unset, .unset, .unset, .unset, .unset] [])) _
                  have Q178 := (((((Q50.keep R52 (allS gn_b32 all0)).keep R58 (allS gn_b32 all0)).keep R63 (allS gn_b32 all0)).keep Kj1 (allS gn_b32 all0)).keep Kj2 (allS gn_b32 all0))
                  have Q179 := Oem.ext Q178.2
                  exact J255 _ _ _ (Xj2.mono (by decide) (by decide)) ej2 Nj2 (Keep.refl _ _) em 0 (fun q => absurd hc245 q) Cj2 (by rw [hc245]; exact Q179)
                · skip
                  refine ownStep (fun _ k => XS.ifNo Xj2.here hx rfl (hb hby at_245) rfl ((if0 _ _).trans (feq (hc245 : ¬ f3 = (0 : Int32))).1) k) ?_
                  refine ownStep (fun _ k => XS.aload Xj2.here hx rfl (hb hby at_248) rfl rfl k) ?_
                  refine ownStep (fun _ k => XS.dload Xj2.here hx rfl (hb hby at_250) rfl k) ?_
                  show ownGo p.tables e below (Tj2.setTop (mkF m 252 #[.val (.long t), .second, .val (.int xa), .val (.int xo), .val (.long ab), .second, .val (.long cd), .second, .val (.long mi), .second, .val (.int hiw), .val (.int f1), .val (.int f2), .val (.int f3), .val (.int f4), .val (.int f5), .val (.int c0), .val (.int c1), .val (.int c2), .val (.ref ov), .val (.ref b6), .val (.float (FP.i2f (ab.toInt32))), .val (.float (FP.i2f (((ab.toUInt64 >>> ((32 : Int32) &&& 0x3f).toInt64.toUInt64).toInt64).toInt32))), .val (.double (FP.i2d (cd.toInt32))), .second, .val (.double (FP.i2d (((cd.toUInt64 >>> ((32 : Int32) &&& 0x3f).toInt64.toUInt64).toInt64).toInt32))), .second, .val (.float (FP.i2f (mi.toInt32))), .val (.double (FP.i2d xa)), .second, .val (.double (FP.i2d xo)), .second, .val (.ref b32), .unset, .unset, .unset, .unset, .unset, .unset, .unset] [(.double (FP.i2d (cd.toInt32))), (.ref b32)])) _
                  have Q180 := (((Q62.keep R63).keep Kj1).keep Kj2)
                  have Zs182 : n0 ≤ hj2.size := Nat.le_trans Z0 KP68.1
                  obtain ⟨cq181, kq181, q181a, q181b, q181c⟩ := isOf hZ ej2 Q180
                  obtain ⟨_, _, ⟨T181, L181, k181, n181⟩, -, X181, ⟨Lc181, hQ181, l181, y181, z181⟩, st181⟩ := Xj2.virtualBack hx (y := (⟨"com/example/fixd/fixd/client/Location", "setAltitude", "(D)V"⟩ : MethodName)) (z := (⟨"com/example/fixd/fixd/client/Location", "setAltitude", "(D)V"⟩ : MethodName)) hown (mvT hZ (hw _ ow381)) (mvT hZ (hw _ ow382)) (notFace_of_selects (args := #[]) (mvT hZ (hw _ ow384))) (mvT hZ (hw _ ow384)) (mvT hZ (hw _ ow383)) (by decide) (backOf (W := 0) (os_al l Z a0 hw [] b32 ov ot (FP.i2d xa) (FP.i2d xo) o1 o2 em em em ei (FP.i2d (cd.toInt32)) hj2 n0 Zs182 Q180 gn_b32 Cj2) hZ (hw _ ow385) (hw _ ow46) (by decide) (by decide)) q181a q181c (g := (mkF m 252 #[.val (.long t), .second, .val (.int xa), .val (.int xo), .val (.long ab), .second, .val (.long cd), .second, .val (.long mi), .second, .val (.int hiw), .val (.int f1), .val (.int f2), .val (.int f3), .val (.int f4), .val (.int f5), .val (.int c0), .val (.int c1), .val (.int c2), .val (.ref ov), .val (.ref b6), .val (.float (FP.i2f (ab.toInt32))), .val (.float (FP.i2f (((ab.toUInt64 >>> ((32 : Int32) &&& 0x3f).toInt64.toUInt64).toInt64).toInt32))), .val (.double (FP.i2d (cd.toInt32))), .second, .val (.double (FP.i2d (((cd.toUInt64 >>> ((32 : Int32) &&& 0x3f).toInt64.toUInt64).toInt64).toInt32))), .second, .val (.float (FP.i2f (mi.toInt32))), .val (.double (FP.i2d xa)), .second, .val (.double (FP.i2d xo)), .second, .val (.ref b32), .unset, .unset, .unset, .unset, .unset, .unset, .unset] [(.double (FP.i2d (cd.toInt32))), (.ref b32)])) rfl (by rw [hml]; rfl) (Steps.refl _) (argsL := [(.double (FP.i2d (cd.toInt32)))]) (rest := []) (lenOf own_law_pd4 rfl) rfl (by show 2 * 0 + _ ≤ _; exact Nat.le_of_eq rfl) (hb hby at_252) (fun _ _ => ⟨rfl, ej2, (by decide : 28 + 1 ≤ _), (by decide : 351 + 2 ≤ _)⟩)
                  dsimp only [Pt.U, Pt.locs, Pt.cells, Pt.slots] at X181 l181 y181 z181 st181 hQ181
                  obtain rfl : k181 = 29 := y181
                  obtain rfl : n181 = 353 := z181
                  obtain ⟨oo3, rfl, N181q, R181, P183, P184⟩ := hQ181
                  have N181 : Fr n0 L181 := l181 ▸ Fr.app Nj2 N181q
                  refine ownStep (fun _ k => st181.trans k) ?_
                  have KP185 : Keep h0 T181.heap [] := KP68.trans R181 (allS (Or.inr gh_b32) all0)
                  show ownGo p.tables e below (T181.setTop (mkF m 255 #[.val (.long t), .second, .val (.int xa), .val (.int xo), .val (.long ab), .second, .val (.long cd), .second, .val (.long mi), .second, .val (.int hiw), .val (.int f1), .val (.int f2), .val (.int f3), .val (.int f4), .val (.int f5), .val (.int c0), .val (.int c1), .val (.int c2), .val (.ref ov), .val (.ref b6), .val (.float (FP.i2f (ab.toInt32))), .val (.float (FP.i2f (((ab.toUInt64 >>> ((32 : Int32) &&& 0x3f).toInt64.toUInt64).toInt64).toInt32))), .val (.double (FP.i2d (cd.toInt32))), .second, .val (.double (FP.i2d (((cd.toUInt64 >>> ((32 : Int32) &&& 0x3f).toInt64.toUInt64).toInt64).toInt32))), .second, .val (.float (FP.i2f (mi.toInt32))), .val (.double (FP.i2d xa)), .second, .val (.double (FP.i2d xo)), .second, .val (.ref b32), .unset, .unset, .unset, .unset, .unset, .unset, .unset] [])) _
                  exact J255 _ _ _ X181 rfl N181 R181 oo3 (FP.i2d (cd.toInt32)) (fun _ => rfl) P183 (by rw [own_f1 bf3 hc245]; exact P184)
              refine ownStep (fun _ k => XS.iload Xj1.here hx rfl (hb hby at_231) rfl  k) ?_
              show ownGo p.tables e below (Tj1.setTop (mkF m 233 #[.val (.long t), .second, .val (.int xa), .val (.int xo), .val (.long ab), .second, .val (.long cd), .second, .val (.long mi), .second, .val (.int hiw), .val (.int f1), .val (.int f2), .val (.int f3), .val (.int f4), .val (.int f5), .val (.int c0), .val (.int c1), .val (.int c2), .val (.ref ov), .val (.ref b6), .val (.float (FP.i2f (ab.toInt32))), .val (.float (FP.i2f (((ab.toUInt64 >>> ((32 : Int32) &&& 0x3f).toInt64.toUInt64).toInt64).toInt32))), .val (.double (FP.i2d (cd.toInt32))), .second, .val (.double (FP.i2d (((cd.toUInt64 >>> ((32 : Int32) &&& 0x3f).toInt64.toUInt64).toInt64).toInt32))), .second, .val (.float (FP.i2f (mi.toInt32))), .val (.double (FP.i2d xa)), .second, .val (.double (FP.i2d xo)), .second, .val (.ref b32), .unset, .unset, .unset, .unset, .unset, .unset, .unset] [(.int f2)])) _
              by_cases hc233 : f2 = (0 : Int32)
              · skip
                refine ownStep (fun _ k => XS.ifYes Xj1.here hx rfl (pc0 := 233) (pc' := 243) rfl (hb hby at_233) rfl ((if0 _ _).trans (teq (hc233 : f2 = (0 : Int32))).1) (by decide) (by decide) k) ?_
                show ownGo p.tables e below (Tj1.setTop (mkF m 243 #[.val (.long t), .second, .val (.int xa), .val (.int xo), .val (.long ab), .second, .val (.long cd), .second, .val (.long mi), .second, .val (.int hiw), .val (.int f1), .val (.int f2), .val (.int f3), .val (.int f4), .val (.int f5), .val (.int c0), .val (.int c1), .val (.int c2), .val (.ref ov), .val (.ref b6), .val (.float (FP.i2f (ab.toInt32))), .val (.float (FP.i2f (((ab.toUInt64 >>> ((32 : Int32) &&& 0x3f).toInt64.toUInt64).toInt64).toInt32))), .val (.double (FP.i2d (cd.toInt32))), .second, .val (.double (FP.i2d (((cd.toUInt64 >>> ((32 : Int32) &&& 0x3f).toInt64.toUInt64).toInt64).toInt32))), .second, .val (.float (FP.i2f (mi.toInt32))), .val (.double (FP.i2d xa)), .second, .val (.double (FP.i2d xo)), .second, .val (.ref b32), .unset, .unset, .unset, .unset, .unset, .unset, .unset] [])) _
                have Q186 := ((((Q50.keep R52 (allS gn_b32 all0)).keep R58 (allS gn_b32 all0)).keep R63 (allS gn_b32 all0)).keep Kj1 (allS gn_b32 all0))
                have Q187 := Oem.ext Q186.2
                exact J243 _ _ _ (Xj1.mono (by decide) (by decide)) ej1 Nj1 (Keep.refl _ _) em 0 (fun q => absurd hc233 q) Cj1 (by rw [hc233]; exact Q187)
              · skip
                refine ownStep (fun _ k => XS.ifNo Xj1.here hx rfl (hb hby at_233) rfl ((if0 _ _).trans (feq (hc233 : ¬ f2 = (0 : Int32))).1) k) ?_
                refine ownStep (fun _ k => XS.aload Xj1.here hx rfl (hb hby at_236) rfl rfl k) ?_
                refine ownStep (fun _ k => XS.fload Xj1.here hx rfl (hb hby at_238) rfl k) ?_
                show ownGo p.tables e below (Tj1.setTop (mkF m 240 #[.val (.long t), .second, .val (.int xa), .val (.int xo), .val (.long ab), .second, .val (.long cd), .second, .val (.long mi), .second, .val (.int hiw), .val (.int f1), .val (.int f2), .val (.int f3), .val (.int f4), .val (.int f5), .val (.int c0), .val (.int c1), .val (.int c2), .val (.ref ov), .val (.ref b6), .val (.float (FP.i2f (ab.toInt32))), .val (.float (FP.i2f (((ab.toUInt64 >>> ((32 : Int32) &&& 0x3f).toInt64.toUInt64).toInt64).toInt32))), .val (.double (FP.i2d (cd.toInt32))), .second, .val (.double (FP.i2d (((cd.toUInt64 >>> ((32 : Int32) &&& 0x3f).toInt64.toUInt64).toInt64).toInt32))), .second, .val (.float (FP.i2f (mi.toInt32))), .val (.double (FP.i2d xa)), .second, .val (.double (FP.i2d xo)), .second, .val (.ref b32), .unset, .unset, .unset, .unset, .unset, .unset, .unset] [(.float (FP.i2f (((ab.toUInt64 >>> ((32 : Int32) &&& 0x3f).toInt64.toUInt64).toInt64).toInt32))), (.ref b32)])) _
                have Q188 := ((Q62.keep R63).keep Kj1)
                have Zs190 : n0 ≤ hj1.size := Nat.le_trans Z0 KP67.1
                obtain ⟨cq189, kq189, q189a, q189b, q189c⟩ := isOf hZ ej1 Q188
                obtain ⟨_, _, ⟨T189, L189, k189, n189⟩, -, X189, ⟨Lc189, hQ189, l189, y189, z189⟩, st189⟩ := Xj1.virtualBack hx (y := (⟨"com/example/fixd/fixd/client/Location", "setBearing", "(F)V"⟩ : MethodName)) (z := (⟨"com/example/fixd/fixd/client/Location", "setBearing", "(F)V"⟩ : MethodName)) hown (mvT hZ (hw _ ow365)) (mvT hZ (hw _ ow366)) (notFace_of_selects (args := #[]) (mvT hZ (hw _ ow368))) (mvT hZ (hw _ ow368)) (mvT hZ (hw _ ow367)) (by decide) (backOf (W := 0) (os_be l Z a0 hw [] b32 ov ot (FP.i2d xa) (FP.i2d xo) o1 em em em em ei (FP.i2f (((ab.toUInt64 >>> ((32 : Int32) &&& 0x3f).toInt64.toUInt64).toInt64).toInt32)) hj1 n0 Zs190 Q188 gn_b32 Cj1 (own_f2dn _)) hZ (hw _ ow369) (hw _ ow46) (by decide) (by decide)) q189a q189c (g := (mkF m 240 #[.val (.long t), .second, .val (.int xa), .val (.int xo), .val (.long ab), .second, .val (.long cd), .second, .val (.long mi), .second, .val (.int hiw), .val (.int f1), .val (.int f2), .val (.int f3), .val (.int f4), .val (.int f5), .val (.int c0), .val (.int c1), .val (.int c2), .val (.ref ov), .val (.ref b6), .val (.float (FP.i2f (ab.toInt32))), .val (.float (FP.i2f (((ab.toUInt64 >>> ((32 : Int32) &&& 0x3f).toInt64.toUInt64).toInt64).toInt32))), .val (.double (FP.i2d (cd.toInt32))), .second, .val (.double (FP.i2d (((cd.toUInt64 >>> ((32 : Int32) &&& 0x3f).toInt64.toUInt64).toInt64).toInt32))), .second, .val (.float (FP.i2f (mi.toInt32))), .val (.double (FP.i2d xa)), .second, .val (.double (FP.i2d xo)), .second, .val (.ref b32), .unset, .unset, .unset, .unset, .unset, .unset, .unset] [(.float (FP.i2f (((ab.toUInt64 >>> ((32 : Int32) &&& 0x3f).toInt64.toUInt64).toInt64).toInt32))), (.ref b32)])) rfl (by rw [hml]; rfl) (Steps.refl _) (argsL := [(.float (FP.i2f (((ab.toUInt64 >>> ((32 : Int32) &&& 0x3f).toInt64.toUInt64).toInt64).toInt32)))]) (rest := []) (lenOf own_law_pd13 rfl) rfl (by show 2 * 0 + _ ≤ _; exact Nat.le_of_eq rfl) (hb hby at_240) (fun _ _ => ⟨rfl, ej1, (by decide : 27 + 1 ≤ _), (by decide : 349 + 2 ≤ _)⟩)
                dsimp only [Pt.U, Pt.locs, Pt.cells, Pt.slots] at X189 l189 y189 z189 st189 hQ189
                obtain rfl : k189 = 28 := y189
                obtain rfl : n189 = 351 := z189
                obtain ⟨oo2, rfl, N189q, R189, P191, P192⟩ := hQ189
                have N189 : Fr n0 L189 := l189 ▸ Fr.app Nj1 N189q
                refine ownStep (fun _ k => st189.trans k) ?_
                have KP193 : Keep h0 T189.heap [] := KP67.trans R189 (allS (Or.inr gh_b32) all0)
                show ownGo p.tables e below (T189.setTop (mkF m 243 #[.val (.long t), .second, .val (.int xa), .val (.int xo), .val (.long ab), .second, .val (.long cd), .second, .val (.long mi), .second, .val (.int hiw), .val (.int f1), .val (.int f2), .val (.int f3), .val (.int f4), .val (.int f5), .val (.int c0), .val (.int c1), .val (.int c2), .val (.ref ov), .val (.ref b6), .val (.float (FP.i2f (ab.toInt32))), .val (.float (FP.i2f (((ab.toUInt64 >>> ((32 : Int32) &&& 0x3f).toInt64.toUInt64).toInt64).toInt32))), .val (.double (FP.i2d (cd.toInt32))), .second, .val (.double (FP.i2d (((cd.toUInt64 >>> ((32 : Int32) &&& 0x3f).toInt64.toUInt64).toInt64).toInt32))), .second, .val (.float (FP.i2f (mi.toInt32))), .val (.double (FP.i2d xa)), .second, .val (.double (FP.i2d xo)), .second, .val (.ref b32), .unset, .unset, .unset, .unset, .unset, .unset, .unset] [])) _
                exact J243 _ _ _ X189 rfl N189 R189 oo2 (FP.f2d (FP.i2f (((ab.toUInt64 >>> ((32 : Int32) &&& 0x3f).toInt64.toUInt64).toInt64).toInt32))) (fun _ => rfl) P191 (by rw [own_f1 bf2 hc233]; exact P192)
            refine ownStep (fun _ k => XS.iload X63.here hx rfl (hb hby at_219) rfl  k) ?_
            show ownGo p.tables e below (T63.setTop (mkF m 221 #[.val (.long t), .second, .val (.int xa), .val (.int xo), .val (.long ab), .second, .val (.long cd), .second, .val (.long mi), .second, .val (.int hiw), .val (.int f1), .val (.int f2), .val (.int f3), .val (.int f4), .val (.int f5), .val (.int c0), .val (.int c1), .val (.int c2), .val (.ref ov), .val (.ref b6), .val (.float (FP.i2f (ab.toInt32))), .val (.float (FP.i2f (((ab.toUInt64 >>> ((32 : Int32) &&& 0x3f).toInt64.toUInt64).toInt64).toInt32))), .val (.double (FP.i2d (cd.toInt32))), .second, .val (.double (FP.i2d (((cd.toUInt64 >>> ((32 : Int32) &&& 0x3f).toInt64.toUInt64).toInt64).toInt32))), .second, .val (.float (FP.i2f (mi.toInt32))), .val (.double (FP.i2d xa)), .second, .val (.double (FP.i2d xo)), .second, .val (.ref b32), .unset, .unset, .unset, .unset, .unset, .unset, .unset] [(.int f1)])) _
            by_cases hc221 : f1 = (0 : Int32)
            · skip
              refine ownStep (fun _ k => XS.ifYes X63.here hx rfl (pc0 := 221) (pc' := 231) rfl (hb hby at_221) rfl ((if0 _ _).trans (teq (hc221 : f1 = (0 : Int32))).1) (by decide) (by decide) k) ?_
              show ownGo p.tables e below (T63.setTop (mkF m 231 #[.val (.long t), .second, .val (.int xa), .val (.int xo), .val (.long ab), .second, .val (.long cd), .second, .val (.long mi), .second, .val (.int hiw), .val (.int f1), .val (.int f2), .val (.int f3), .val (.int f4), .val (.int f5), .val (.int c0), .val (.int c1), .val (.int c2), .val (.ref ov), .val (.ref b6), .val (.float (FP.i2f (ab.toInt32))), .val (.float (FP.i2f (((ab.toUInt64 >>> ((32 : Int32) &&& 0x3f).toInt64.toUInt64).toInt64).toInt32))), .val (.double (FP.i2d (cd.toInt32))), .second, .val (.double (FP.i2d (((cd.toUInt64 >>> ((32 : Int32) &&& 0x3f).toInt64.toUInt64).toInt64).toInt32))), .second, .val (.float (FP.i2f (mi.toInt32))), .val (.double (FP.i2d xa)), .second, .val (.double (FP.i2d xo)), .second, .val (.ref b32), .unset, .unset, .unset, .unset, .unset, .unset, .unset] [])) _
              have Q194 := (((Q50.keep R52 (allS gn_b32 all0)).keep R58 (allS gn_b32 all0)).keep R63 (allS gn_b32 all0))
              have Q195 := Oem.ext Q194.2
              exact J231 _ _ _ (X63.mono (by decide) (by decide)) rfl N63 (Keep.refl _ _) em 0 (fun q => absurd hc221 q) P65 (by rw [hc221]; exact Q195)
            · skip
              refine ownStep (fun _ k => XS.ifNo X63.here hx rfl (hb hby at_221) rfl ((if0 _ _).trans (feq (hc221 : ¬ f1 = (0 : Int32))).1) k) ?_
              refine ownStep (fun _ k => XS.aload X63.here hx rfl (hb hby at_224) rfl rfl k) ?_
              refine ownStep (fun _ k => XS.fload X63.here hx rfl (hb hby at_226) rfl k) ?_
              show ownGo p.tables e below (T63.setTop (mkF m 228 #[.val (.long t), .second, .val (.int xa), .val (.int xo), .val (.long ab), .second, .val (.long cd), .second, .val (.long mi), .second, .val (.int hiw), .val (.int f1), .val (.int f2), .val (.int f3), .val (.int f4), .val (.int f5), .val (.int c0), .val (.int c1), .val (.int c2), .val (.ref ov), .val (.ref b6), .val (.float (FP.i2f (ab.toInt32))), .val (.float (FP.i2f (((ab.toUInt64 >>> ((32 : Int32) &&& 0x3f).toInt64.toUInt64).toInt64).toInt32))), .val (.double (FP.i2d (cd.toInt32))), .second, .val (.double (FP.i2d (((cd.toUInt64 >>> ((32 : Int32) &&& 0x3f).toInt64.toUInt64).toInt64).toInt32))), .second, .val (.float (FP.i2f (mi.toInt32))), .val (.double (FP.i2d xa)), .second, .val (.double (FP.i2d xo)), .second, .val (.ref b32), .unset, .unset, .unset, .unset, .unset, .unset, .unset] [(.float (FP.i2f (ab.toInt32))), (.ref b32)])) _
              have Q196 := (Q62.keep R63)
              have Zs198 : n0 ≤ T63.heap.size := Nat.le_trans Z0 KP66.1
              obtain ⟨cq197, kq197, q197a, q197b, q197c⟩ := isOf hZ rfl Q196
              obtain ⟨_, _, ⟨T197, L197, k197, n197⟩, -, X197, ⟨Lc197, hQ197, l197, y197, z197⟩, st197⟩ := X63.virtualBack hx (y := (⟨"com/example/fixd/fixd/client/Location", "setSpeed", "(F)V"⟩ : MethodName)) (z := (⟨"com/example/fixd/fixd/client/Location", "setSpeed", "(F)V"⟩ : MethodName)) hown (mvT hZ (hw _ ow348)) (mvT hZ (hw _ ow349)) (notFace_of_selects (args := #[]) (mvT hZ (hw _ ow351))) (mvT hZ (hw _ ow351)) (mvT hZ (hw _ ow350)) (by decide) (backOf (W := 0) (os_sp l Z a0 hw [] b32 ov ot (FP.i2d xa) (FP.i2d xo) em em em em em ei (FP.i2f (ab.toInt32)) T63.heap n0 Zs198 Q196 gn_b32 P65 (own_f2dn _)) hZ (hw _ ow352) (hw _ ow46) (by decide) (by decide)) q197a q197c (g := (mkF m 228 #[.val (.long t), .second, .val (.int xa), .val (.int xo), .val (.long ab), .second, .val (.long cd), .second, .val (.long mi), .second, .val (.int hiw), .val (.int f1), .val (.int f2), .val (.int f3), .val (.int f4), .val (.int f5), .val (.int c0), .val (.int c1), .val (.int c2), .val (.ref ov), .val (.ref b6), .val (.float (FP.i2f (ab.toInt32))), .val (.float (FP.i2f (((ab.toUInt64 >>> ((32 : Int32) &&& 0x3f).toInt64.toUInt64).toInt64).toInt32))), .val (.double (FP.i2d (cd.toInt32))), .second, .val (.double (FP.i2d (((cd.toUInt64 >>> ((32 : Int32) &&& 0x3f).toInt64.toUInt64).toInt64).toInt32))), .second, .val (.float (FP.i2f (mi.toInt32))), .val (.double (FP.i2d xa)), .second, .val (.double (FP.i2d xo)), .second, .val (.ref b32), .unset, .unset, .unset, .unset, .unset, .unset, .unset] [(.float (FP.i2f (ab.toInt32))), (.ref b32)])) rfl (by rw [hml]; rfl) (Steps.refl _) (argsL := [(.float (FP.i2f (ab.toInt32)))]) (rest := []) (lenOf own_law_pd13 rfl) rfl (by show 2 * 0 + _ ≤ _; exact Nat.le_of_eq rfl) (hb hby at_228) (fun _ _ => ⟨rfl, rfl, (by decide : 26 + 1 ≤ _), (by decide : 347 + 2 ≤ _)⟩)
              dsimp only [Pt.U, Pt.locs, Pt.cells, Pt.slots] at X197 l197 y197 z197 st197 hQ197
              obtain rfl : k197 = 27 := y197
              obtain rfl : n197 = 349 := z197
              obtain ⟨oo1, rfl, N197q, R197, P199, P200⟩ := hQ197
              have N197 : Fr n0 L197 := l197 ▸ Fr.app N63 N197q
              refine ownStep (fun _ k => st197.trans k) ?_
              have KP201 : Keep h0 T197.heap [] := KP66.trans R197 (allS (Or.inr gh_b32) all0)
              show ownGo p.tables e below (T197.setTop (mkF m 231 #[.val (.long t), .second, .val (.int xa), .val (.int xo), .val (.long ab), .second, .val (.long cd), .second, .val (.long mi), .second, .val (.int hiw), .val (.int f1), .val (.int f2), .val (.int f3), .val (.int f4), .val (.int f5), .val (.int c0), .val (.int c1), .val (.int c2), .val (.ref ov), .val (.ref b6), .val (.float (FP.i2f (ab.toInt32))), .val (.float (FP.i2f (((ab.toUInt64 >>> ((32 : Int32) &&& 0x3f).toInt64.toUInt64).toInt64).toInt32))), .val (.double (FP.i2d (cd.toInt32))), .second, .val (.double (FP.i2d (((cd.toUInt64 >>> ((32 : Int32) &&& 0x3f).toInt64.toUInt64).toInt64).toInt32))), .second, .val (.float (FP.i2f (mi.toInt32))), .val (.double (FP.i2d xa)), .second, .val (.double (FP.i2d xo)), .second, .val (.ref b32), .unset, .unset, .unset, .unset, .unset, .unset, .unset] [])) _
              exact J231 _ _ _ X197 rfl N197 R197 oo1 (FP.f2d (FP.i2f (ab.toInt32))) (fun _ => rfl) P199 (by rw [own_f1 bf1 hc221]; exact P200)
          refine ownStep (fun _ k => XS.iload Xj.here hx rfl (hb hby at_65) rfl  k) ?_
          refine ownStep (fun _ k => XS.bipush Xj.here hx rfl (hb hby at_67) k) ?_
          refine ownStep (fun _ k => XS.iand Xj.here hx rfl (hb hby at_69) rfl k) ?_
          show ownGo p.tables e below (Tj.setTop (mkF m 70 #[.val (.long t), .second, .val (.int xa), .val (.int xo), .val (.long ab), .second, .val (.long cd), .second, .val (.long mi), .second, .val (.int hiw), .val (.int f1), .val (.int f2), .val (.int f3), .val (.int f4), .unset, .unset, .unset, .unset, .unset, .unset, .unset, .unset, .unset, .unset, .unset, .unset, .unset, .unset, .unset, .unset, .unset, .unset, .unset, .unset, .unset, .unset, .unset, .unset, .unset] [(.int (hiw &&& (16 : Int32)))])) _
          by_cases hc70 : (hiw &&& (16 : Int32)) = (0 : Int32)
          · skip
            refine ownStep (fun _ k => XS.ifYes Xj.here hx rfl (pc0 := 70) (pc' := 77) rfl (hb hby at_70) rfl ((if0 _ _).trans (teq (hc70 : (hiw &&& (16 : Int32)) = (0 : Int32))).1) (by decide) (by decide) k) ?_
            refine ownStep (fun _ k => XS.iconst Xj.here hx rfl (hb hby at_77) k) ?_
            refine ownStep (fun _ k => XS.istore Xj.here hx rfl (hb hby at_78) rfl (l' := #[.val (.long t), .second, .val (.int xa), .val (.int xo), .val (.long ab), .second, .val (.long cd), .second, .val (.long mi), .second, .val (.int hiw), .val (.int f1), .val (.int f2), .val (.int f3), .val (.int f4), .val (.int (0 : Int32)), .unset, .unset, .unset, .unset, .unset, .unset, .unset, .unset, .unset, .unset, .unset, .unset, .unset, .unset, .unset, .unset, .unset, .unset, .unset, .unset, .unset, .unset, .unset, .unset]) rfl k) ?_
            show ownGo p.tables e below (Tj.setTop (mkF m 80 #[.val (.long t), .second, .val (.int xa), .val (.int xo), .val (.long ab), .second, .val (.long cd), .second, .val (.long mi), .second, .val (.int hiw), .val (.int f1), .val (.int f2), .val (.int f3), .val (.int f4), .val (.int (0 : Int32)), .unset, .unset, .unset, .unset, .unset, .unset, .unset, .unset, .unset, .unset, .unset, .unset, .unset, .unset, .unset, .unset, .unset, .unset, .unset, .unset, .unset, .unset, .unset, .unset] [])) _
            exact J80 _ _ Xj ej Nj (0 : Int32) (Or.inl rfl)
          · skip
            refine ownStep (fun _ k => XS.ifNo Xj.here hx rfl (hb hby at_70) rfl ((if0 _ _).trans (feq (hc70 : ¬ (hiw &&& (16 : Int32)) = (0 : Int32))).1) k) ?_
            refine ownStep (fun _ k => XS.iconst Xj.here hx rfl (hb hby at_73) k) ?_
            refine ownStep (fun _ k => XS.goto Xj.here hx rfl (pc0 := 74) (pc' := 78) rfl (hb hby at_74) (by decide) (by decide) k) ?_
            refine ownStep (fun _ k => XS.istore Xj.here hx rfl (hb hby at_78) rfl (l' := #[.val (.long t), .second, .val (.int xa), .val (.int xo), .val (.long ab), .second, .val (.long cd), .second, .val (.long mi), .second, .val (.int hiw), .val (.int f1), .val (.int f2), .val (.int f3), .val (.int f4), .val (.int (1 : Int32)), .unset, .unset, .unset, .unset, .unset, .unset, .unset, .unset, .unset, .unset, .unset, .unset, .unset, .unset, .unset, .unset, .unset, .unset, .unset, .unset, .unset, .unset, .unset, .unset]) rfl k) ?_
            show ownGo p.tables e below (Tj.setTop (mkF m 80 #[.val (.long t), .second, .val (.int xa), .val (.int xo), .val (.long ab), .second, .val (.long cd), .second, .val (.long mi), .second, .val (.int hiw), .val (.int f1), .val (.int f2), .val (.int f3), .val (.int f4), .val (.int (1 : Int32)), .unset, .unset, .unset, .unset, .unset, .unset, .unset, .unset, .unset, .unset, .unset, .unset, .unset, .unset, .unset, .unset, .unset, .unset, .unset, .unset, .unset, .unset, .unset, .unset] [])) _
            exact J80 _ _ Xj ej Nj (1 : Int32) (Or.inr rfl)
        refine ownStep (fun _ k => XS.iload Xj.here hx rfl (hb hby at_50) rfl  k) ?_
        refine ownStep (fun _ k => XS.bipush Xj.here hx rfl (hb hby at_52) k) ?_
        refine ownStep (fun _ k => XS.iand Xj.here hx rfl (hb hby at_54) rfl k) ?_
        show ownGo p.tables e below (Tj.setTop (mkF m 55 #[.val (.long t), .second, .val (.int xa), .val (.int xo), .val (.long ab), .second, .val (.long cd), .second, .val (.long mi), .second, .val (.int hiw), .val (.int f1), .val (.int f2), .val (.int f3), .unset, .unset, .unset, .unset, .unset, .unset, .unset, .unset, .unset, .unset, .unset, .unset, .unset, .unset, .unset, .unset, .unset, .unset, .unset, .unset, .unset, .unset, .unset, .unset, .unset, .unset] [(.int (hiw &&& (8 : Int32)))])) _
        by_cases hc55 : (hiw &&& (8 : Int32)) = (0 : Int32)
        · skip
          refine ownStep (fun _ k => XS.ifYes Xj.here hx rfl (pc0 := 55) (pc' := 62) rfl (hb hby at_55) rfl ((if0 _ _).trans (teq (hc55 : (hiw &&& (8 : Int32)) = (0 : Int32))).1) (by decide) (by decide) k) ?_
          refine ownStep (fun _ k => XS.iconst Xj.here hx rfl (hb hby at_62) k) ?_
          refine ownStep (fun _ k => XS.istore Xj.here hx rfl (hb hby at_63) rfl (l' := #[.val (.long t), .second, .val (.int xa), .val (.int xo), .val (.long ab), .second, .val (.long cd), .second, .val (.long mi), .second, .val (.int hiw), .val (.int f1), .val (.int f2), .val (.int f3), .val (.int (0 : Int32)), .unset, .unset, .unset, .unset, .unset, .unset, .unset, .unset, .unset, .unset, .unset, .unset, .unset, .unset, .unset, .unset, .unset, .unset, .unset, .unset, .unset, .unset, .unset, .unset, .unset]) rfl k) ?_
          show ownGo p.tables e below (Tj.setTop (mkF m 65 #[.val (.long t), .second, .val (.int xa), .val (.int xo), .val (.long ab), .second, .val (.long cd), .second, .val (.long mi), .second, .val (.int hiw), .val (.int f1), .val (.int f2), .val (.int f3), .val (.int (0 : Int32)), .unset, .unset, .unset, .unset, .unset, .unset, .unset, .unset, .unset, .unset, .unset, .unset, .unset, .unset, .unset, .unset, .unset, .unset, .unset, .unset, .unset, .unset, .unset, .unset, .unset] [])) _
          exact J65 _ _ Xj ej Nj (0 : Int32) (Or.inl rfl)
        · skip
          refine ownStep (fun _ k => XS.ifNo Xj.here hx rfl (hb hby at_55) rfl ((if0 _ _).trans (feq (hc55 : ¬ (hiw &&& (8 : Int32)) = (0 : Int32))).1) k) ?_
          refine ownStep (fun _ k => XS.iconst Xj.here hx rfl (hb hby at_58) k) ?_
          refine ownStep (fun _ k => XS.goto Xj.here hx rfl (pc0 := 59) (pc' := 63) rfl (hb hby at_59) (by decide) (by decide) k) ?_
          refine ownStep (fun _ k => XS.istore Xj.here hx rfl (hb hby at_63) rfl (l' := #[.val (.long t), .second, .val (.int xa), .val (.int xo), .val (.long ab), .second, .val (.long cd), .second, .val (.long mi), .second, .val (.int hiw), .val (.int f1), .val (.int f2), .val (.int f3), .val (.int (1 : Int32)), .unset, .unset, .unset, .unset, .unset, .unset, .unset, .unset, .unset, .unset, .unset, .unset, .unset, .unset, .unset, .unset, .unset, .unset, .unset, .unset, .unset, .unset, .unset, .unset, .unset]) rfl k) ?_
          show ownGo p.tables e below (Tj.setTop (mkF m 65 #[.val (.long t), .second, .val (.int xa), .val (.int xo), .val (.long ab), .second, .val (.long cd), .second, .val (.long mi), .second, .val (.int hiw), .val (.int f1), .val (.int f2), .val (.int f3), .val (.int (1 : Int32)), .unset, .unset, .unset, .unset, .unset, .unset, .unset, .unset, .unset, .unset, .unset, .unset, .unset, .unset, .unset, .unset, .unset, .unset, .unset, .unset, .unset, .unset, .unset, .unset, .unset] [])) _
          exact J65 _ _ Xj ej Nj (1 : Int32) (Or.inr rfl)
      refine ownStep (fun _ k => XS.iload Xj.here hx rfl (hb hby at_36) rfl  k) ?_
      refine ownStep (fun _ k => XS.iconst Xj.here hx rfl (hb hby at_38) k) ?_
      refine ownStep (fun _ k => XS.iand Xj.here hx rfl (hb hby at_39) rfl k) ?_
      show ownGo p.tables e below (Tj.setTop (mkF m 40 #[.val (.long t), .second, .val (.int xa), .val (.int xo), .val (.long ab), .second, .val (.long cd), .second, .val (.long mi), .second, .val (.int hiw), .val (.int f1), .val (.int f2), .unset, .unset, .unset, .unset, .unset, .unset, .unset, .unset, .unset, .unset, .unset, .unset, .unset, .unset, .unset, .unset, .unset, .unset, .unset, .unset, .unset, .unset, .unset, .unset, .unset, .unset, .unset] [(.int (hiw &&& (4 : Int32)))])) _
      by_cases hc40 : (hiw &&& (4 : Int32)) = (0 : Int32)
      · skip
        refine ownStep (fun _ k => XS.ifYes Xj.here hx rfl (pc0 := 40) (pc' := 47) rfl (hb hby at_40) rfl ((if0 _ _).trans (teq (hc40 : (hiw &&& (4 : Int32)) = (0 : Int32))).1) (by decide) (by decide) k) ?_
        refine ownStep (fun _ k => XS.iconst Xj.here hx rfl (hb hby at_47) k) ?_
        refine ownStep (fun _ k => XS.istore Xj.here hx rfl (hb hby at_48) rfl (l' := #[.val (.long t), .second, .val (.int xa), .val (.int xo), .val (.long ab), .second, .val (.long cd), .second, .val (.long mi), .second, .val (.int hiw), .val (.int f1), .val (.int f2), .val (.int (0 : Int32)), .unset, .unset, .unset, .unset, .unset, .unset, .unset, .unset, .unset, .unset, .unset, .unset, .unset, .unset, .unset, .unset, .unset, .unset, .unset, .unset, .unset, .unset, .unset, .unset, .unset, .unset]) rfl k) ?_
        show ownGo p.tables e below (Tj.setTop (mkF m 50 #[.val (.long t), .second, .val (.int xa), .val (.int xo), .val (.long ab), .second, .val (.long cd), .second, .val (.long mi), .second, .val (.int hiw), .val (.int f1), .val (.int f2), .val (.int (0 : Int32)), .unset, .unset, .unset, .unset, .unset, .unset, .unset, .unset, .unset, .unset, .unset, .unset, .unset, .unset, .unset, .unset, .unset, .unset, .unset, .unset, .unset, .unset, .unset, .unset, .unset, .unset] [])) _
        exact J50 _ _ Xj ej Nj (0 : Int32) (Or.inl rfl)
      · skip
        refine ownStep (fun _ k => XS.ifNo Xj.here hx rfl (hb hby at_40) rfl ((if0 _ _).trans (feq (hc40 : ¬ (hiw &&& (4 : Int32)) = (0 : Int32))).1) k) ?_
        refine ownStep (fun _ k => XS.iconst Xj.here hx rfl (hb hby at_43) k) ?_
        refine ownStep (fun _ k => XS.goto Xj.here hx rfl (pc0 := 44) (pc' := 48) rfl (hb hby at_44) (by decide) (by decide) k) ?_
        refine ownStep (fun _ k => XS.istore Xj.here hx rfl (hb hby at_48) rfl (l' := #[.val (.long t), .second, .val (.int xa), .val (.int xo), .val (.long ab), .second, .val (.long cd), .second, .val (.long mi), .second, .val (.int hiw), .val (.int f1), .val (.int f2), .val (.int (1 : Int32)), .unset, .unset, .unset, .unset, .unset, .unset, .unset, .unset, .unset, .unset, .unset, .unset, .unset, .unset, .unset, .unset, .unset, .unset, .unset, .unset, .unset, .unset, .unset, .unset, .unset, .unset]) rfl k) ?_
        show ownGo p.tables e below (Tj.setTop (mkF m 50 #[.val (.long t), .second, .val (.int xa), .val (.int xo), .val (.long ab), .second, .val (.long cd), .second, .val (.long mi), .second, .val (.int hiw), .val (.int f1), .val (.int f2), .val (.int (1 : Int32)), .unset, .unset, .unset, .unset, .unset, .unset, .unset, .unset, .unset, .unset, .unset, .unset, .unset, .unset, .unset, .unset, .unset, .unset, .unset, .unset, .unset, .unset, .unset, .unset, .unset, .unset] [])) _
        exact J50 _ _ Xj ej Nj (1 : Int32) (Or.inr rfl)
    refine ownStep (fun _ k => XS.iload Xj.here hx rfl (hb hby at_22) rfl  k) ?_
    refine ownStep (fun _ k => XS.iconst Xj.here hx rfl (hb hby at_24) k) ?_
    refine ownStep (fun _ k => XS.iand Xj.here hx rfl (hb hby at_25) rfl k) ?_
    show ownGo p.tables e below (Tj.setTop (mkF m 26 #[.val (.long t), .second, .val (.int xa), .val (.int xo), .val (.long ab), .second, .val (.long cd), .second, .val (.long mi), .second, .val (.int hiw), .val (.int f1), .unset, .unset, .unset, .unset, .unset, .unset, .unset, .unset, .unset, .unset, .unset, .unset, .unset, .unset, .unset, .unset, .unset, .unset, .unset, .unset, .unset, .unset, .unset, .unset, .unset, .unset, .unset, .unset] [(.int (hiw &&& (2 : Int32)))])) _
    by_cases hc26 : (hiw &&& (2 : Int32)) = (0 : Int32)
    · skip
      refine ownStep (fun _ k => XS.ifYes Xj.here hx rfl (pc0 := 26) (pc' := 33) rfl (hb hby at_26) rfl ((if0 _ _).trans (teq (hc26 : (hiw &&& (2 : Int32)) = (0 : Int32))).1) (by decide) (by decide) k) ?_
      refine ownStep (fun _ k => XS.iconst Xj.here hx rfl (hb hby at_33) k) ?_
      refine ownStep (fun _ k => XS.istore Xj.here hx rfl (hb hby at_34) rfl (l' := #[.val (.long t), .second, .val (.int xa), .val (.int xo), .val (.long ab), .second, .val (.long cd), .second, .val (.long mi), .second, .val (.int hiw), .val (.int f1), .val (.int (0 : Int32)), .unset, .unset, .unset, .unset, .unset, .unset, .unset, .unset, .unset, .unset, .unset, .unset, .unset, .unset, .unset, .unset, .unset, .unset, .unset, .unset, .unset, .unset, .unset, .unset, .unset, .unset, .unset]) rfl k) ?_
      show ownGo p.tables e below (Tj.setTop (mkF m 36 #[.val (.long t), .second, .val (.int xa), .val (.int xo), .val (.long ab), .second, .val (.long cd), .second, .val (.long mi), .second, .val (.int hiw), .val (.int f1), .val (.int (0 : Int32)), .unset, .unset, .unset, .unset, .unset, .unset, .unset, .unset, .unset, .unset, .unset, .unset, .unset, .unset, .unset, .unset, .unset, .unset, .unset, .unset, .unset, .unset, .unset, .unset, .unset, .unset, .unset] [])) _
      exact J36 _ _ Xj ej Nj (0 : Int32) (Or.inl rfl)
    · skip
      refine ownStep (fun _ k => XS.ifNo Xj.here hx rfl (hb hby at_26) rfl ((if0 _ _).trans (feq (hc26 : ¬ (hiw &&& (2 : Int32)) = (0 : Int32))).1) k) ?_
      refine ownStep (fun _ k => XS.iconst Xj.here hx rfl (hb hby at_29) k) ?_
      refine ownStep (fun _ k => XS.goto Xj.here hx rfl (pc0 := 30) (pc' := 34) rfl (hb hby at_30) (by decide) (by decide) k) ?_
      refine ownStep (fun _ k => XS.istore Xj.here hx rfl (hb hby at_34) rfl (l' := #[.val (.long t), .second, .val (.int xa), .val (.int xo), .val (.long ab), .second, .val (.long cd), .second, .val (.long mi), .second, .val (.int hiw), .val (.int f1), .val (.int (1 : Int32)), .unset, .unset, .unset, .unset, .unset, .unset, .unset, .unset, .unset, .unset, .unset, .unset, .unset, .unset, .unset, .unset, .unset, .unset, .unset, .unset, .unset, .unset, .unset, .unset, .unset, .unset, .unset]) rfl k) ?_
      show ownGo p.tables e below (Tj.setTop (mkF m 36 #[.val (.long t), .second, .val (.int xa), .val (.int xo), .val (.long ab), .second, .val (.long cd), .second, .val (.long mi), .second, .val (.int hiw), .val (.int f1), .val (.int (1 : Int32)), .unset, .unset, .unset, .unset, .unset, .unset, .unset, .unset, .unset, .unset, .unset, .unset, .unset, .unset, .unset, .unset, .unset, .unset, .unset, .unset, .unset, .unset, .unset, .unset, .unset, .unset, .unset] [])) _
      exact J36 _ _ Xj ej Nj (1 : Int32) (Or.inr rfl)
  refine ownStep (fun _ k => XS.iload X0.here hx rfl (hb hby at_8) rfl  k) ?_
  refine ownStep (fun _ k => XS.iconst X0.here hx rfl (hb hby at_10) k) ?_
  refine ownStep (fun _ k => XS.iand X0.here hx rfl (hb hby at_11) rfl k) ?_
  show ownGo p.tables e below (s₁.setTop (mkF m 12 #[.val (.long t), .second, .val (.int xa), .val (.int xo), .val (.long ab), .second, .val (.long cd), .second, .val (.long mi), .second, .val (.int hiw), .unset, .unset, .unset, .unset, .unset, .unset, .unset, .unset, .unset, .unset, .unset, .unset, .unset, .unset, .unset, .unset, .unset, .unset, .unset, .unset, .unset, .unset, .unset, .unset, .unset, .unset, .unset, .unset, .unset] [(.int (hiw &&& (1 : Int32)))])) _
  by_cases hc12 : (hiw &&& (1 : Int32)) = (0 : Int32)
  · skip
    refine ownStep (fun _ k => XS.ifYes X0.here hx rfl (pc0 := 12) (pc' := 19) rfl (hb hby at_12) rfl ((if0 _ _).trans (teq (hc12 : (hiw &&& (1 : Int32)) = (0 : Int32))).1) (by decide) (by decide) k) ?_
    refine ownStep (fun _ k => XS.iconst X0.here hx rfl (hb hby at_19) k) ?_
    refine ownStep (fun _ k => XS.istore X0.here hx rfl (hb hby at_20) rfl (l' := #[.val (.long t), .second, .val (.int xa), .val (.int xo), .val (.long ab), .second, .val (.long cd), .second, .val (.long mi), .second, .val (.int hiw), .val (.int (0 : Int32)), .unset, .unset, .unset, .unset, .unset, .unset, .unset, .unset, .unset, .unset, .unset, .unset, .unset, .unset, .unset, .unset, .unset, .unset, .unset, .unset, .unset, .unset, .unset, .unset, .unset, .unset, .unset, .unset]) rfl k) ?_
    show ownGo p.tables e below (s₁.setTop (mkF m 22 #[.val (.long t), .second, .val (.int xa), .val (.int xo), .val (.long ab), .second, .val (.long cd), .second, .val (.long mi), .second, .val (.int hiw), .val (.int (0 : Int32)), .unset, .unset, .unset, .unset, .unset, .unset, .unset, .unset, .unset, .unset, .unset, .unset, .unset, .unset, .unset, .unset, .unset, .unset, .unset, .unset, .unset, .unset, .unset, .unset, .unset, .unset, .unset, .unset] [])) _
    exact J22 _ _ X0 e0 N0 (0 : Int32) (Or.inl rfl)
  · skip
    refine ownStep (fun _ k => XS.ifNo X0.here hx rfl (hb hby at_12) rfl ((if0 _ _).trans (feq (hc12 : ¬ (hiw &&& (1 : Int32)) = (0 : Int32))).1) k) ?_
    refine ownStep (fun _ k => XS.iconst X0.here hx rfl (hb hby at_15) k) ?_
    refine ownStep (fun _ k => XS.goto X0.here hx rfl (pc0 := 16) (pc' := 20) rfl (hb hby at_16) (by decide) (by decide) k) ?_
    refine ownStep (fun _ k => XS.istore X0.here hx rfl (hb hby at_20) rfl (l' := #[.val (.long t), .second, .val (.int xa), .val (.int xo), .val (.long ab), .second, .val (.long cd), .second, .val (.long mi), .second, .val (.int hiw), .val (.int (1 : Int32)), .unset, .unset, .unset, .unset, .unset, .unset, .unset, .unset, .unset, .unset, .unset, .unset, .unset, .unset, .unset, .unset, .unset, .unset, .unset, .unset, .unset, .unset, .unset, .unset, .unset, .unset, .unset, .unset]) rfl k) ?_
    show ownGo p.tables e below (s₁.setTop (mkF m 22 #[.val (.long t), .second, .val (.int xa), .val (.int xo), .val (.long ab), .second, .val (.long cd), .second, .val (.long mi), .second, .val (.int hiw), .val (.int (1 : Int32)), .unset, .unset, .unset, .unset, .unset, .unset, .unset, .unset, .unset, .unset, .unset, .unset, .unset, .unset, .unset, .unset, .unset, .unset, .unset, .unset, .unset, .unset, .unset, .unset, .unset, .unset, .unset, .unset] [])) _
    exact J22 _ _ X0 e0 N0 (1 : Int32) (Or.inr rfl)
set_option maxRecDepth 65536 in
set_option maxHeartbeats 40000000 in
theorem comes_1 {Post : Tables → Env → Array Value → State → Outcome → State → Prop} (hpost : ∀ tb e args s v u, (limb_1_1.after args s (.returned v) u = true ∧ limb_1_2.after args s (.returned v) u = true ∧ True) → ReturnedEndW s (.returned v) u (Jvm.fieldLocs frame_1_writes args s ++ Jvm.arrayLocs frame_1_arrays args s ++ Jvm.staticLocs frame_1_statics s) 56 9472 → Post tb e args s (.returned v) u) :
    ArmFor flags0 classFile x code maxLocals ret World_1 tables_1 room_1 Calls_1 rest_1 Pre_1 Post := by
  intro l hfl _ _ p e ha hc hk s m args below hf hA hF happ hP
  obtain ⟨hcalls, hrest, hpre⟩ := hP
  obtain ⟨-, -, -, hnamed, -, -, -, hat⟩ := (Spec.applies_iff hf).mp happ
  obtain ⟨hg, hn⟩ := and_e (Cond.before_iff.mp (show (Jvm.Cond.and given_1 narrow_1).before args s = true from hpre))
  obtain ⟨g1, g2⟩ := and_e hg
  obtain ⟨g3, g4⟩ := and_e g2
  obtain ⟨g5, g6⟩ := and_e g4
  obtain ⟨g7, g8⟩ := and_e g6
  obtain ⟨g9, g10⟩ := and_e g8
  obtain ⟨g11, g12⟩ := and_e g10
  obtain ⟨w0, w1, w2, w3, w4, w5, rfl⟩ : ∃ w0 w1 w2 w3 w4 w5 : Value, args = #[w0, w1, w2, w3, w4, w5] := by
    have hs : args.size = 6 := by simpa [Cond.value, given_1] using g1
    obtain ⟨L⟩ := args
    match L, hs with
    | [w0, w1, w2, w3, w4, w5], _ => exact ⟨w0, w1, w2, w3, w4, w5, rfl⟩
  have hw := fun d (hd : d ∈ tables_1) => atoms_spec (ws := Jvm.Cond.code x code maxLocals ret :: tables_1) hat d (List.mem_cons_of_mem _ hd)
  have hfit : Fit s := fun {y c} hc i hi => by
    obtain ⟨ha, rfl⟩ := Array.getElem?_eq_some_iff.mp hc
    have q := List.all_eq_true.mp ((Array.all_eq_true_iff_forall_mem.mp hF) _ (Array.getElem_mem ha)) i (List.mem_range.mpr hi)
    simpa [Array.getElem?_eq_getElem hi] using q
  obtain ⟨hsets, hown0⟩ := atoms_of _ (rest_1_c_eq ▸ (show rest_1_c.before _ s = true from hrest))
  have hr0 := Cond.before_iff.mp hown0
  obtain ⟨i0, ei0⟩ := isL_v g3
  obtain rfl : w0 = (.long i0) := Option.some.inj ei0
  obtain ⟨i1, ei1⟩ := is_v g5
  obtain rfl : w1 = (.int i1) := Option.some.inj ei1
  obtain ⟨i2, ei2⟩ := is_v g7
  obtain rfl : w2 = (.int i2) := Option.some.inj ei2
  obtain ⟨i3, ei3⟩ := isL_v g9
  obtain rfl : w3 = (.long i3) := Option.some.inj ei3
  obtain ⟨i4, ei4⟩ := isL_v g11
  obtain rfl : w4 = (.long i4) := Option.some.inj ei4
  obtain ⟨i5, ei5⟩ := isL_v g12
  obtain rfl : w5 = (.long i5) := Option.some.inj ei5
  obtain ⟨zc, ev_cs⟩ := is_v (Cond.before_iff.mp (hsets _ (List.mem_of_getElem? (i := 1) rfl)))
  have S_cs := Sta.start ev_cs (Or.inl (hsets _ (List.mem_of_getElem? (i := 0) rfl)))
  have hzc : ¬ zc = (0 : Int32) := gotF (Cond.eq_ints ev_cs rfl) (not_v (Cond.before_iff.mp (hsets _ (List.mem_of_getElem? (i := 2) rfl))))
  obtain ⟨w_ep, ev_ep⟩ := exa_v (Cond.before_iff.mp (hsets _ (List.mem_of_getElem? (i := 11) rfl)))
  have E_ep := Exa.start ev_ep (Cond.before_iff.mp (hsets _ (List.mem_of_getElem? (i := 11) rfl)))
  have S_ep := Sta.start ev_ep (Or.inl (hsets _ (List.mem_of_getElem? (i := 10) rfl)))
  obtain ⟨w_em, ev_em⟩ := exa_v (Cond.before_iff.mp (hsets _ (List.mem_of_getElem? (i := 16) rfl)))
  have E_em := Exa.start ev_em (Cond.before_iff.mp (hsets _ (List.mem_of_getElem? (i := 16) rfl)))
  have S_em := Sta.start ev_em (Or.inl (hsets _ (List.mem_of_getElem? (i := 15) rfl)))
  obtain ⟨w_ei, ev_ei⟩ := exa_v (Cond.before_iff.mp (hsets _ (List.mem_of_getElem? (i := 20) rfl)))
  have E_ei := Exa.start ev_ei (Cond.before_iff.mp (hsets _ (List.mem_of_getElem? (i := 20) rfl)))
  have S_ei := Sta.start ev_ei (Or.inl (hsets _ (List.mem_of_getElem? (i := 19) rfl)))
  have F_s := Fld.start ((fld_at ev_ep).symm.trans (own_eqJ (Cond.before_iff.mp (hsets _ (List.mem_of_getElem? (i := 12) rfl)))))
  have F_n := Fld.start ((fld_at ev_ep).symm.trans (own_eqI (Cond.before_iff.mp (hsets _ (List.mem_of_getElem? (i := 13) rfl)))))
  have F_p := Fld.start ((fld_at ev_em).symm.trans (own_eqI (Cond.before_iff.mp (hsets _ (List.mem_of_getElem? (i := 17) rfl)))))
  have T_ep : Tim s s.heap w_ep (0 : Int64) := ⟨E_ep, _, _, F_s, F_n, by constructor <;> decide⟩
  have O_em : Opt s s.heap w_em (0 : Int32) 0 := ⟨E_em, F_p, fun q => absurd rfl q⟩
  obtain ⟨n, o, h1, h2, h3, _, L, rfl, ⟨rfl, N, hrel⟩, hq⟩ := own_law l s _ hw tables_1 zc w_em w_ei w_ep i0 i1 i2 i3 i4 i5 s.heap s.heap.size (Nat.le_refl _) (Old.start s) S_cs hzc S_em O_em E_em S_ei E_ei S_ep T_ep E_ep p e ha hc hk s m _ below hf ((Spec.applies_iff_loose hf).mp happ).1 ⟨rfl, State.Warmed39.refl s, rfl⟩ trivial
  refine ⟨n, _, h1, h2, h3, hpost _ _ _ _ _ _ ⟨Cond.after_iff.mpr rfl, Cond.after_iff.mpr (eq_i res_at (Term.int_eval (1)) rfl), trivial⟩ ⟨hq.1, hq.2.1, hq.2.2.1, (hq.2.2.2.sift fun y hy => Or.inr (N y hy)).mono (by decide) (by decide)⟩⟩
theorem main_1_1 : Claimed_1_1 := comes_1 fun _ _ _ _ _ _ h hF => ⟨h.1, hF⟩
theorem main_1_2 : Claimed_1_2 := comes_1 fun _ _ _ _ _ _ h hF => ⟨h.2.1, hF⟩
end Jvm.Pilot.@@N@@
namespace Jvm.Pilot.@@N@@
open Jvm Jvm.ClassFile Sem Op Lib Jvm.Free Jvm.Stand Jvm.Pilot.@@N@@.Jvm.D
/-! MADE BY PROGRAM (witnessworld.py) out of the Statement's table words and the real class files: 30 classes; the members and pool entries that the words name. The judged class is class 1, her method 1. -/
namespace start1
open Jvm.ClassFile
def u (s : String) : CpInfo := .utf8 (stringToUtf16 s)
/-- a pool by its gaps: so many unusable entries, then the entry; so many at the end -/
def gap : Nat → List CpInfo → List CpInfo
  | 0, r => r
  | n + 1, r => .unusable :: gap n r
def poolList (es : List (Nat × CpInfo)) (last : Nat) : List CpInfo := es.foldr (fun e r => gap e.1 (e.2 :: r)) (gap last [])
def pool (es : List (Nat × CpInfo)) (last : Nat) : Array CpInfo := ⟨poolList es last⟩
def fileOf (pool : Array CpInfo) (this : Nat) (attrs : Array Attribute := #[]) (ms : Array MethodInfo := #[]) (fl : Nat := 33) (sup : Nat := 0) (ifs : Array Nat := #[]) (fds : Array FieldInfo := #[]) : ClassFile where
  minorVersion := 0
  majorVersion := 65
  constantPool := pool
  accessFlags := fl
  thisClass := this
  superClass := sup
  interfaces := ifs
  fields := fds
  methods := ms
  attributes := attrs
def plain (name : String) (sup : Option ClassId) : Class where
  name := name
  kind := .ordinary
  loader := none
  accessFlags := 33
  super := sup
  interfaces := #[]
  cf := none
  fields := #[]
  methods := #[]
  instanceTypes := #[]
  staticTypes := #[]
  resolved := #[]
  callSites := []
  init := .initialized
  statics := none
  mirror := none

def pool0 : Array CpInfo := pool [(5, u "<init>"), (0, u "()V"), (1, .class_ 10), (1, u "java/lang/Object")] 113

def k0c0 : Code := { maxStack := 0, maxLocals := 1, code := object_method_1_code, exceptionTable := #[], attributes := #[] }
def k0m0 : Method := { name := "<init>", desc := "()V", sig := { parameters := [], returnType := none }, accessFlags := 1, code := some k0c0 }
/-- java/lang/Object -/
def k0 : Class := { plain "java/lang/Object" none with
  accessFlags := 33
  interfaces := #[]
  cf := some (fileOf pool0 8 #[] #[{ accessFlags := 1, nameIndex := 5, descriptorIndex := 6, attributes := #[] }] 33 0 #[] #[])
  fields := #[]
  methods := #[k0m0]
  instanceTypes := #[]
  staticTypes := #[]
  resolved := Array.replicate 124 none
  statics := none }

def pool1 : Array CpInfo := pool [(2, .class_ 4), (1, u "java/lang/Object"), (0, u "<init>"), (0, u "()V"), (0, .methodref 8 9), (0, .class_ 10), (0, .nameAndType 11 12), (0, u "java/lang/String"), (0, u "valueOf"), (0, u "(C)Ljava/lang/String;"), (0, .methodref 8 14), (0, .nameAndType 5 15), (0, u "([C)V"), (0, .class_ 17), (0, u "com/example/fixd/fixd/client/Location"), (0, .methodref 16 19), (0, .nameAndType 5 20), (0, u "(Ljava/lang/String;)V"), (0, .methodref 16 22), (0, .nameAndType 23 24), (0, u "setTime"), (0, u "(J)V"), (0, .methodref 16 26), (0, .nameAndType 27 28), (0, u "setLatitude"), (0, u "(D)V"), (0, .methodref 16 30), (0, .nameAndType 31 28), (0, u "setLongitude"), (0, .methodref 16 33), (0, .nameAndType 34 35), (0, u "setSpeed"), (0, u "(F)V"), (0, .methodref 16 37), (0, .nameAndType 38 35), (0, u "setBearing"), (0, .methodref 16 40), (0, .nameAndType 41 28), (0, u "setAltitude"), (0, .methodref 16 43), (0, .nameAndType 44 28), (0, u "setMslAltitude"), (0, .methodref 16 46), (0, .nameAndType 47 35), (0, u "setAccuracy"), (0, .methodref 16 49), (0, .nameAndType 50 51), (0, u "fix"), (0, u "(Ljava/lang/String;)Lcom/example/fixd/fixd/location/Location;"), (0, .methodref 16 53), (0, .nameAndType 5 54), (0, u "(Lcom/example/fixd/fixd/location/Location;)V"), (0, .methodref 16 56), (0, .nameAndType 57 58), (0, u "getProvider"), (0, u "()Ljava/lang/String;"), (0, .methodref 8 60), (0, .nameAndType 61 62), (0, u "equals"), (0, u "(Ljava/lang/Object;)Z"), (0, .methodref 16 64), (0, .nameAndType 65 66), (0, u "getTime"), (0, u "()J"), (0, .methodref 16 68), (0, .nameAndType 69 70), (0, u "getLatitude"), (0, u "()D"), (0, .methodref 16 72), (0, .nameAndType 73 70), (0, u "getLongitude"), (0, .methodref 16 75), (0, .nameAndType 76 77), (0, u "hasSpeed"), (0, u "()Z"), (0, .methodref 16 79), (0, .nameAndType 80 81), (0, u "getSpeed"), (0, u "()F"), (0, .methodref 16 83), (0, .nameAndType 84 77), (0, u "hasBearing"), (0, .methodref 16 86), (0, .nameAndType 87 81), (0, u "getBearing"), (0, .methodref 16 89), (0, .nameAndType 90 77), (0, u "hasAltitude"), (0, .methodref 16 92), (0, .nameAndType 93 70), (0, u "getAltitude"), (0, .methodref 16 95), (0, .nameAndType 96 77), (0, u "hasMslAltitude"), (0, .methodref 16 98), (0, .nameAndType 99 70), (0, u "getMslAltitude"), (0, .methodref 16 101), (0, .nameAndType 102 77), (0, u "hasAccuracy"), (0, .methodref 16 104), (0, .nameAndType 105 81), (0, u "getAccuracy"), (0, .class_ 107), (0, u "com/example/fixd/fixd/client/LocationFixPinLaw"), (2, u "law"), (0, u "(JIIJJJ)Z")] 3

def k1m0 : Method := { name := "<init>", desc := "()V", sig := { parameters := [], returnType := none }, accessFlags := 1, code := none }
def k1c1 : Code := { maxStack := 6, maxLocals := 40, code := code, exceptionTable := #[], attributes := #[] }
def k1m1 : Method := { name := "law", desc := "(JIIJJJ)Z", sig := { parameters := [.long, .int, .int, .long, .long, .long], returnType := some .boolean }, accessFlags := 9, code := some k1c1 }
/-- com/example/fixd/fixd/client/LocationFixPinLaw -/
def k1 : Class := { plain "com/example/fixd/fixd/client/LocationFixPinLaw" (some 0) with
  accessFlags := 49
  interfaces := #[]
  cf := some (fileOf pool1 106 #[] #[{ accessFlags := 1, nameIndex := 5, descriptorIndex := 6, attributes := #[] }, { accessFlags := 9, nameIndex := 110, descriptorIndex := 111, attributes := #[] }] 49 2 #[] #[])
  fields := #[]
  methods := #[k1m0, k1m1]
  instanceTypes := #[]
  staticTypes := #[]
  resolved := Array.replicate 115 none
  statics := none }

def pool2 : Array CpInfo := pool [(1, .class_ 2), (0, u "java/io/Serializable"), (0, .class_ 4), (0, u "java/lang/Object")] 2

/-- java/io/Serializable -/
def k2 : Class := { plain "java/io/Serializable" (some 0) with
  accessFlags := 1537
  interfaces := #[]
  cf := some (fileOf pool2 1 #[] #[] 1537 3 #[] #[])
  fields := #[]
  methods := #[]
  instanceTypes := #[]
  staticTypes := #[]
  resolved := Array.replicate 7 none
  statics := none }

def pool3 : Array CpInfo := pool [(1, .class_ 2), (0, u "java/lang/Comparable"), (0, .class_ 4), (0, u "java/lang/Object")] 7

/-- java/lang/Comparable -/
def k3 : Class := { plain "java/lang/Comparable" (some 0) with
  accessFlags := 1537
  interfaces := #[]
  cf := some (fileOf pool3 1 #[] #[] 1537 3 #[] #[])
  fields := #[]
  methods := #[]
  instanceTypes := #[]
  staticTypes := #[]
  resolved := Array.replicate 12 none
  statics := none }

def pool4 : Array CpInfo := pool [(2, .class_ 4), (1, u "java/lang/CharSequence"), (42, .class_ 48), (0, u "java/lang/CharSequence$1CodePointIterator"), (10, .class_ 60), (0, u "java/lang/CharSequence$1CharIterator"), (5, .class_ 67), (0, u "java/lang/Object")] 63

/-- java/lang/CharSequence -/
def k4 : Class := { plain "java/lang/CharSequence" (some 0) with
  accessFlags := 1537
  interfaces := #[]
  cf := some (fileOf pool4 2 #[.nestMembers #[47, 59]] #[] 1537 66 #[] #[])
  fields := #[]
  methods := #[]
  instanceTypes := #[]
  staticTypes := #[]
  resolved := Array.replicate 131 none
  statics := none }

def pool5 : Array CpInfo := pool [(1, .class_ 2), (0, u "java/lang/constant/Constable"), (0, .class_ 4), (0, u "java/lang/Object")] 6

/-- java/lang/constant/Constable -/
def k5 : Class := { plain "java/lang/constant/Constable" (some 0) with
  accessFlags := 1537
  interfaces := #[]
  cf := some (fileOf pool5 1 #[] #[] 1537 3 #[] #[])
  fields := #[]
  methods := #[]
  instanceTypes := #[]
  staticTypes := #[]
  resolved := Array.replicate 11 none
  statics := none }

def pool6 : Array CpInfo := pool [(1, .class_ 2), (0, u "java/lang/constant/ConstantDesc"), (0, .class_ 4), (0, u "java/lang/Object")] 32

/-- java/lang/constant/ConstantDesc -/
def k6 : Class := { plain "java/lang/constant/ConstantDesc" (some 0) with
  accessFlags := 1537
  interfaces := #[]
  cf := some (fileOf pool6 1 #[] #[] 1537 3 #[] #[])
  fields := #[]
  methods := #[]
  instanceTypes := #[]
  staticTypes := #[]
  resolved := Array.replicate 37 none
  statics := none }

def pool7 : Array CpInfo := pool [(1, .methodref 2 3), (0, .class_ 4), (0, .nameAndType 5 6), (0, u "java/lang/Object"), (0, u "<init>"), (0, u "()V"), (2, .fieldref 10 11), (0, .class_ 12), (0, .nameAndType 13 14), (0, u "java/lang/String"), (0, u "value"), (0, u "[B"), (0, .fieldref 10 16), (0, .nameAndType 17 18), (0, u "coder"), (0, u "B"), (2, u "hash"), (0, u "I"), (2, u "hashIsZero"), (0, u "Z"), (0, .methodref 10 28), (0, .nameAndType 5 29), (0, u "([CIILjava/lang/Void;)V"), (8, .fieldref 10 39), (0, .nameAndType 40 26), (0, u "COMPACT_STRINGS"), (1, .class_ 44), (1, u "java/lang/StringUTF16"), (0, u "compress"), (1, .methodref 42 48), (0, .nameAndType 49 50), (0, u "coderFromArrayLen"), (0, u "([BI)B"), (2, u "toBytes"), (53, .class_ 109), (1, u "java/lang/StringLatin1"), (67, .methodref 42 178), (0, .nameAndType 45 179), (0, u "([CII)[B"), (29, .methodref 10 210), (0, .nameAndType 5 211), (0, u "([BB)V"), (157, u "(C)Z"), (173, u "equals"), (29, u "(Ljava/lang/Object;)Z"), (1, .class_ 576), (0, u "java/lang/CharSequence"), (22, u "CASE_INSENSITIVE_ORDER"), (0, u "Ljava/util/Comparator;"), (181, u "valueOf"), (0, u "(C)Ljava/lang/String;"), (226, u "([C)V"), (4, .methodref 107 1016), (0, .nameAndType 1017 369), (0, u "canEncode"), (0, .methodref 107 1019), (0, .nameAndType 53 1020), (0, u "(C)[B"), (80, u "serialPersistentFields"), (0, u "[Ljava/io/ObjectStreamField;"), (0, .class_ 1104), (0, u "java/lang/String$CaseInsensitiveComparator"), (1, .class_ 1107), (0, u "java/io/Serializable"), (0, .class_ 1109), (0, u "java/lang/Comparable"), (0, .class_ 1111), (0, u "java/lang/constant/Constable"), (0, .class_ 1113), (0, u "java/lang/constant/ConstantDesc"), (2, u "serialVersionUID"), (0, u "J"), (3, u "REPL"), (0, u "C"), (2, u "LATIN1"), (1, u "UTF16")] 323

def k7m0 : Method := { name := "<init>", desc := "()V", sig := { parameters := [], returnType := none }, accessFlags := 1, code := none }
def k7c1 : Code := { maxStack := 5, maxLocals := 2, code := jdk_42_method_3_code, exceptionTable := #[], attributes := #[] }
def k7m1 : Method := { name := "<init>", desc := "([C)V", sig := { parameters := [(.array .char)], returnType := none }, accessFlags := 1, code := some k7c1 }
def k7c2 : Code := { maxStack := 2, maxLocals := 3, code := jdk_42_method_66_code, exceptionTable := #[], attributes := #[] }
def k7m2 : Method := { name := "equals", desc := "(Ljava/lang/Object;)Z", sig := { parameters := [(.object "java/lang/Object")], returnType := some .boolean }, accessFlags := 1, code := some k7c2 }
def k7c3 : Code := { maxStack := 4, maxLocals := 1, code := jdk_42_method_139_code, exceptionTable := #[], attributes := #[] }
def k7m3 : Method := { name := "valueOf", desc := "(C)Ljava/lang/String;", sig := { parameters := [.char], returnType := some (.object "java/lang/String") }, accessFlags := 9, code := some k7c3 }
def k7c4 : Code := { maxStack := 4, maxLocals := 6, code := jdk_42_method_149_code, exceptionTable := #[], attributes := #[] }
def k7m4 : Method := { name := "<init>", desc := "([CIILjava/lang/Void;)V", sig := { parameters := [(.array .char), .int, .int, (.object "java/lang/Void")], returnType := none }, accessFlags := 2, code := some k7c4 }
def k7c5 : Code := { maxStack := 2, maxLocals := 3, code := jdk_42_method_151_code, exceptionTable := #[], attributes := #[] }
def k7m5 : Method := { name := "<init>", desc := "([BB)V", sig := { parameters := [(.array .byte), .byte], returnType := none }, accessFlags := 0, code := some k7c5 }
/-- java/lang/String -/
def k7 : Class := { plain "java/lang/String" (some 0) with
  accessFlags := 49
  interfaces := #[2, 3, 4, 5, 6]
  cf := some (fileOf pool7 10 #[.nestMembers #[1103]] #[{ accessFlags := 1, nameIndex := 5, descriptorIndex := 6, attributes := #[] }, { accessFlags := 1, nameIndex := 5, descriptorIndex := 1010, attributes := #[] }, { accessFlags := 1, nameIndex := 543, descriptorIndex := 573, attributes := #[] }, { accessFlags := 9, nameIndex := 782, descriptorIndex := 783, attributes := #[] }, { accessFlags := 2, nameIndex := 5, descriptorIndex := 29, attributes := #[] }, { accessFlags := 0, nameIndex := 5, descriptorIndex := 211, attributes := #[] }] 49 2 #[1106, 1108, 575, 1110, 1112] #[{ accessFlags := 18, nameIndex := 13, descriptorIndex := 14, attributes := #[] }, { accessFlags := 18, nameIndex := 17, descriptorIndex := 18, attributes := #[] }, { accessFlags := 2, nameIndex := 21, descriptorIndex := 22, attributes := #[] }, { accessFlags := 2, nameIndex := 25, descriptorIndex := 26, attributes := #[] }, { accessFlags := 26, nameIndex := 1116, descriptorIndex := 1117, attributes := #[] }, { accessFlags := 24, nameIndex := 40, descriptorIndex := 26, attributes := #[] }, { accessFlags := 26, nameIndex := 1101, descriptorIndex := 1102, attributes := #[] }, { accessFlags := 26, nameIndex := 1121, descriptorIndex := 1122, attributes := #[] }, { accessFlags := 25, nameIndex := 599, descriptorIndex := 600, attributes := #[] }, { accessFlags := 24, nameIndex := 1125, descriptorIndex := 18, attributes := #[] }, { accessFlags := 24, nameIndex := 1127, descriptorIndex := 18, attributes := #[] }])
  fields := #[{ name := "value", type := (.array .byte), accessFlags := 18, slot := 0, constantValue := 0 }, { name := "coder", type := .byte, accessFlags := 18, slot := 1, constantValue := 0 }, { name := "hash", type := .int, accessFlags := 2, slot := 2, constantValue := 0 }, { name := "hashIsZero", type := .boolean, accessFlags := 2, slot := 3, constantValue := 0 }, { name := "serialVersionUID", type := .long, accessFlags := 26, slot := 0, constantValue := 0 }, { name := "COMPACT_STRINGS", type := .boolean, accessFlags := 24, slot := 1, constantValue := 0 }, { name := "serialPersistentFields", type := (.array (.object "java/io/ObjectStreamField")), accessFlags := 26, slot := 2, constantValue := 0 }, { name := "REPL", type := .char, accessFlags := 26, slot := 3, constantValue := 0 }, { name := "CASE_INSENSITIVE_ORDER", type := (.object "java/util/Comparator"), accessFlags := 25, slot := 4, constantValue := 0 }, { name := "LATIN1", type := .byte, accessFlags := 24, slot := 5, constantValue := 0 }, { name := "UTF16", type := .byte, accessFlags := 24, slot := 6, constantValue := 0 }]
  methods := #[k7m0, k7m1, k7m2, k7m3, k7m4, k7m5]
  instanceTypes := #[(.array .byte), .byte, .int, .boolean]
  staticTypes := #[.long, .boolean, (.array (.object "java/io/ObjectStreamField")), .char, (.object "java/util/Comparator"), .byte, .byte]
  resolved := Array.replicate 1451 none
  statics := some 0 }

def pool8 : Array CpInfo := pool [(4, .class_ 6), (1, u "java/lang/Object"), (0, u "<init>"), (0, u "()V"), (5, .class_ 16), (1, u "java/lang/StringLatin1"), (73, u "canEncode"), (14, u "(C)Z"), (15, u "$assertionsDisabled"), (0, u "Z"), (98, .class_ 223), (1, u "java/lang/StringLatin1$LinesSpliterator"), (156, u "toBytes"), (1, u "(C)[B"), (7, .class_ 391), (0, u "java/lang/StringLatin1$CharsSpliterator")] 3

def k8m0 : Method := { name := "<init>", desc := "()V", sig := { parameters := [], returnType := none }, accessFlags := 0, code := none }
def k8c1 : Code := { maxStack := 2, maxLocals := 1, code := jdk_43_method_3_code, exceptionTable := #[], attributes := #[] }
def k8m1 : Method := { name := "canEncode", desc := "(C)Z", sig := { parameters := [.char], returnType := some .boolean }, accessFlags := 9, code := some k8c1 }
def k8c2 : Code := { maxStack := 4, maxLocals := 1, code := jdk_43_method_46_code, exceptionTable := #[], attributes := #[] }
def k8m2 : Method := { name := "toBytes", desc := "(C)[B", sig := { parameters := [.char], returnType := some (.array .byte) }, accessFlags := 9, code := some k8c2 }
/-- java/lang/StringLatin1 -/
def k8 : Class := { plain "java/lang/StringLatin1" (some 0) with
  accessFlags := 48
  interfaces := #[]
  cf := some (fileOf pool8 14 #[.nestMembers #[390, 221]] #[{ accessFlags := 0, nameIndex := 7, descriptorIndex := 8, attributes := #[] }, { accessFlags := 9, nameIndex := 90, descriptorIndex := 105, attributes := #[] }, { accessFlags := 9, nameIndex := 380, descriptorIndex := 382, attributes := #[] }] 48 4 #[] #[{ accessFlags := 4120, nameIndex := 121, descriptorIndex := 122, attributes := #[] }])
  fields := #[{ name := "$assertionsDisabled", type := .boolean, accessFlags := 4120, slot := 0, constantValue := 0 }]
  methods := #[k8m0, k8m1, k8m2]
  instanceTypes := #[]
  staticTypes := #[.boolean]
  resolved := Array.replicate 395 none
  statics := none }

def pool9 : Array CpInfo := pool [(6, .class_ 8), (1, u "java/lang/Object"), (0, u "<init>"), (0, u "()V"), (1, .class_ 14), (1, u "java/lang/StringUTF16"), (31, u "$assertionsDisabled"), (0, u "Z"), (13, u "HI_BYTE_SHIFT"), (0, u "I"), (2, u "LO_BYTE_SHIFT"), (49, .methodref 12 116), (0, .nameAndType 117 118), (0, u "compress"), (0, u "([CI[BII)I"), (3, u "([CII)[B"), (138, u "coderFromArrayLen"), (0, u "([BI)B"), (106, .class_ 371), (1, u "java/lang/StringUTF16$LinesSpliterator"), (58, u "MAX_LENGTH"), (196, .class_ 628), (0, u "java/lang/StringUTF16$CodePointsSpliterator"), (0, .class_ 630), (0, u "java/lang/StringUTF16$CharsSpliterator")] 4

def k9m0 : Method := { name := "<init>", desc := "()V", sig := { parameters := [], returnType := none }, accessFlags := 0, code := none }
def k9c1 : Code := { maxStack := 2, maxLocals := 2, code := jdk_52_method_15_code, exceptionTable := #[], attributes := #[] }
def k9m1 : Method := { name := "coderFromArrayLen", desc := "([BI)B", sig := { parameters := [(.array .byte), .int], returnType := some .byte }, accessFlags := 8, code := some k9c1 }
def k9c2 : Code := { maxStack := 5, maxLocals := 6, code := jdk_52_method_16_code, exceptionTable := #[], attributes := #[] }
def k9m2 : Method := { name := "compress", desc := "([CII)[B", sig := { parameters := [(.array .char), .int, .int], returnType := some (.array .byte) }, accessFlags := 9, code := some k9c2 }
def k9c3 : Code := { maxStack := 3, maxLocals := 7, code := jdk_52_method_21_code, exceptionTable := #[], attributes := #[] }
def k9m3 : Method := { name := "compress", desc := "([CI[BII)I", sig := { parameters := [(.array .char), .int, (.array .byte), .int, .int], returnType := some .int }, accessFlags := 9, code := some k9c3 }
/-- java/lang/StringUTF16 -/
def k9 : Class := { plain "java/lang/StringUTF16" (some 0) with
  accessFlags := 48
  interfaces := #[]
  cf := some (fileOf pool9 12 #[.nestMembers #[627, 629, 369]] #[{ accessFlags := 0, nameIndex := 9, descriptorIndex := 10, attributes := #[] }, { accessFlags := 8, nameIndex := 261, descriptorIndex := 262, attributes := #[] }, { accessFlags := 9, nameIndex := 117, descriptorIndex := 122, attributes := #[] }, { accessFlags := 9, nameIndex := 117, descriptorIndex := 118, attributes := #[] }] 48 6 #[] #[{ accessFlags := 26, nameIndex := 61, descriptorIndex := 62, attributes := #[] }, { accessFlags := 26, nameIndex := 65, descriptorIndex := 62, attributes := #[] }, { accessFlags := 24, nameIndex := 430, descriptorIndex := 62, attributes := #[] }, { accessFlags := 4120, nameIndex := 46, descriptorIndex := 47, attributes := #[] }])
  fields := #[{ name := "HI_BYTE_SHIFT", type := .int, accessFlags := 26, slot := 0, constantValue := 0 }, { name := "LO_BYTE_SHIFT", type := .int, accessFlags := 26, slot := 1, constantValue := 0 }, { name := "MAX_LENGTH", type := .int, accessFlags := 24, slot := 2, constantValue := 0 }, { name := "$assertionsDisabled", type := .boolean, accessFlags := 4120, slot := 3, constantValue := 0 }]
  methods := #[k9m0, k9m1, k9m2, k9m3]
  instanceTypes := #[]
  staticTypes := #[.int, .int, .int, .boolean]
  resolved := Array.replicate 635 none
  statics := none }

def pool10 : Array CpInfo := pool [(1, .class_ 2), (0, u "com/example/fixd/fixd/location/Location"), (0, .string 4), (0, u "provider"), (0, .methodref 6 7), (0, .class_ 8), (0, .nameAndType 9 10), (0, u "java/util/Objects"), (0, u "requireNonNull"), (0, u "(Ljava/lang/Object;Ljava/lang/String;)Ljava/lang/Object;"), (0, .class_ 12), (0, u "java/lang/String"), (0, .fieldref 14 15), (0, .class_ 16), (0, .nameAndType 17 18), (0, u "java/time/Instant"), (0, u "EPOCH"), (0, u "Ljava/time/Instant;"), (0, .methodref 20 21), (0, .class_ 22), (0, .nameAndType 23 24), (0, u "java/util/OptionalDouble"), (0, u "empty"), (0, u "()Ljava/util/OptionalDouble;"), (0, .methodref 1 26), (0, .nameAndType 27 28), (0, u "<init>"), (0, u "(Ljava/lang/String;Ljava/time/Instant;DDLjava/util/OptionalDouble;Ljava/util/OptionalDouble;)V"), (0, .methodref 30 31), (0, .class_ 32), (0, .nameAndType 27 33), (0, u "com/example/fixd/fixd/client/Location"), (0, u "(Lcom/example/fixd/fixd/location/Location;)V"), (0, .methodref 35 36), (0, .class_ 37), (0, .nameAndType 27 38), (0, u "java/lang/Object"), (0, u "()V"), (0, .methodref 1 40), (0, .nameAndType 4 41), (0, u "()Ljava/lang/String;"), (0, .fieldref 30 43), (0, .nameAndType 4 44), (0, u "Ljava/lang/String;"), (0, .methodref 1 46), (0, .nameAndType 47 48), (0, u "time"), (0, u "()Ljava/time/Instant;"), (0, .fieldref 30 50), (0, .nameAndType 47 18), (0, .methodref 1 52), (0, .nameAndType 53 54), (0, u "latitude"), (0, u "()D"), (0, .fieldref 30 56), (0, .nameAndType 53 57), (0, u "D"), (0, .methodref 1 59), (0, .nameAndType 60 54), (0, u "longitude"), (0, .fieldref 30 62), (0, .nameAndType 60 57), (0, .methodref 1 64), (0, .nameAndType 65 24), (0, u "speed"), (0, .fieldref 30 67), (0, .nameAndType 65 68), (0, u "Ljava/util/OptionalDouble;"), (0, .methodref 1 70), (0, .nameAndType 71 24), (0, u "bearing"), (0, .fieldref 30 73), (0, .nameAndType 71 68), (0, .methodref 1 75), (0, .nameAndType 76 24), (0, u "altitude"), (0, .fieldref 30 78), (0, .nameAndType 76 68), (0, .methodref 1 80), (0, .nameAndType 81 24), (0, u "mslAltitude"), (0, .fieldref 30 83), (0, .nameAndType 81 68), (0, .methodref 1 85), (0, .nameAndType 86 24), (0, u "accuracy"), (0, .fieldref 30 88), (0, .nameAndType 86 68), (0, .methodref 1 90), (0, .nameAndType 91 92), (0, u "satellites"), (0, u "()Ljava/util/OptionalInt;"), (0, .fieldref 30 94), (0, .nameAndType 91 95), (0, u "Ljava/util/OptionalInt;"), (0, .methodref 14 97), (0, .nameAndType 98 99), (0, u "toEpochMilli"), (0, u "()J"), (0, .methodref 14 101), (0, .nameAndType 102 103), (0, u "ofEpochMilli"), (0, u "(J)Ljava/time/Instant;"), (0, .methodref 20 105), (0, .nameAndType 106 107), (0, u "isPresent"), (0, u "()Z"), (0, .methodref 20 109), (0, .nameAndType 110 111), (0, u "orElse"), (0, u "(D)D"), (0, .methodref 20 113), (0, .nameAndType 114 115), (0, u "of"), (0, u "(D)Ljava/util/OptionalDouble;"), (2, u "fix"), (0, u "(Ljava/lang/String;)Lcom/example/fixd/fixd/location/Location;"), (4, .methodref 1 125), (0, .nameAndType 27 126), (0, u "(Ljava/lang/String;Ljava/time/Instant;DDLjava/util/OptionalDouble;Ljava/util/OptionalDouble;Ljava/util/OptionalDouble;Ljava/util/OptionalDouble;Ljava/util/OptionalDouble;Ljava/util/OptionalInt;)V"), (3, u "(Ljava/lang/String;)V"), (2, u "getProvider"), (0, u "getTime"), (0, u "setTime"), (0, u "(J)V"), (0, u "getLatitude"), (0, u "setLatitude"), (0, u "(D)V"), (0, u "getLongitude"), (0, u "setLongitude"), (0, u "hasAltitude"), (0, u "getAltitude"), (0, u "setAltitude"), (0, u "hasMslAltitude"), (0, u "getMslAltitude"), (0, u "setMslAltitude"), (0, u "hasSpeed"), (0, u "getSpeed"), (0, u "()F"), (0, u "setSpeed"), (0, u "(F)V"), (0, u "hasBearing"), (0, u "getBearing"), (0, u "setBearing"), (0, u "hasAccuracy"), (0, u "getAccuracy"), (0, u "setAccuracy")] 3

def k10c0 : Code := { maxStack := 11, maxLocals := 2, code := prog_5_method_1_code, exceptionTable := #[], attributes := #[] }
def k10m0 : Method := { name := "<init>", desc := "(Ljava/lang/String;)V", sig := { parameters := [(.object "java/lang/String")], returnType := none }, accessFlags := 1, code := some k10c0 }
def k10c1 : Code := { maxStack := 3, maxLocals := 2, code := prog_5_method_2_code, exceptionTable := #[], attributes := #[] }
def k10m1 : Method := { name := "<init>", desc := "(Lcom/example/fixd/fixd/location/Location;)V", sig := { parameters := [(.object "com/example/fixd/fixd/location/Location")], returnType := none }, accessFlags := 0, code := some k10c1 }
def k10c2 : Code := { maxStack := 1, maxLocals := 1, code := prog_5_method_3_code, exceptionTable := #[], attributes := #[] }
def k10m2 : Method := { name := "getProvider", desc := "()Ljava/lang/String;", sig := { parameters := [], returnType := some (.object "java/lang/String") }, accessFlags := 1, code := some k10c2 }
def k10c3 : Code := { maxStack := 2, maxLocals := 1, code := prog_5_method_4_code, exceptionTable := #[], attributes := #[] }
def k10m3 : Method := { name := "getTime", desc := "()J", sig := { parameters := [], returnType := some .long }, accessFlags := 1, code := some k10c3 }
def k10c4 : Code := { maxStack := 3, maxLocals := 3, code := prog_5_method_5_code, exceptionTable := #[], attributes := #[] }
def k10m4 : Method := { name := "setTime", desc := "(J)V", sig := { parameters := [.long], returnType := none }, accessFlags := 1, code := some k10c4 }
def k10c5 : Code := { maxStack := 2, maxLocals := 1, code := prog_5_method_6_code, exceptionTable := #[], attributes := #[] }
def k10m5 : Method := { name := "getLatitude", desc := "()D", sig := { parameters := [], returnType := some .double }, accessFlags := 1, code := some k10c5 }
def k10c6 : Code := { maxStack := 3, maxLocals := 3, code := prog_5_method_7_code, exceptionTable := #[], attributes := #[] }
def k10m6 : Method := { name := "setLatitude", desc := "(D)V", sig := { parameters := [.double], returnType := none }, accessFlags := 1, code := some k10c6 }
def k10c7 : Code := { maxStack := 2, maxLocals := 1, code := prog_5_method_8_code, exceptionTable := #[], attributes := #[] }
def k10m7 : Method := { name := "getLongitude", desc := "()D", sig := { parameters := [], returnType := some .double }, accessFlags := 1, code := some k10c7 }
def k10c8 : Code := { maxStack := 3, maxLocals := 3, code := prog_5_method_9_code, exceptionTable := #[], attributes := #[] }
def k10m8 : Method := { name := "setLongitude", desc := "(D)V", sig := { parameters := [.double], returnType := none }, accessFlags := 1, code := some k10c8 }
def k10c9 : Code := { maxStack := 1, maxLocals := 1, code := prog_5_method_10_code, exceptionTable := #[], attributes := #[] }
def k10m9 : Method := { name := "hasAltitude", desc := "()Z", sig := { parameters := [], returnType := some .boolean }, accessFlags := 1, code := some k10c9 }
def k10c10 : Code := { maxStack := 3, maxLocals := 1, code := prog_5_method_11_code, exceptionTable := #[], attributes := #[] }
def k10m10 : Method := { name := "getAltitude", desc := "()D", sig := { parameters := [], returnType := some .double }, accessFlags := 1, code := some k10c10 }
def k10c11 : Code := { maxStack := 3, maxLocals := 3, code := prog_5_method_12_code, exceptionTable := #[], attributes := #[] }
def k10m11 : Method := { name := "setAltitude", desc := "(D)V", sig := { parameters := [.double], returnType := none }, accessFlags := 1, code := some k10c11 }
def k10c12 : Code := { maxStack := 1, maxLocals := 1, code := prog_5_method_13_code, exceptionTable := #[], attributes := #[] }
def k10m12 : Method := { name := "hasMslAltitude", desc := "()Z", sig := { parameters := [], returnType := some .boolean }, accessFlags := 1, code := some k10c12 }
def k10c13 : Code := { maxStack := 3, maxLocals := 1, code := prog_5_method_14_code, exceptionTable := #[], attributes := #[] }
def k10m13 : Method := { name := "getMslAltitude", desc := "()D", sig := { parameters := [], returnType := some .double }, accessFlags := 1, code := some k10c13 }
def k10c14 : Code := { maxStack := 3, maxLocals := 3, code := prog_5_method_15_code, exceptionTable := #[], attributes := #[] }
def k10m14 : Method := { name := "setMslAltitude", desc := "(D)V", sig := { parameters := [.double], returnType := none }, accessFlags := 1, code := some k10c14 }
def k10c15 : Code := { maxStack := 1, maxLocals := 1, code := prog_5_method_16_code, exceptionTable := #[], attributes := #[] }
def k10m15 : Method := { name := "hasSpeed", desc := "()Z", sig := { parameters := [], returnType := some .boolean }, accessFlags := 1, code := some k10c15 }
def k10c16 : Code := { maxStack := 3, maxLocals := 1, code := prog_5_method_17_code, exceptionTable := #[], attributes := #[] }
def k10m16 : Method := { name := "getSpeed", desc := "()F", sig := { parameters := [], returnType := some .float }, accessFlags := 1, code := some k10c16 }
def k10c17 : Code := { maxStack := 3, maxLocals := 2, code := prog_5_method_18_code, exceptionTable := #[], attributes := #[] }
def k10m17 : Method := { name := "setSpeed", desc := "(F)V", sig := { parameters := [.float], returnType := none }, accessFlags := 1, code := some k10c17 }
def k10c18 : Code := { maxStack := 1, maxLocals := 1, code := prog_5_method_19_code, exceptionTable := #[], attributes := #[] }
def k10m18 : Method := { name := "hasBearing", desc := "()Z", sig := { parameters := [], returnType := some .boolean }, accessFlags := 1, code := some k10c18 }
def k10c19 : Code := { maxStack := 3, maxLocals := 1, code := prog_5_method_20_code, exceptionTable := #[], attributes := #[] }
def k10m19 : Method := { name := "getBearing", desc := "()F", sig := { parameters := [], returnType := some .float }, accessFlags := 1, code := some k10c19 }
def k10c20 : Code := { maxStack := 3, maxLocals := 2, code := prog_5_method_21_code, exceptionTable := #[], attributes := #[] }
def k10m20 : Method := { name := "setBearing", desc := "(F)V", sig := { parameters := [.float], returnType := none }, accessFlags := 1, code := some k10c20 }
def k10c21 : Code := { maxStack := 1, maxLocals := 1, code := prog_5_method_22_code, exceptionTable := #[], attributes := #[] }
def k10m21 : Method := { name := "hasAccuracy", desc := "()Z", sig := { parameters := [], returnType := some .boolean }, accessFlags := 1, code := some k10c21 }
def k10c22 : Code := { maxStack := 3, maxLocals := 1, code := prog_5_method_23_code, exceptionTable := #[], attributes := #[] }
def k10m22 : Method := { name := "getAccuracy", desc := "()F", sig := { parameters := [], returnType := some .float }, accessFlags := 1, code := some k10c22 }
def k10c23 : Code := { maxStack := 3, maxLocals := 2, code := prog_5_method_24_code, exceptionTable := #[], attributes := #[] }
def k10m23 : Method := { name := "setAccuracy", desc := "(F)V", sig := { parameters := [.float], returnType := none }, accessFlags := 1, code := some k10c23 }
def k10c24 : Code := { maxStack := 14, maxLocals := 2, code := prog_5_method_26_code, exceptionTable := #[], attributes := #[] }
def k10m24 : Method := { name := "fix", desc := "(Ljava/lang/String;)Lcom/example/fixd/fixd/location/Location;", sig := { parameters := [(.object "java/lang/String")], returnType := some (.object "com/example/fixd/fixd/location/Location") }, accessFlags := 0, code := some k10c24 }
/-- com/example/fixd/fixd/client/Location -/
def k10 : Class := { plain "com/example/fixd/fixd/client/Location" (some 0) with
  accessFlags := 33
  interfaces := #[]
  cf := some (fileOf pool10 30 #[] #[{ accessFlags := 1, nameIndex := 27, descriptorIndex := 130, attributes := #[] }, { accessFlags := 0, nameIndex := 27, descriptorIndex := 33, attributes := #[] }, { accessFlags := 1, nameIndex := 133, descriptorIndex := 41, attributes := #[] }, { accessFlags := 1, nameIndex := 134, descriptorIndex := 99, attributes := #[] }, { accessFlags := 1, nameIndex := 135, descriptorIndex := 136, attributes := #[] }, { accessFlags := 1, nameIndex := 137, descriptorIndex := 54, attributes := #[] }, { accessFlags := 1, nameIndex := 138, descriptorIndex := 139, attributes := #[] }, { accessFlags := 1, nameIndex := 140, descriptorIndex := 54, attributes := #[] }, { accessFlags := 1, nameIndex := 141, descriptorIndex := 139, attributes := #[] }, { accessFlags := 1, nameIndex := 142, descriptorIndex := 107, attributes := #[] }, { accessFlags := 1, nameIndex := 143, descriptorIndex := 54, attributes := #[] }, { accessFlags := 1, nameIndex := 144, descriptorIndex := 139, attributes := #[] }, { accessFlags := 1, nameIndex := 145, descriptorIndex := 107, attributes := #[] }, { accessFlags := 1, nameIndex := 146, descriptorIndex := 54, attributes := #[] }, { accessFlags := 1, nameIndex := 147, descriptorIndex := 139, attributes := #[] }, { accessFlags := 1, nameIndex := 148, descriptorIndex := 107, attributes := #[] }, { accessFlags := 1, nameIndex := 149, descriptorIndex := 150, attributes := #[] }, { accessFlags := 1, nameIndex := 151, descriptorIndex := 152, attributes := #[] }, { accessFlags := 1, nameIndex := 153, descriptorIndex := 107, attributes := #[] }, { accessFlags := 1, nameIndex := 154, descriptorIndex := 150, attributes := #[] }, { accessFlags := 1, nameIndex := 155, descriptorIndex := 152, attributes := #[] }, { accessFlags := 1, nameIndex := 156, descriptorIndex := 107, attributes := #[] }, { accessFlags := 1, nameIndex := 157, descriptorIndex := 150, attributes := #[] }, { accessFlags := 1, nameIndex := 158, descriptorIndex := 152, attributes := #[] }, { accessFlags := 0, nameIndex := 118, descriptorIndex := 119, attributes := #[] }] 33 35 #[] #[{ accessFlags := 18, nameIndex := 4, descriptorIndex := 44, attributes := #[] }, { accessFlags := 2, nameIndex := 47, descriptorIndex := 18, attributes := #[] }, { accessFlags := 2, nameIndex := 53, descriptorIndex := 57, attributes := #[] }, { accessFlags := 2, nameIndex := 60, descriptorIndex := 57, attributes := #[] }, { accessFlags := 2, nameIndex := 65, descriptorIndex := 68, attributes := #[] }, { accessFlags := 2, nameIndex := 71, descriptorIndex := 68, attributes := #[] }, { accessFlags := 2, nameIndex := 76, descriptorIndex := 68, attributes := #[] }, { accessFlags := 2, nameIndex := 81, descriptorIndex := 68, attributes := #[] }, { accessFlags := 2, nameIndex := 86, descriptorIndex := 68, attributes := #[] }, { accessFlags := 2, nameIndex := 91, descriptorIndex := 95, attributes := #[] }])
  fields := #[{ name := "provider", type := (.object "java/lang/String"), accessFlags := 18, slot := 0, constantValue := 0 }, { name := "time", type := (.object "java/time/Instant"), accessFlags := 2, slot := 1, constantValue := 0 }, { name := "latitude", type := .double, accessFlags := 2, slot := 2, constantValue := 0 }, { name := "longitude", type := .double, accessFlags := 2, slot := 3, constantValue := 0 }, { name := "speed", type := (.object "java/util/OptionalDouble"), accessFlags := 2, slot := 4, constantValue := 0 }, { name := "bearing", type := (.object "java/util/OptionalDouble"), accessFlags := 2, slot := 5, constantValue := 0 }, { name := "altitude", type := (.object "java/util/OptionalDouble"), accessFlags := 2, slot := 6, constantValue := 0 }, { name := "mslAltitude", type := (.object "java/util/OptionalDouble"), accessFlags := 2, slot := 7, constantValue := 0 }, { name := "accuracy", type := (.object "java/util/OptionalDouble"), accessFlags := 2, slot := 8, constantValue := 0 }, { name := "satellites", type := (.object "java/util/OptionalInt"), accessFlags := 2, slot := 9, constantValue := 0 }]
  methods := #[k10m0, k10m1, k10m2, k10m3, k10m4, k10m5, k10m6, k10m7, k10m8, k10m9, k10m10, k10m11, k10m12, k10m13, k10m14, k10m15, k10m16, k10m17, k10m18, k10m19, k10m20, k10m21, k10m22, k10m23, k10m24]
  instanceTypes := #[(.object "java/lang/String"), (.object "java/time/Instant"), .double, .double, (.object "java/util/OptionalDouble"), (.object "java/util/OptionalDouble"), (.object "java/util/OptionalDouble"), (.object "java/util/OptionalDouble"), (.object "java/util/OptionalDouble"), (.object "java/util/OptionalInt")]
  staticTypes := #[]
  resolved := Array.replicate 162 none
  statics := none }

def pool11 : Array CpInfo := pool [(1, .methodref 2 3), (0, .class_ 4), (0, .nameAndType 5 6), (0, u "java/lang/Object"), (0, u "<init>"), (0, u "()V"), (0, .class_ 8), (0, u "java/lang/Record")] 13

def k11c0 : Code := { maxStack := 1, maxLocals := 1, code := jdk_30_method_1_code, exceptionTable := #[], attributes := #[] }
def k11m0 : Method := { name := "<init>", desc := "()V", sig := { parameters := [], returnType := none }, accessFlags := 4, code := some k11c0 }
/-- java/lang/Record -/
def k11 : Class := { plain "java/lang/Record" (some 0) with
  accessFlags := 1057
  interfaces := #[]
  cf := some (fileOf pool11 7 #[] #[{ accessFlags := 4, nameIndex := 5, descriptorIndex := 6, attributes := #[] }] 1057 2 #[] #[])
  fields := #[]
  methods := #[k11m0]
  instanceTypes := #[]
  staticTypes := #[]
  resolved := Array.replicate 22 none
  statics := none }

def pool12 : Array CpInfo := pool [(1, .methodref 2 3), (0, .class_ 4), (0, .nameAndType 5 6), (0, u "java/lang/Record"), (0, u "<init>"), (0, u "()V"), (0, .string 8), (0, u "provider"), (0, .methodref 10 11), (0, .class_ 12), (0, .nameAndType 13 14), (0, u "java/util/Objects"), (0, u "requireNonNull"), (0, u "(Ljava/lang/Object;Ljava/lang/String;)Ljava/lang/Object;"), (0, .string 16), (0, u "time"), (0, .string 18), (0, u "speed"), (0, .string 20), (0, u "bearing"), (0, .string 22), (0, u "altitude"), (0, .string 24), (0, u "mslAltitude"), (0, .string 26), (0, u "accuracy"), (0, .string 28), (0, u "satellites"), (0, .fieldref 30 31), (0, .class_ 32), (0, .nameAndType 8 33), (0, u "com/example/fixd/fixd/location/Location"), (0, u "Ljava/lang/String;"), (0, .fieldref 30 35), (0, .nameAndType 16 36), (0, u "Ljava/time/Instant;"), (0, .fieldref 30 38), (0, .nameAndType 39 40), (0, u "latitude"), (0, u "D"), (0, .fieldref 30 42), (0, .nameAndType 43 40), (0, u "longitude"), (0, .fieldref 30 45), (0, .nameAndType 18 46), (0, u "Ljava/util/OptionalDouble;"), (0, .fieldref 30 48), (0, .nameAndType 20 46), (0, .fieldref 30 50), (0, .nameAndType 22 46), (0, .fieldref 30 52), (0, .nameAndType 24 46), (0, .fieldref 30 54), (0, .nameAndType 26 46), (0, .fieldref 30 56), (0, .nameAndType 28 57), (0, u "Ljava/util/OptionalInt;"), (0, .methodref 59 60), (0, .class_ 61), (0, .nameAndType 62 63), (0, u "java/util/OptionalDouble"), (0, u "empty"), (0, u "()Ljava/util/OptionalDouble;"), (0, .methodref 65 66), (0, .class_ 67), (0, .nameAndType 62 68), (0, u "java/util/OptionalInt"), (0, u "()Ljava/util/OptionalInt;"), (0, .methodref 30 70), (0, .nameAndType 5 71), (0, u "(Ljava/lang/String;Ljava/time/Instant;DDLjava/util/OptionalDouble;Ljava/util/OptionalDouble;Ljava/util/OptionalDouble;Ljava/util/OptionalDouble;Ljava/util/OptionalDouble;Ljava/util/OptionalInt;)V"), (21, u "(Ljava/lang/String;Ljava/time/Instant;DDLjava/util/OptionalDouble;Ljava/util/OptionalDouble;)V"), (2, u "()Ljava/lang/String;"), (2, u "()Ljava/time/Instant;"), (0, u "()D")] 29

def k12c0 : Code := { maxStack := 3, maxLocals := 13, code := prog_17_method_1_code, exceptionTable := #[], attributes := #[] }
def k12m0 : Method := { name := "<init>", desc := "(Ljava/lang/String;Ljava/time/Instant;DDLjava/util/OptionalDouble;Ljava/util/OptionalDouble;Ljava/util/OptionalDouble;Ljava/util/OptionalDouble;Ljava/util/OptionalDouble;Ljava/util/OptionalInt;)V", sig := { parameters := [(.object "java/lang/String"), (.object "java/time/Instant"), .double, .double, (.object "java/util/OptionalDouble"), (.object "java/util/OptionalDouble"), (.object "java/util/OptionalDouble"), (.object "java/util/OptionalDouble"), (.object "java/util/OptionalDouble"), (.object "java/util/OptionalInt")], returnType := none }, accessFlags := 1, code := some k12c0 }
def k12c1 : Code := { maxStack := 13, maxLocals := 9, code := prog_17_method_2_code, exceptionTable := #[], attributes := #[] }
def k12m1 : Method := { name := "<init>", desc := "(Ljava/lang/String;Ljava/time/Instant;DDLjava/util/OptionalDouble;Ljava/util/OptionalDouble;)V", sig := { parameters := [(.object "java/lang/String"), (.object "java/time/Instant"), .double, .double, (.object "java/util/OptionalDouble"), (.object "java/util/OptionalDouble")], returnType := none }, accessFlags := 1, code := some k12c1 }
def k12c2 : Code := { maxStack := 1, maxLocals := 1, code := prog_17_method_7_code, exceptionTable := #[], attributes := #[] }
def k12m2 : Method := { name := "provider", desc := "()Ljava/lang/String;", sig := { parameters := [], returnType := some (.object "java/lang/String") }, accessFlags := 1, code := some k12c2 }
def k12c3 : Code := { maxStack := 1, maxLocals := 1, code := prog_17_method_8_code, exceptionTable := #[], attributes := #[] }
def k12m3 : Method := { name := "time", desc := "()Ljava/time/Instant;", sig := { parameters := [], returnType := some (.object "java/time/Instant") }, accessFlags := 1, code := some k12c3 }
def k12c4 : Code := { maxStack := 2, maxLocals := 1, code := prog_17_method_9_code, exceptionTable := #[], attributes := #[] }
def k12m4 : Method := { name := "latitude", desc := "()D", sig := { parameters := [], returnType := some .double }, accessFlags := 1, code := some k12c4 }
def k12c5 : Code := { maxStack := 2, maxLocals := 1, code := prog_17_method_10_code, exceptionTable := #[], attributes := #[] }
def k12m5 : Method := { name := "longitude", desc := "()D", sig := { parameters := [], returnType := some .double }, accessFlags := 1, code := some k12c5 }
def k12c6 : Code := { maxStack := 1, maxLocals := 1, code := prog_17_method_11_code, exceptionTable := #[], attributes := #[] }
def k12m6 : Method := { name := "speed", desc := "()Ljava/util/OptionalDouble;", sig := { parameters := [], returnType := some (.object "java/util/OptionalDouble") }, accessFlags := 1, code := some k12c6 }
def k12c7 : Code := { maxStack := 1, maxLocals := 1, code := prog_17_method_12_code, exceptionTable := #[], attributes := #[] }
def k12m7 : Method := { name := "bearing", desc := "()Ljava/util/OptionalDouble;", sig := { parameters := [], returnType := some (.object "java/util/OptionalDouble") }, accessFlags := 1, code := some k12c7 }
def k12c8 : Code := { maxStack := 1, maxLocals := 1, code := prog_17_method_13_code, exceptionTable := #[], attributes := #[] }
def k12m8 : Method := { name := "altitude", desc := "()Ljava/util/OptionalDouble;", sig := { parameters := [], returnType := some (.object "java/util/OptionalDouble") }, accessFlags := 1, code := some k12c8 }
def k12c9 : Code := { maxStack := 1, maxLocals := 1, code := prog_17_method_14_code, exceptionTable := #[], attributes := #[] }
def k12m9 : Method := { name := "mslAltitude", desc := "()Ljava/util/OptionalDouble;", sig := { parameters := [], returnType := some (.object "java/util/OptionalDouble") }, accessFlags := 1, code := some k12c9 }
def k12c10 : Code := { maxStack := 1, maxLocals := 1, code := prog_17_method_15_code, exceptionTable := #[], attributes := #[] }
def k12m10 : Method := { name := "accuracy", desc := "()Ljava/util/OptionalDouble;", sig := { parameters := [], returnType := some (.object "java/util/OptionalDouble") }, accessFlags := 1, code := some k12c10 }
def k12c11 : Code := { maxStack := 1, maxLocals := 1, code := prog_17_method_16_code, exceptionTable := #[], attributes := #[] }
def k12m11 : Method := { name := "satellites", desc := "()Ljava/util/OptionalInt;", sig := { parameters := [], returnType := some (.object "java/util/OptionalInt") }, accessFlags := 1, code := some k12c11 }
/-- com/example/fixd/fixd/location/Location -/
def k12 : Class := { plain "com/example/fixd/fixd/location/Location" (some 11) with
  accessFlags := 49
  interfaces := #[]
  cf := some (fileOf pool12 30 #[] #[{ accessFlags := 1, nameIndex := 5, descriptorIndex := 71, attributes := #[] }, { accessFlags := 1, nameIndex := 5, descriptorIndex := 93, attributes := #[] }, { accessFlags := 1, nameIndex := 8, descriptorIndex := 96, attributes := #[] }, { accessFlags := 1, nameIndex := 16, descriptorIndex := 99, attributes := #[] }, { accessFlags := 1, nameIndex := 39, descriptorIndex := 100, attributes := #[] }, { accessFlags := 1, nameIndex := 43, descriptorIndex := 100, attributes := #[] }, { accessFlags := 1, nameIndex := 18, descriptorIndex := 63, attributes := #[] }, { accessFlags := 1, nameIndex := 20, descriptorIndex := 63, attributes := #[] }, { accessFlags := 1, nameIndex := 22, descriptorIndex := 63, attributes := #[] }, { accessFlags := 1, nameIndex := 24, descriptorIndex := 63, attributes := #[] }, { accessFlags := 1, nameIndex := 26, descriptorIndex := 63, attributes := #[] }, { accessFlags := 1, nameIndex := 28, descriptorIndex := 68, attributes := #[] }] 49 2 #[] #[{ accessFlags := 18, nameIndex := 8, descriptorIndex := 33, attributes := #[] }, { accessFlags := 18, nameIndex := 16, descriptorIndex := 36, attributes := #[] }, { accessFlags := 18, nameIndex := 39, descriptorIndex := 40, attributes := #[] }, { accessFlags := 18, nameIndex := 43, descriptorIndex := 40, attributes := #[] }, { accessFlags := 18, nameIndex := 18, descriptorIndex := 46, attributes := #[] }, { accessFlags := 18, nameIndex := 20, descriptorIndex := 46, attributes := #[] }, { accessFlags := 18, nameIndex := 22, descriptorIndex := 46, attributes := #[] }, { accessFlags := 18, nameIndex := 24, descriptorIndex := 46, attributes := #[] }, { accessFlags := 18, nameIndex := 26, descriptorIndex := 46, attributes := #[] }, { accessFlags := 18, nameIndex := 28, descriptorIndex := 57, attributes := #[] }])
  fields := #[{ name := "provider", type := (.object "java/lang/String"), accessFlags := 18, slot := 0, constantValue := 0 }, { name := "time", type := (.object "java/time/Instant"), accessFlags := 18, slot := 1, constantValue := 0 }, { name := "latitude", type := .double, accessFlags := 18, slot := 2, constantValue := 0 }, { name := "longitude", type := .double, accessFlags := 18, slot := 3, constantValue := 0 }, { name := "speed", type := (.object "java/util/OptionalDouble"), accessFlags := 18, slot := 4, constantValue := 0 }, { name := "bearing", type := (.object "java/util/OptionalDouble"), accessFlags := 18, slot := 5, constantValue := 0 }, { name := "altitude", type := (.object "java/util/OptionalDouble"), accessFlags := 18, slot := 6, constantValue := 0 }, { name := "mslAltitude", type := (.object "java/util/OptionalDouble"), accessFlags := 18, slot := 7, constantValue := 0 }, { name := "accuracy", type := (.object "java/util/OptionalDouble"), accessFlags := 18, slot := 8, constantValue := 0 }, { name := "satellites", type := (.object "java/util/OptionalInt"), accessFlags := 18, slot := 9, constantValue := 0 }]
  methods := #[k12m0, k12m1, k12m2, k12m3, k12m4, k12m5, k12m6, k12m7, k12m8, k12m9, k12m10, k12m11]
  instanceTypes := #[(.object "java/lang/String"), (.object "java/time/Instant"), .double, .double, (.object "java/util/OptionalDouble"), (.object "java/util/OptionalDouble"), (.object "java/util/OptionalDouble"), (.object "java/util/OptionalDouble"), (.object "java/util/OptionalDouble"), (.object "java/util/OptionalInt")]
  staticTypes := #[]
  resolved := Array.replicate 130 none
  statics := none }

def pool13 : Array CpInfo := pool [(2, .class_ 4), (1, u "java/lang/Object"), (0, u "<init>"), (0, u "()V"), (35, .class_ 44), (1, u "java/util/Objects"), (0, u "requireNonNull"), (48, u "(Ljava/lang/Object;Ljava/lang/String;)Ljava/lang/Object;")] 89

def k13m0 : Method := { name := "<init>", desc := "()V", sig := { parameters := [], returnType := none }, accessFlags := 2, code := none }
def k13c1 : Code := { maxStack := 3, maxLocals := 2, code := jdk_31_method_11_code, exceptionTable := #[], attributes := #[] }
def k13m1 : Method := { name := "requireNonNull", desc := "(Ljava/lang/Object;Ljava/lang/String;)Ljava/lang/Object;", sig := { parameters := [(.object "java/lang/Object"), (.object "java/lang/String")], returnType := some (.object "java/lang/Object") }, accessFlags := 9, code := some k13c1 }
/-- java/util/Objects -/
def k13 : Class := { plain "java/util/Objects" (some 0) with
  accessFlags := 49
  interfaces := #[]
  cf := some (fileOf pool13 42 #[] #[{ accessFlags := 2, nameIndex := 5, descriptorIndex := 6, attributes := #[] }, { accessFlags := 9, nameIndex := 45, descriptorIndex := 94, attributes := #[] }] 49 2 #[] #[])
  fields := #[]
  methods := #[k13m0, k13m1]
  instanceTypes := #[]
  staticTypes := #[]
  resolved := Array.replicate 184 none
  statics := none }

def pool14 : Array CpInfo := pool [(4, .class_ 6), (1, u "java/time/temporal/TemporalAccessor"), (95, .class_ 103), (0, u "java/lang/Object")] 21

/-- java/time/temporal/TemporalAccessor -/
def k14 : Class := { plain "java/time/temporal/TemporalAccessor" (some 0) with
  accessFlags := 1537
  interfaces := #[]
  cf := some (fileOf pool14 4 #[] #[] 1537 102 #[] #[])
  fields := #[]
  methods := #[]
  instanceTypes := #[]
  staticTypes := #[]
  resolved := Array.replicate 125 none
  statics := none }

def pool15 : Array CpInfo := pool [(22, .class_ 24), (1, u "java/time/temporal/Temporal"), (2, .class_ 28), (0, u "java/lang/Object"), (0, .class_ 30), (0, u "java/time/temporal/TemporalAccessor")] 25

/-- java/time/temporal/Temporal -/
def k15 : Class := { plain "java/time/temporal/Temporal" (some 0) with
  accessFlags := 1537
  interfaces := #[14]
  cf := some (fileOf pool15 22 #[] #[] 1537 27 #[29] #[])
  fields := #[]
  methods := #[]
  instanceTypes := #[]
  staticTypes := #[]
  resolved := Array.replicate 56 none
  statics := none }

def pool16 : Array CpInfo := pool [(1, .class_ 2), (0, u "java/time/temporal/TemporalAdjuster"), (0, .class_ 4), (0, u "java/lang/Object")] 6

/-- java/time/temporal/TemporalAdjuster -/
def k16 : Class := { plain "java/time/temporal/TemporalAdjuster" (some 0) with
  accessFlags := 1537
  interfaces := #[]
  cf := some (fileOf pool16 1 #[] #[] 1537 3 #[] #[])
  fields := #[]
  methods := #[]
  instanceTypes := #[]
  staticTypes := #[]
  resolved := Array.replicate 11 none
  statics := none }

def pool17 : Array CpInfo := pool [(20, .methodref 21 22), (0, .class_ 23), (0, .nameAndType 24 25), (0, u "java/time/Instant"), (0, u "create"), (0, u "(JI)Ljava/time/Instant;"), (3, .class_ 31), (1, u "java/lang/Math"), (0, u "floorDiv"), (0, u "(JJ)J"), (0, .methodref 29 35), (0, .nameAndType 36 33), (0, u "addExact"), (2, u "floorMod"), (0, .methodref 29 41), (0, .nameAndType 32 42), (0, u "(JI)J"), (0, .methodref 29 44), (0, .nameAndType 39 45), (0, u "(JI)I"), (0, .integer 1000000), (30, .nameAndType 78 79), (0, u "<init>"), (0, u "()V"), (41, .fieldref 21 122), (0, .nameAndType 123 124), (0, u "EPOCH"), (0, u "Ljava/time/Instant;"), (0, .long 18415187059542332416), (1, .long 31556889864403199), (6, .methodref 21 135), (0, .nameAndType 78 136), (0, u "(JI)V"), (0, .methodref 138 77), (0, .class_ 139), (0, u "java/lang/Object"), (0, .fieldref 21 141), (0, .nameAndType 142 143), (0, u "seconds"), (0, u "J"), (0, .fieldref 21 145), (0, .nameAndType 146 147), (0, u "nanos"), (0, u "I"), (28, .class_ 178), (1, u "java/time/temporal/Temporal"), (3, .class_ 184), (1, u "java/time/Instant$1"), (23, .class_ 210), (1, u "java/time/temporal/TemporalAdjuster"), (21, u "()J"), (14, u "(J)Ljava/time/Instant;"), (22, .methodref 29 271), (0, .nameAndType 272 42), (0, u "multiplyExact"), (150, u "MIN"), (4, u "MAX"), (0, .class_ 430), (0, u "java/lang/Comparable"), (0, .class_ 432), (0, u "java/io/Serializable"), (0, u "MIN_SECOND"), (1, u "MAX_SECOND"), (0, u "serialVersionUID"), (12, u "ofEpochMilli"), (70, u "toEpochMilli")] 58

def k17c0 : Code := { maxStack := 4, maxLocals := 5, code := jdk_2320_method_5_code, exceptionTable := #[], attributes := #[] }
def k17m0 : Method := { name := "ofEpochMilli", desc := "(J)Ljava/time/Instant;", sig := { parameters := [.long], returnType := some (.object "java/time/Instant") }, accessFlags := 9, code := some k17c0 }
def k17c1 : Code := { maxStack := 5, maxLocals := 3, code := jdk_2320_method_8_code, exceptionTable := #[], attributes := #[] }
def k17m1 : Method := { name := "create", desc := "(JI)Ljava/time/Instant;", sig := { parameters := [.long, .int], returnType := some (.object "java/time/Instant") }, accessFlags := 10, code := some k17c1 }
def k17c2 : Code := { maxStack := 3, maxLocals := 4, code := jdk_2320_method_9_code, exceptionTable := #[], attributes := #[] }
def k17m2 : Method := { name := "<init>", desc := "(JI)V", sig := { parameters := [.long, .int], returnType := none }, accessFlags := 2, code := some k17c2 }
def k17c3 : Code := { maxStack := 4, maxLocals := 5, code := jdk_2320_method_40_code, exceptionTable := #[], attributes := #[] }
def k17m3 : Method := { name := "toEpochMilli", desc := "()J", sig := { parameters := [], returnType := some .long }, accessFlags := 1, code := some k17c3 }
/-- java/time/Instant -/
def k17 : Class := { plain "java/time/Instant" (some 0) with
  accessFlags := 49
  interfaces := #[15, 16, 3, 2]
  cf := some (fileOf pool17 21 #[.nestMembers #[182]] #[{ accessFlags := 9, nameIndex := 449, descriptorIndex := 247, attributes := #[] }, { accessFlags := 10, nameIndex := 24, descriptorIndex := 25, attributes := #[] }, { accessFlags := 2, nameIndex := 78, descriptorIndex := 136, attributes := #[] }, { accessFlags := 1, nameIndex := 520, descriptorIndex := 232, attributes := #[] }] 49 138 #[176, 208, 429, 431] #[{ accessFlags := 25, nameIndex := 123, descriptorIndex := 124, attributes := #[] }, { accessFlags := 26, nameIndex := 433, descriptorIndex := 143, attributes := #[] }, { accessFlags := 26, nameIndex := 435, descriptorIndex := 143, attributes := #[] }, { accessFlags := 25, nameIndex := 423, descriptorIndex := 124, attributes := #[] }, { accessFlags := 25, nameIndex := 428, descriptorIndex := 124, attributes := #[] }, { accessFlags := 26, nameIndex := 436, descriptorIndex := 143, attributes := #[] }, { accessFlags := 18, nameIndex := 142, descriptorIndex := 143, attributes := #[] }, { accessFlags := 18, nameIndex := 146, descriptorIndex := 147, attributes := #[] }])
  fields := #[{ name := "EPOCH", type := (.object "java/time/Instant"), accessFlags := 25, slot := 0, constantValue := 0 }, { name := "MIN_SECOND", type := .long, accessFlags := 26, slot := 1, constantValue := 0 }, { name := "MAX_SECOND", type := .long, accessFlags := 26, slot := 2, constantValue := 0 }, { name := "MIN", type := (.object "java/time/Instant"), accessFlags := 25, slot := 3, constantValue := 0 }, { name := "MAX", type := (.object "java/time/Instant"), accessFlags := 25, slot := 4, constantValue := 0 }, { name := "serialVersionUID", type := .long, accessFlags := 26, slot := 5, constantValue := 0 }, { name := "seconds", type := .long, accessFlags := 18, slot := 0, constantValue := 0 }, { name := "nanos", type := .int, accessFlags := 18, slot := 1, constantValue := 0 }]
  methods := #[k17m0, k17m1, k17m2, k17m3]
  instanceTypes := #[.long, .int]
  staticTypes := #[(.object "java/time/Instant"), .long, .long, (.object "java/time/Instant"), (.object "java/time/Instant"), .long]
  resolved := Array.replicate 579 none
  statics := some 1 }

def pool18 : Array CpInfo := pool [(1, .methodref 2 3), (0, .class_ 4), (0, .nameAndType 5 6), (0, u "java/lang/Object"), (0, u "<init>"), (0, u "()V"), (0, .fieldref 8 9), (0, .class_ 10), (0, .nameAndType 11 12), (0, u "java/util/OptionalDouble"), (0, u "isPresent"), (0, u "Z"), (4, .fieldref 8 18), (0, .nameAndType 19 20), (0, u "value"), (0, u "D"), (0, .fieldref 8 22), (0, .nameAndType 23 24), (0, u "EMPTY"), (0, u "Ljava/util/OptionalDouble;"), (0, .methodref 8 26), (0, .nameAndType 5 27), (0, u "(D)V"), (21, u "of"), (3, u "empty"), (48, u "()Ljava/util/OptionalDouble;"), (0, u "(D)Ljava/util/OptionalDouble;"), (1, u "()Z"), (10, u "orElse"), (0, u "(D)D")] 26

def k18m0 : Method := { name := "<init>", desc := "()V", sig := { parameters := [], returnType := none }, accessFlags := 2, code := none }
def k18c1 : Code := { maxStack := 1, maxLocals := 0, code := jdk_2648_method_2_code, exceptionTable := #[], attributes := #[] }
def k18m1 : Method := { name := "empty", desc := "()Ljava/util/OptionalDouble;", sig := { parameters := [], returnType := some (.object "java/util/OptionalDouble") }, accessFlags := 9, code := some k18c1 }
def k18c2 : Code := { maxStack := 3, maxLocals := 3, code := jdk_2648_method_3_code, exceptionTable := #[], attributes := #[] }
def k18m2 : Method := { name := "<init>", desc := "(D)V", sig := { parameters := [.double], returnType := none }, accessFlags := 2, code := some k18c2 }
def k18c3 : Code := { maxStack := 4, maxLocals := 2, code := jdk_2648_method_4_code, exceptionTable := #[], attributes := #[] }
def k18m3 : Method := { name := "of", desc := "(D)Ljava/util/OptionalDouble;", sig := { parameters := [.double], returnType := some (.object "java/util/OptionalDouble") }, accessFlags := 9, code := some k18c3 }
def k18c4 : Code := { maxStack := 1, maxLocals := 1, code := jdk_2648_method_6_code, exceptionTable := #[], attributes := #[] }
def k18m4 : Method := { name := "isPresent", desc := "()Z", sig := { parameters := [], returnType := some .boolean }, accessFlags := 1, code := some k18c4 }
def k18c5 : Code := { maxStack := 2, maxLocals := 3, code := jdk_2648_method_11_code, exceptionTable := #[], attributes := #[] }
def k18m5 : Method := { name := "orElse", desc := "(D)D", sig := { parameters := [.double], returnType := some .double }, accessFlags := 1, code := some k18c5 }
/-- java/util/OptionalDouble -/
def k18 : Class := { plain "java/util/OptionalDouble" (some 0) with
  accessFlags := 49
  interfaces := #[]
  cf := some (fileOf pool18 8 #[] #[{ accessFlags := 2, nameIndex := 5, descriptorIndex := 6, attributes := #[] }, { accessFlags := 9, nameIndex := 53, descriptorIndex := 102, attributes := #[] }, { accessFlags := 2, nameIndex := 5, descriptorIndex := 27, attributes := #[] }, { accessFlags := 9, nameIndex := 49, descriptorIndex := 103, attributes := #[] }, { accessFlags := 1, nameIndex := 11, descriptorIndex := 105, attributes := #[] }, { accessFlags := 1, nameIndex := 116, descriptorIndex := 117, attributes := #[] }] 49 2 #[] #[{ accessFlags := 26, nameIndex := 23, descriptorIndex := 24, attributes := #[] }, { accessFlags := 18, nameIndex := 11, descriptorIndex := 12, attributes := #[] }, { accessFlags := 18, nameIndex := 19, descriptorIndex := 20, attributes := #[] }])
  fields := #[{ name := "EMPTY", type := (.object "java/util/OptionalDouble"), accessFlags := 26, slot := 0, constantValue := 0 }, { name := "isPresent", type := .boolean, accessFlags := 18, slot := 0, constantValue := 0 }, { name := "value", type := .double, accessFlags := 18, slot := 1, constantValue := 0 }]
  methods := #[k18m0, k18m1, k18m2, k18m3, k18m4, k18m5]
  instanceTypes := #[.boolean, .double]
  staticTypes := #[(.object "java/util/OptionalDouble")]
  resolved := Array.replicate 144 none
  statics := some 2 }

def pool19 : Array CpInfo := pool [(2, .class_ 4), (1, u "java/lang/Object"), (0, u "<init>"), (0, u "()V"), (1, .class_ 10), (1, u "java/util/OptionalInt"), (0, u "isPresent"), (0, u "Z"), (2, u "value"), (0, u "I"), (0, .fieldref 8 18), (0, .nameAndType 19 20), (0, u "EMPTY"), (0, u "Ljava/util/OptionalInt;"), (28, u "empty"), (46, u "()Ljava/util/OptionalInt;")] 39

def k19m0 : Method := { name := "<init>", desc := "()V", sig := { parameters := [], returnType := none }, accessFlags := 2, code := none }
def k19c1 : Code := { maxStack := 1, maxLocals := 0, code := jdk_2649_method_2_code, exceptionTable := #[], attributes := #[] }
def k19m1 : Method := { name := "empty", desc := "()Ljava/util/OptionalInt;", sig := { parameters := [], returnType := some (.object "java/util/OptionalInt") }, accessFlags := 9, code := some k19c1 }
/-- java/util/OptionalInt -/
def k19 : Class := { plain "java/util/OptionalInt" (some 0) with
  accessFlags := 49
  interfaces := #[]
  cf := some (fileOf pool19 8 #[] #[{ accessFlags := 2, nameIndex := 5, descriptorIndex := 6, attributes := #[] }, { accessFlags := 9, nameIndex := 49, descriptorIndex := 96, attributes := #[] }] 49 2 #[] #[{ accessFlags := 26, nameIndex := 19, descriptorIndex := 20, attributes := #[] }, { accessFlags := 18, nameIndex := 11, descriptorIndex := 12, attributes := #[] }, { accessFlags := 18, nameIndex := 15, descriptorIndex := 16, attributes := #[] }])
  fields := #[{ name := "EMPTY", type := (.object "java/util/OptionalInt"), accessFlags := 26, slot := 0, constantValue := 0 }, { name := "isPresent", type := .boolean, accessFlags := 18, slot := 0, constantValue := 0 }, { name := "value", type := .int, accessFlags := 18, slot := 1, constantValue := 0 }]
  methods := #[k19m0, k19m1]
  instanceTypes := #[.boolean, .int]
  staticTypes := #[(.object "java/util/OptionalInt")]
  resolved := Array.replicate 136 none
  statics := some 3 }

def pool20 : Array CpInfo := pool [(1, .class_ 2), (0, u "java/lang/Math"), (1, .class_ 6), (1, u "java/lang/Object"), (0, u "<init>"), (0, u "()V"), (89, .class_ 100), (1, u "java/lang/Math$RandomNumberGeneratorHolder"), (17, .methodref 1 119), (0, .nameAndType 120 121), (0, u "multiplyExact"), (0, u "(JJ)J"), (0, .methodref 1 123), (0, .nameAndType 124 125), (0, u "abs"), (0, u "(J)J"), (2, .long 9223372036854775808), (14, .methodref 1 144), (0, .nameAndType 145 121), (0, u "floorDiv"), (0, .methodref 1 147), (0, .nameAndType 148 121), (0, u "floorMod"), (23, u "negativeZeroFloatBits"), (0, u "J"), (2, u "negativeZeroDoubleBits"), (68, u "$assertionsDisabled"), (0, u "Z"), (91, u "twoToTheDoubleScaleDown"), (0, u "D"), (4, u "twoToTheDoubleScaleUp"), (9, u "E"), (3, u "PI"), (2, u "TAU"), (2, u "DEGREES_TO_RADIANS"), (0, u "RADIANS_TO_DEGREES"), (27, u "addExact"), (1, u "(JI)J"), (24, u "(JI)I")] 39

def k20m0 : Method := { name := "<init>", desc := "()V", sig := { parameters := [], returnType := none }, accessFlags := 2, code := none }
def k20c1 : Code := { maxStack := 6, maxLocals := 6, code := jdk_29_method_25_code, exceptionTable := #[], attributes := #[] }
def k20m1 : Method := { name := "addExact", desc := "(JJ)J", sig := { parameters := [.long, .long], returnType := some .long }, accessFlags := 9, code := some k20c1 }
def k20c2 : Code := { maxStack := 4, maxLocals := 3, code := jdk_29_method_29_code, exceptionTable := #[], attributes := #[] }
def k20m2 : Method := { name := "multiplyExact", desc := "(JI)J", sig := { parameters := [.long, .int], returnType := some .long }, accessFlags := 9, code := some k20c2 }
def k20c3 : Code := { maxStack := 4, maxLocals := 10, code := jdk_29_method_30_code, exceptionTable := #[], attributes := #[] }
def k20m3 : Method := { name := "multiplyExact", desc := "(JJ)J", sig := { parameters := [.long, .long], returnType := some .long }, accessFlags := 9, code := some k20c3 }
def k20c4 : Code := { maxStack := 4, maxLocals := 3, code := jdk_29_method_48_code, exceptionTable := #[], attributes := #[] }
def k20m4 : Method := { name := "floorDiv", desc := "(JI)J", sig := { parameters := [.long, .int], returnType := some .long }, accessFlags := 9, code := some k20c4 }
def k20c5 : Code := { maxStack := 4, maxLocals := 6, code := jdk_29_method_49_code, exceptionTable := #[], attributes := #[] }
def k20m5 : Method := { name := "floorDiv", desc := "(JJ)J", sig := { parameters := [.long, .long], returnType := some .long }, accessFlags := 9, code := some k20c5 }
def k20c6 : Code := { maxStack := 4, maxLocals := 3, code := jdk_29_method_51_code, exceptionTable := #[], attributes := #[] }
def k20m6 : Method := { name := "floorMod", desc := "(JI)I", sig := { parameters := [.long, .int], returnType := some .int }, accessFlags := 9, code := some k20c6 }
def k20c7 : Code := { maxStack := 4, maxLocals := 6, code := jdk_29_method_52_code, exceptionTable := #[], attributes := #[] }
def k20m7 : Method := { name := "floorMod", desc := "(JJ)J", sig := { parameters := [.long, .long], returnType := some .long }, accessFlags := 9, code := some k20c7 }
def k20c8 : Code := { maxStack := 4, maxLocals := 2, code := jdk_29_method_61_code, exceptionTable := #[], attributes := #[] }
def k20m8 : Method := { name := "abs", desc := "(J)J", sig := { parameters := [.long], returnType := some .long }, accessFlags := 9, code := some k20c8 }
/-- java/lang/Math -/
def k20 : Class := { plain "java/lang/Math" (some 0) with
  accessFlags := 49
  interfaces := #[]
  cf := some (fileOf pool20 1 #[.nestMembers #[98]] #[{ accessFlags := 2, nameIndex := 7, descriptorIndex := 8, attributes := #[] }, { accessFlags := 9, nameIndex := 393, descriptorIndex := 121, attributes := #[] }, { accessFlags := 9, nameIndex := 120, descriptorIndex := 395, attributes := #[] }, { accessFlags := 9, nameIndex := 120, descriptorIndex := 121, attributes := #[] }, { accessFlags := 9, nameIndex := 145, descriptorIndex := 395, attributes := #[] }, { accessFlags := 9, nameIndex := 145, descriptorIndex := 121, attributes := #[] }, { accessFlags := 9, nameIndex := 148, descriptorIndex := 420, attributes := #[] }, { accessFlags := 9, nameIndex := 148, descriptorIndex := 121, attributes := #[] }, { accessFlags := 9, nameIndex := 124, descriptorIndex := 125, attributes := #[] }] 49 4 #[] #[{ accessFlags := 25, nameIndex := 354, descriptorIndex := 339, attributes := #[] }, { accessFlags := 25, nameIndex := 358, descriptorIndex := 339, attributes := #[] }, { accessFlags := 25, nameIndex := 361, descriptorIndex := 339, attributes := #[] }, { accessFlags := 26, nameIndex := 364, descriptorIndex := 339, attributes := #[] }, { accessFlags := 26, nameIndex := 365, descriptorIndex := 339, attributes := #[] }, { accessFlags := 26, nameIndex := 172, descriptorIndex := 173, attributes := #[] }, { accessFlags := 26, nameIndex := 176, descriptorIndex := 173, attributes := #[] }, { accessFlags := 8, nameIndex := 344, descriptorIndex := 339, attributes := #[] }, { accessFlags := 8, nameIndex := 338, descriptorIndex := 339, attributes := #[] }, { accessFlags := 4120, nameIndex := 245, descriptorIndex := 246, attributes := #[] }])
  fields := #[{ name := "E", type := .double, accessFlags := 25, slot := 0, constantValue := 0 }, { name := "PI", type := .double, accessFlags := 25, slot := 1, constantValue := 0 }, { name := "TAU", type := .double, accessFlags := 25, slot := 2, constantValue := 0 }, { name := "DEGREES_TO_RADIANS", type := .double, accessFlags := 26, slot := 3, constantValue := 0 }, { name := "RADIANS_TO_DEGREES", type := .double, accessFlags := 26, slot := 4, constantValue := 0 }, { name := "negativeZeroFloatBits", type := .long, accessFlags := 26, slot := 5, constantValue := 0 }, { name := "negativeZeroDoubleBits", type := .long, accessFlags := 26, slot := 6, constantValue := 0 }, { name := "twoToTheDoubleScaleUp", type := .double, accessFlags := 8, slot := 7, constantValue := 0 }, { name := "twoToTheDoubleScaleDown", type := .double, accessFlags := 8, slot := 8, constantValue := 0 }, { name := "$assertionsDisabled", type := .boolean, accessFlags := 4120, slot := 9, constantValue := 0 }]
  methods := #[k20m0, k20m1, k20m2, k20m3, k20m4, k20m5, k20m6, k20m7, k20m8]
  instanceTypes := #[]
  staticTypes := #[.double, .double, .double, .double, .double, .long, .long, .double, .double, .boolean]
  resolved := Array.replicate 460 none
  statics := none }

def pool21 : Array CpInfo := pool [(2, .class_ 4), (1, u "java/lang/Object"), (0, u "<init>"), (0, u "()V"), (17, .class_ 26), (1, u "jdk/internal/util/Preconditions"), (28, .class_ 56), (0, u "jdk/internal/util/Preconditions$4"), (57, .class_ 115), (0, u "jdk/internal/util/Preconditions$1"), (7, u "SIOOBE_FORMATTER"), (0, u "Ljava/util/function/BiFunction;"), (0, .class_ 126), (0, u "jdk/internal/util/Preconditions$2"), (3, u "AIOOBE_FORMATTER"), (0, .class_ 132), (0, u "jdk/internal/util/Preconditions$3"), (3, u "IOOBE_FORMATTER")] 57

def k21m0 : Method := { name := "<init>", desc := "()V", sig := { parameters := [], returnType := none }, accessFlags := 1, code := none }
/-- jdk/internal/util/Preconditions -/
def k21 : Class := { plain "jdk/internal/util/Preconditions" (some 0) with
  accessFlags := 33
  interfaces := #[]
  cf := some (fileOf pool21 24 #[.nestMembers #[55, 131, 125, 114]] #[{ accessFlags := 1, nameIndex := 5, descriptorIndex := 6, attributes := #[] }] 33 2 #[] #[{ accessFlags := 25, nameIndex := 123, descriptorIndex := 124, attributes := #[] }, { accessFlags := 25, nameIndex := 130, descriptorIndex := 124, attributes := #[] }, { accessFlags := 25, nameIndex := 136, descriptorIndex := 124, attributes := #[] }])
  fields := #[{ name := "SIOOBE_FORMATTER", type := (.object "java/util/function/BiFunction"), accessFlags := 25, slot := 0, constantValue := 0 }, { name := "AIOOBE_FORMATTER", type := (.object "java/util/function/BiFunction"), accessFlags := 25, slot := 1, constantValue := 0 }, { name := "IOOBE_FORMATTER", type := (.object "java/util/function/BiFunction"), accessFlags := 25, slot := 2, constantValue := 0 }]
  methods := #[k21m0]
  instanceTypes := #[]
  staticTypes := #[(.object "java/util/function/BiFunction"), (.object "java/util/function/BiFunction"), (.object "java/util/function/BiFunction")]
  resolved := Array.replicate 194 none
  statics := some 4 }

def pool22 : Array CpInfo := pool [(9, u "<init>"), (6, .class_ 18), (1, u "java/lang/Object"), (0, u "()V"), (1, .class_ 23), (1, u "jdk/internal/util/ArraysSupport"), (0, u "LOG2_ARRAY_LONG_INDEX_SCALE"), (0, u "I"), (2, u "U"), (0, u "Ljdk/internal/misc/Unsafe;"), (8, u "BIG_ENDIAN"), (0, u "Z"), (8, u "LOG2_BYTE_BIT_SIZE"), (4, u "LOG2_ARRAY_INT_INDEX_SCALE"), (54, u "JLA"), (0, u "Ljdk/internal/access/JavaLangAccess;"), (11, u "LOG2_ARRAY_BOOLEAN_INDEX_SCALE"), (9, u "LOG2_ARRAY_BYTE_INDEX_SCALE"), (5, u "LOG2_ARRAY_CHAR_INDEX_SCALE"), (5, u "LOG2_ARRAY_SHORT_INDEX_SCALE"), (18, u "LOG2_ARRAY_FLOAT_INDEX_SCALE"), (24, u "LOG2_ARRAY_DOUBLE_INDEX_SCALE"), (89, u "T_BOOLEAN"), (2, u "T_CHAR"), (1, u "T_FLOAT"), (1, u "T_DOUBLE"), (1, u "T_BYTE"), (1, u "T_SHORT"), (1, u "T_INT"), (1, u "T_LONG"), (1, u "SOFT_MAX_ARRAY_LENGTH")] 83

def k22m0 : Method := { name := "<init>", desc := "()V", sig := { parameters := [], returnType := none }, accessFlags := 2, code := none }
/-- jdk/internal/util/ArraysSupport -/
def k22 : Class := { plain "jdk/internal/util/ArraysSupport" (some 0) with
  accessFlags := 33
  interfaces := #[]
  cf := some (fileOf pool22 21 #[] #[{ accessFlags := 2, nameIndex := 9, descriptorIndex := 19, attributes := #[] }] 33 16 #[] #[{ accessFlags := 24, nameIndex := 28, descriptorIndex := 29, attributes := #[] }, { accessFlags := 26, nameIndex := 38, descriptorIndex := 39, attributes := #[] }, { accessFlags := 25, nameIndex := 121, descriptorIndex := 25, attributes := #[] }, { accessFlags := 25, nameIndex := 131, descriptorIndex := 25, attributes := #[] }, { accessFlags := 25, nameIndex := 137, descriptorIndex := 25, attributes := #[] }, { accessFlags := 25, nameIndex := 143, descriptorIndex := 25, attributes := #[] }, { accessFlags := 25, nameIndex := 53, descriptorIndex := 25, attributes := #[] }, { accessFlags := 25, nameIndex := 24, descriptorIndex := 25, attributes := #[] }, { accessFlags := 25, nameIndex := 162, descriptorIndex := 25, attributes := #[] }, { accessFlags := 25, nameIndex := 187, descriptorIndex := 25, attributes := #[] }, { accessFlags := 26, nameIndex := 48, descriptorIndex := 25, attributes := #[] }, { accessFlags := 25, nameIndex := 277, descriptorIndex := 25, attributes := #[] }, { accessFlags := 25, nameIndex := 280, descriptorIndex := 25, attributes := #[] }, { accessFlags := 25, nameIndex := 282, descriptorIndex := 25, attributes := #[] }, { accessFlags := 25, nameIndex := 284, descriptorIndex := 25, attributes := #[] }, { accessFlags := 25, nameIndex := 286, descriptorIndex := 25, attributes := #[] }, { accessFlags := 25, nameIndex := 288, descriptorIndex := 25, attributes := #[] }, { accessFlags := 25, nameIndex := 290, descriptorIndex := 25, attributes := #[] }, { accessFlags := 25, nameIndex := 292, descriptorIndex := 25, attributes := #[] }, { accessFlags := 26, nameIndex := 108, descriptorIndex := 109, attributes := #[] }, { accessFlags := 25, nameIndex := 294, descriptorIndex := 25, attributes := #[] }])
  fields := #[{ name := "U", type := (.object "jdk/internal/misc/Unsafe"), accessFlags := 24, slot := 0, constantValue := 0 }, { name := "BIG_ENDIAN", type := .boolean, accessFlags := 26, slot := 1, constantValue := 0 }, { name := "LOG2_ARRAY_BOOLEAN_INDEX_SCALE", type := .int, accessFlags := 25, slot := 2, constantValue := 0 }, { name := "LOG2_ARRAY_BYTE_INDEX_SCALE", type := .int, accessFlags := 25, slot := 3, constantValue := 0 }, { name := "LOG2_ARRAY_CHAR_INDEX_SCALE", type := .int, accessFlags := 25, slot := 4, constantValue := 0 }, { name := "LOG2_ARRAY_SHORT_INDEX_SCALE", type := .int, accessFlags := 25, slot := 5, constantValue := 0 }, { name := "LOG2_ARRAY_INT_INDEX_SCALE", type := .int, accessFlags := 25, slot := 6, constantValue := 0 }, { name := "LOG2_ARRAY_LONG_INDEX_SCALE", type := .int, accessFlags := 25, slot := 7, constantValue := 0 }, { name := "LOG2_ARRAY_FLOAT_INDEX_SCALE", type := .int, accessFlags := 25, slot := 8, constantValue := 0 }, { name := "LOG2_ARRAY_DOUBLE_INDEX_SCALE", type := .int, accessFlags := 25, slot := 9, constantValue := 0 }, { name := "LOG2_BYTE_BIT_SIZE", type := .int, accessFlags := 26, slot := 10, constantValue := 0 }, { name := "T_BOOLEAN", type := .int, accessFlags := 25, slot := 11, constantValue := 0 }, { name := "T_CHAR", type := .int, accessFlags := 25, slot := 12, constantValue := 0 }, { name := "T_FLOAT", type := .int, accessFlags := 25, slot := 13, constantValue := 0 }, { name := "T_DOUBLE", type := .int, accessFlags := 25, slot := 14, constantValue := 0 }, { name := "T_BYTE", type := .int, accessFlags := 25, slot := 15, constantValue := 0 }, { name := "T_SHORT", type := .int, accessFlags := 25, slot := 16, constantValue := 0 }, { name := "T_INT", type := .int, accessFlags := 25, slot := 17, constantValue := 0 }, { name := "T_LONG", type := .int, accessFlags := 25, slot := 18, constantValue := 0 }, { name := "JLA", type := (.object "jdk/internal/access/JavaLangAccess"), accessFlags := 26, slot := 19, constantValue := 0 }, { name := "SOFT_MAX_ARRAY_LENGTH", type := .int, accessFlags := 25, slot := 20, constantValue := 0 }]
  methods := #[k22m0]
  instanceTypes := #[]
  staticTypes := #[(.object "jdk/internal/misc/Unsafe"), .boolean, .int, .int, .int, .int, .int, .int, .int, .int, .int, .int, .int, .int, .int, .int, .int, .int, .int, (.object "jdk/internal/access/JavaLangAccess"), .int]
  resolved := Array.replicate 378 none
  statics := some 5 }

def pool23 : Array CpInfo := pool [(1, u "java/lang/Cloneable"), (0, .class_ 1), (0, u "java/lang/Object"), (0, .class_ 3)] 3

/-- java/lang/Cloneable -/
def k23 : Class := { plain "java/lang/Cloneable" (some 0) with
  accessFlags := 1537
  interfaces := #[]
  cf := some (fileOf pool23 2 #[] #[] 1537 4 #[] #[])
  fields := #[]
  methods := #[]
  instanceTypes := #[]
  staticTypes := #[]
  resolved := Array.replicate 8 none
  statics := none }

/-- the primitive byte -/
def k24 : Class := { plain "byte" none with kind := .primitive 'B', accessFlags := 0x411 }
/-- [B -/
def k25 : Class := { plain "[B" (some 0) with kind := .array 24 .byte, interfaces := #[23, 2], accessFlags := 1041 }

/-- the primitive char -/
def k26 : Class := { plain "char" none with kind := .primitive 'C', accessFlags := 0x411 }
/-- [C -/
def k27 : Class := { plain "[C" (some 0) with kind := .array 26 .char, interfaces := #[23, 2], accessFlags := 1041 }

/-- the primitive int -/
def k28 : Class := { plain "int" none with kind := .primitive 'I', accessFlags := 0x411 }
/-- [I -/
def k29 : Class := { plain "[I" (some 0) with kind := .array 28 .int, interfaces := #[23, 2], accessFlags := 1041 }

def heap : Heap := #[{ cls := 7, slots := #[.long 0, .int 1, .null, .int 0, .null, .int 0, .int 0], vm := .statics 7 },
  { cls := 17, slots := #[.ref 6, .long 0, .long 0, .null, .null, .long 0], vm := .statics 17 },
  { cls := 18, slots := #[.ref 7], vm := .statics 18 },
  { cls := 19, slots := #[.ref 8], vm := .statics 19 },
  { cls := 21, slots := #[.null, .null, .null], vm := .statics 21 },
  { cls := 22, slots := #[.null, .int 0, .int 0, .int 0, .int 0, .int 0, .int 0, .int 0, .int 0, .int 0, .int 0, .int 0, .int 0, .int 0, .int 0, .int 0, .int 0, .int 0, .int 0, .null, .int 0], vm := .statics 22 },
  { cls := 17, slots := #[.long 0, .int 0], vm := .none },
  { cls := 18, slots := #[.int 0, .double 0], vm := .none },
  { cls := 19, slots := #[.int 0, .int 0], vm := .none }]
def classes : Array Class := #[k0, k1, k2, k3, k4, k5, k6, k7, k8, k9, k10, k11, k12, k13, k14, k15, k16, k17, k18, k19, k20, k21, k22, k23, k24, k25, k26, k27, k28, k29]
def interned : List (Array UInt16 × Addr) := []
def slotsUsed : Nat := 45
def theMethod : MethodId := ⟨1, 1⟩
def args0 : Array Value := #[.long 5, .int 6, .int 7, .long 8, .long 9, .long 10]
def aboutOver (below : List Frame) : State where
  vm := { classes := classes, interned := interned.toArray }
  heap := heap
  slotsUsed := slotsUsed
  threads := #[{ frames := .invoking theMethod args0 :: below }]
def below0 : List Frame := [.native { method := ⟨0, 0⟩, args := #[] }]
def about1 : State := aboutOver below0
def p0 : Program := .bare "" "" ""
def e0 : Env := launch0.env 0 0 0
theorem w_frames : about1.frames = Frame.invoking theMethod args0 :: below0 := rfl
set_option maxRecDepth 65536 in
theorem w_args : argsFit about1.vm theMethod args0 = true := by decide +kernel
set_option maxRecDepth 65536 in
theorem w_heap : heapFits about1 = true := by decide +kernel
set_option maxRecDepth 65536 in
theorem w_runnable : about1.curStatus? = some .runnable := by decide +kernel
set_option maxRecDepth 65536 in
theorem w_alone : about1.alone = true := by decide +kernel
set_option maxRecDepth 65536 in
theorem w_named : about1.methodNamed? x = some theMethod := by decide +kernel
set_option maxRecDepth 65536 in
theorem w_hears : about1.hears theMethod below0 = true := by decide +kernel
set_option maxRecDepth 65536 in
theorem w_ripe : about1.ripe theMethod args0 below0 = true := by decide +kernel
theorem w_running : about1.status = .running := rfl
set_option maxRecDepth 65536 in
theorem w_room : about1.hasRoom e0.platform room_1 = true :=
  launch0.hasRoom_least _ room_1 (by decide +kernel) (by decide +kernel) (by decide +kernel) (by decide +kernel) (by decide +kernel) (by decide +kernel)
theorem allAtoms_all (ts : List Jvm.Cond) (a : Array Jvm.Value) (st : Jvm.State) : (allAtoms ts).before a st = ts.all (fun c => c.before a st) := by
  induction ts with
  | nil => rfl
  | cons c t ih =>
    show (Jvm.Cond.and c (allAtoms t)).before a st = _
    rw [Jvm.Cond.before_and, ih, List.all_cons]
def words1 : List Jvm.Cond := Jvm.Cond.code x code maxLocals ret :: tables_1
/-- a 'code' word, met by the world's own term for the bytes: nothing is compared byte by byte -/
theorem code_word {y : MethodName} {bytes : ByteArray} {mx : Nat} {rt : Option FieldType} {a : Array Value} {s : State} {m : MethodId} {meth : Method} {c : Code} (h1 : s.methodNamed? y = some m) (h2 : s.vm.method? m = some meth) (h3 : meth.code = some c) (h4 : c.code = bytes)
    (h5 : (c.maxLocals == mx && c.exceptionTable.isEmpty && decide (c.maxStack ≤ mostOperands) && decide (meth.sig.returnType = rt) && !meth.locks && decide (parseMethodDescriptor y.desc = some meth.sig)) = true) : (Jvm.Cond.code y bytes mx rt).before a s = true := by
  simp only [Bool.and_eq_true, beq_iff_eq, Bool.not_eq_true', decide_eq_true_eq] at h5
  obtain ⟨⟨⟨⟨⟨g1, g2⟩, g3⟩, g4⟩, g5⟩, g6⟩ := h5
  simp [Cond.before, Cond.holds, Cond.value, h1, h2, h3, h4, g1, g2, g3, g4, g5, g6]
def isCode : Jvm.Cond → Bool
  | .code _ _ _ _ => true
  | _ => false
theorem all_split {L : List Jvm.Cond} {P : Jvm.Cond → Bool} (h1 : L.all (fun c => isCode c || P c) = true) (h2 : ∀ c ∈ L.filter isCode, P c = true) : L.all P = true := by
  refine List.all_eq_true.mpr fun c hc => ?_
  have h := List.all_eq_true.mp h1 c hc
  rcases Bool.eq_false_or_eq_true (isCode c) with hi | hi
  · exact h2 c (List.mem_filter.mpr ⟨hc, hi⟩)
  · simpa [hi] using h
set_option maxRecDepth 65536 in
theorem w_c0 : (Jvm.Cond.code x code maxLocals ret).before args0 about1 = true := code_word (m := ⟨1, 1⟩) (meth := k1m1) (c := k1c1) (by decide +kernel) rfl rfl rfl (by decide +kernel)
set_option maxRecDepth 65536 in
theorem w_c1 : (Jvm.Cond.code ({ cls := "java/lang/String", name := "valueOf", desc := "(C)Ljava/lang/String;" } : Jvm.MethodName) jdk_42_method_139_code (1 : Nat) (Option.some (Jvm.ClassFile.FieldType.object "java/lang/String"))).before args0 about1 = true := code_word (m := ⟨7, 3⟩) (meth := k7m3) (c := k7c3) (by decide +kernel) rfl rfl rfl (by decide +kernel)
set_option maxRecDepth 65536 in
theorem w_c2 : (Jvm.Cond.code ({ cls := "java/lang/StringLatin1", name := "canEncode", desc := "(C)Z" } : Jvm.MethodName) jdk_43_method_3_code (1 : Nat) (Option.some Jvm.ClassFile.FieldType.boolean)).before args0 about1 = true := code_word (m := ⟨8, 1⟩) (meth := k8m1) (c := k8c1) (by decide +kernel) rfl rfl rfl (by decide +kernel)
set_option maxRecDepth 65536 in
theorem w_c3 : (Jvm.Cond.code ({ cls := "java/lang/StringLatin1", name := "toBytes", desc := "(C)[B" } : Jvm.MethodName) jdk_43_method_46_code (1 : Nat) (Option.some (Jvm.ClassFile.FieldType.array Jvm.ClassFile.FieldType.byte))).before args0 about1 = true := code_word (m := ⟨8, 2⟩) (meth := k8m2) (c := k8c2) (by decide +kernel) rfl rfl rfl (by decide +kernel)
set_option maxRecDepth 65536 in
theorem w_c4 : (Jvm.Cond.code ({ cls := "java/lang/String", name := "<init>", desc := "([BB)V" } : Jvm.MethodName) jdk_42_method_151_code (3 : Nat) (Option.none : Option Jvm.ClassFile.FieldType)).before args0 about1 = true := code_word (m := ⟨7, 5⟩) (meth := k7m5) (c := k7c5) (by decide +kernel) rfl rfl rfl (by decide +kernel)
set_option maxRecDepth 65536 in
theorem w_c5 : (Jvm.Cond.code ({ cls := "java/lang/Object", name := "<init>", desc := "()V" } : Jvm.MethodName) object_method_1_code (1 : Nat) (Option.none : Option Jvm.ClassFile.FieldType)).before args0 about1 = true := code_word (m := ⟨0, 0⟩) (meth := k0m0) (c := k0c0) (by decide +kernel) rfl rfl rfl (by decide +kernel)
set_option maxRecDepth 65536 in
theorem w_c6 : (Jvm.Cond.code ({ cls := "java/lang/String", name := "<init>", desc := "([C)V" } : Jvm.MethodName) jdk_42_method_3_code (2 : Nat) (Option.none : Option Jvm.ClassFile.FieldType)).before args0 about1 = true := code_word (m := ⟨7, 1⟩) (meth := k7m1) (c := k7c1) (by decide +kernel) rfl rfl rfl (by decide +kernel)
set_option maxRecDepth 65536 in
theorem w_c7 : (Jvm.Cond.code ({ cls := "java/lang/String", name := "<init>", desc := "([CIILjava/lang/Void;)V" } : Jvm.MethodName) jdk_42_method_149_code (6 : Nat) (Option.none : Option Jvm.ClassFile.FieldType)).before args0 about1 = true := code_word (m := ⟨7, 4⟩) (meth := k7m4) (c := k7c4) (by decide +kernel) rfl rfl rfl (by decide +kernel)
set_option maxRecDepth 65536 in
theorem w_c8 : (Jvm.Cond.code ({ cls := "java/lang/StringUTF16", name := "compress", desc := "([CII)[B" } : Jvm.MethodName) jdk_52_method_16_code (6 : Nat) (Option.some (Jvm.ClassFile.FieldType.array Jvm.ClassFile.FieldType.byte))).before args0 about1 = true := code_word (m := ⟨9, 2⟩) (meth := k9m2) (c := k9c2) (by decide +kernel) rfl rfl rfl (by decide +kernel)
set_option maxRecDepth 65536 in
theorem w_c9 : (Jvm.Cond.code ({ cls := "java/lang/StringUTF16", name := "compress", desc := "([CI[BII)I" } : Jvm.MethodName) jdk_52_method_21_code (7 : Nat) (Option.some Jvm.ClassFile.FieldType.int)).before args0 about1 = true := code_word (m := ⟨9, 3⟩) (meth := k9m3) (c := k9c3) (by decide +kernel) rfl rfl rfl (by decide +kernel)
set_option maxRecDepth 65536 in
theorem w_c10 : (Jvm.Cond.code ({ cls := "java/lang/StringUTF16", name := "coderFromArrayLen", desc := "([BI)B" } : Jvm.MethodName) jdk_52_method_15_code (2 : Nat) (Option.some Jvm.ClassFile.FieldType.byte)).before args0 about1 = true := code_word (m := ⟨9, 1⟩) (meth := k9m1) (c := k9c1) (by decide +kernel) rfl rfl rfl (by decide +kernel)
set_option maxRecDepth 65536 in
theorem w_c11 : (Jvm.Cond.code ({ cls := "com/example/fixd/fixd/client/Location", name := "<init>", desc := "(Ljava/lang/String;)V" } : Jvm.MethodName) prog_5_method_1_code (2 : Nat) (Option.none : Option Jvm.ClassFile.FieldType)).before args0 about1 = true := code_word (m := ⟨10, 0⟩) (meth := k10m0) (c := k10c0) (by decide +kernel) rfl rfl rfl (by decide +kernel)
set_option maxRecDepth 65536 in
theorem w_c12 : (Jvm.Cond.code ({ cls := "java/util/Objects", name := "requireNonNull", desc := "(Ljava/lang/Object;Ljava/lang/String;)Ljava/lang/Object;" } : Jvm.MethodName) jdk_31_method_11_code (2 : Nat) (Option.some (Jvm.ClassFile.FieldType.object "java/lang/Object"))).before args0 about1 = true := code_word (m := ⟨13, 1⟩) (meth := k13m1) (c := k13c1) (by decide +kernel) rfl rfl rfl (by decide +kernel)
set_option maxRecDepth 65536 in
theorem w_c13 : (Jvm.Cond.code ({ cls := "java/util/OptionalDouble", name := "empty", desc := "()Ljava/util/OptionalDouble;" } : Jvm.MethodName) jdk_2648_method_2_code (0 : Nat) (Option.some (Jvm.ClassFile.FieldType.object "java/util/OptionalDouble"))).before args0 about1 = true := code_word (m := ⟨18, 1⟩) (meth := k18m1) (c := k18c1) (by decide +kernel) rfl rfl rfl (by decide +kernel)
set_option maxRecDepth 65536 in
theorem w_c14 : (Jvm.Cond.code ({ cls := "com/example/fixd/fixd/location/Location", name := "<init>", desc := "(Ljava/lang/String;Ljava/time/Instant;DDLjava/util/OptionalDouble;Ljava/util/OptionalDouble;)V" } : Jvm.MethodName) prog_17_method_2_code (9 : Nat) (Option.none : Option Jvm.ClassFile.FieldType)).before args0 about1 = true := code_word (m := ⟨12, 1⟩) (meth := k12m1) (c := k12c1) (by decide +kernel) rfl rfl rfl (by decide +kernel)
set_option maxRecDepth 65536 in
theorem w_c15 : (Jvm.Cond.code ({ cls := "java/util/OptionalInt", name := "empty", desc := "()Ljava/util/OptionalInt;" } : Jvm.MethodName) jdk_2649_method_2_code (0 : Nat) (Option.some (Jvm.ClassFile.FieldType.object "java/util/OptionalInt"))).before args0 about1 = true := code_word (m := ⟨19, 1⟩) (meth := k19m1) (c := k19c1) (by decide +kernel) rfl rfl rfl (by decide +kernel)
set_option maxRecDepth 65536 in
theorem w_c16 : (Jvm.Cond.code ({ cls := "com/example/fixd/fixd/location/Location", name := "<init>", desc := "(Ljava/lang/String;Ljava/time/Instant;DDLjava/util/OptionalDouble;Ljava/util/OptionalDouble;Ljava/util/OptionalDouble;Ljava/util/OptionalDouble;Ljava/util/OptionalDouble;Ljava/util/OptionalInt;)V" } : Jvm.MethodName) prog_17_method_1_code (13 : Nat) (Option.none : Option Jvm.ClassFile.FieldType)).before args0 about1 = true := code_word (m := ⟨12, 0⟩) (meth := k12m0) (c := k12c0) (by decide +kernel) rfl rfl rfl (by decide +kernel)
set_option maxRecDepth 65536 in
theorem w_c17 : (Jvm.Cond.code ({ cls := "java/lang/Record", name := "<init>", desc := "()V" } : Jvm.MethodName) jdk_30_method_1_code (1 : Nat) (Option.none : Option Jvm.ClassFile.FieldType)).before args0 about1 = true := code_word (m := ⟨11, 0⟩) (meth := k11m0) (c := k11c0) (by decide +kernel) rfl rfl rfl (by decide +kernel)
set_option maxRecDepth 65536 in
theorem w_c18 : (Jvm.Cond.code ({ cls := "com/example/fixd/fixd/client/Location", name := "<init>", desc := "(Lcom/example/fixd/fixd/location/Location;)V" } : Jvm.MethodName) prog_5_method_2_code (2 : Nat) (Option.none : Option Jvm.ClassFile.FieldType)).before args0 about1 = true := code_word (m := ⟨10, 1⟩) (meth := k10m1) (c := k10c1) (by decide +kernel) rfl rfl rfl (by decide +kernel)
set_option maxRecDepth 65536 in
theorem w_c19 : (Jvm.Cond.code ({ cls := "com/example/fixd/fixd/location/Location", name := "provider", desc := "()Ljava/lang/String;" } : Jvm.MethodName) prog_17_method_7_code (1 : Nat) (Option.some (Jvm.ClassFile.FieldType.object "java/lang/String"))).before args0 about1 = true := code_word (m := ⟨12, 2⟩) (meth := k12m2) (c := k12c2) (by decide +kernel) rfl rfl rfl (by decide +kernel)
set_option maxRecDepth 65536 in
theorem w_c20 : (Jvm.Cond.code ({ cls := "com/example/fixd/fixd/location/Location", name := "time", desc := "()Ljava/time/Instant;" } : Jvm.MethodName) prog_17_method_8_code (1 : Nat) (Option.some (Jvm.ClassFile.FieldType.object "java/time/Instant"))).before args0 about1 = true := code_word (m := ⟨12, 3⟩) (meth := k12m3) (c := k12c3) (by decide +kernel) rfl rfl rfl (by decide +kernel)
set_option maxRecDepth 65536 in
theorem w_c21 : (Jvm.Cond.code ({ cls := "com/example/fixd/fixd/location/Location", name := "latitude", desc := "()D" } : Jvm.MethodName) prog_17_method_9_code (1 : Nat) (Option.some Jvm.ClassFile.FieldType.double)).before args0 about1 = true := code_word (m := ⟨12, 4⟩) (meth := k12m4) (c := k12c4) (by decide +kernel) rfl rfl rfl (by decide +kernel)
set_option maxRecDepth 65536 in
theorem w_c22 : (Jvm.Cond.code ({ cls := "com/example/fixd/fixd/location/Location", name := "longitude", desc := "()D" } : Jvm.MethodName) prog_17_method_10_code (1 : Nat) (Option.some Jvm.ClassFile.FieldType.double)).before args0 about1 = true := code_word (m := ⟨12, 5⟩) (meth := k12m5) (c := k12c5) (by decide +kernel) rfl rfl rfl (by decide +kernel)
set_option maxRecDepth 65536 in
theorem w_c23 : (Jvm.Cond.code ({ cls := "com/example/fixd/fixd/location/Location", name := "speed", desc := "()Ljava/util/OptionalDouble;" } : Jvm.MethodName) prog_17_method_11_code (1 : Nat) (Option.some (Jvm.ClassFile.FieldType.object "java/util/OptionalDouble"))).before args0 about1 = true := code_word (m := ⟨12, 6⟩) (meth := k12m6) (c := k12c6) (by decide +kernel) rfl rfl rfl (by decide +kernel)
set_option maxRecDepth 65536 in
theorem w_c24 : (Jvm.Cond.code ({ cls := "com/example/fixd/fixd/location/Location", name := "bearing", desc := "()Ljava/util/OptionalDouble;" } : Jvm.MethodName) prog_17_method_12_code (1 : Nat) (Option.some (Jvm.ClassFile.FieldType.object "java/util/OptionalDouble"))).before args0 about1 = true := code_word (m := ⟨12, 7⟩) (meth := k12m7) (c := k12c7) (by decide +kernel) rfl rfl rfl (by decide +kernel)
set_option maxRecDepth 65536 in
theorem w_c25 : (Jvm.Cond.code ({ cls := "com/example/fixd/fixd/location/Location", name := "altitude", desc := "()Ljava/util/OptionalDouble;" } : Jvm.MethodName) prog_17_method_13_code (1 : Nat) (Option.some (Jvm.ClassFile.FieldType.object "java/util/OptionalDouble"))).before args0 about1 = true := code_word (m := ⟨12, 8⟩) (meth := k12m8) (c := k12c8) (by decide +kernel) rfl rfl rfl (by decide +kernel)
set_option maxRecDepth 65536 in
theorem w_c26 : (Jvm.Cond.code ({ cls := "com/example/fixd/fixd/location/Location", name := "mslAltitude", desc := "()Ljava/util/OptionalDouble;" } : Jvm.MethodName) prog_17_method_14_code (1 : Nat) (Option.some (Jvm.ClassFile.FieldType.object "java/util/OptionalDouble"))).before args0 about1 = true := code_word (m := ⟨12, 9⟩) (meth := k12m9) (c := k12c9) (by decide +kernel) rfl rfl rfl (by decide +kernel)
set_option maxRecDepth 65536 in
theorem w_c27 : (Jvm.Cond.code ({ cls := "com/example/fixd/fixd/location/Location", name := "accuracy", desc := "()Ljava/util/OptionalDouble;" } : Jvm.MethodName) prog_17_method_15_code (1 : Nat) (Option.some (Jvm.ClassFile.FieldType.object "java/util/OptionalDouble"))).before args0 about1 = true := code_word (m := ⟨12, 10⟩) (meth := k12m10) (c := k12c10) (by decide +kernel) rfl rfl rfl (by decide +kernel)
set_option maxRecDepth 65536 in
theorem w_c28 : (Jvm.Cond.code ({ cls := "com/example/fixd/fixd/location/Location", name := "satellites", desc := "()Ljava/util/OptionalInt;" } : Jvm.MethodName) prog_17_method_16_code (1 : Nat) (Option.some (Jvm.ClassFile.FieldType.object "java/util/OptionalInt"))).before args0 about1 = true := code_word (m := ⟨12, 11⟩) (meth := k12m11) (c := k12c11) (by decide +kernel) rfl rfl rfl (by decide +kernel)
set_option maxRecDepth 65536 in
theorem w_c29 : (Jvm.Cond.code ({ cls := "com/example/fixd/fixd/client/Location", name := "setTime", desc := "(J)V" } : Jvm.MethodName) prog_5_method_5_code (3 : Nat) (Option.none : Option Jvm.ClassFile.FieldType)).before args0 about1 = true := code_word (m := ⟨10, 4⟩) (meth := k10m4) (c := k10c4) (by decide +kernel) rfl rfl rfl (by decide +kernel)
set_option maxRecDepth 65536 in
theorem w_c30 : (Jvm.Cond.code ({ cls := "java/time/Instant", name := "ofEpochMilli", desc := "(J)Ljava/time/Instant;" } : Jvm.MethodName) jdk_2320_method_5_code (5 : Nat) (Option.some (Jvm.ClassFile.FieldType.object "java/time/Instant"))).before args0 about1 = true := code_word (m := ⟨17, 0⟩) (meth := k17m0) (c := k17c0) (by decide +kernel) rfl rfl rfl (by decide +kernel)
set_option maxRecDepth 65536 in
theorem w_c31 : (Jvm.Cond.code ({ cls := "java/lang/Math", name := "floorDiv", desc := "(JI)J" } : Jvm.MethodName) jdk_29_method_48_code (3 : Nat) (Option.some Jvm.ClassFile.FieldType.long)).before args0 about1 = true := code_word (m := ⟨20, 4⟩) (meth := k20m4) (c := k20c4) (by decide +kernel) rfl rfl rfl (by decide +kernel)
set_option maxRecDepth 65536 in
theorem w_c32 : (Jvm.Cond.code ({ cls := "java/lang/Math", name := "floorDiv", desc := "(JJ)J" } : Jvm.MethodName) jdk_29_method_49_code (6 : Nat) (Option.some Jvm.ClassFile.FieldType.long)).before args0 about1 = true := code_word (m := ⟨20, 5⟩) (meth := k20m5) (c := k20c5) (by decide +kernel) rfl rfl rfl (by decide +kernel)
set_option maxRecDepth 65536 in
theorem w_c33 : (Jvm.Cond.code ({ cls := "java/lang/Math", name := "floorMod", desc := "(JI)I" } : Jvm.MethodName) jdk_29_method_51_code (3 : Nat) (Option.some Jvm.ClassFile.FieldType.int)).before args0 about1 = true := code_word (m := ⟨20, 6⟩) (meth := k20m6) (c := k20c6) (by decide +kernel) rfl rfl rfl (by decide +kernel)
set_option maxRecDepth 65536 in
theorem w_c34 : (Jvm.Cond.code ({ cls := "java/lang/Math", name := "floorMod", desc := "(JJ)J" } : Jvm.MethodName) jdk_29_method_52_code (6 : Nat) (Option.some Jvm.ClassFile.FieldType.long)).before args0 about1 = true := code_word (m := ⟨20, 7⟩) (meth := k20m7) (c := k20c7) (by decide +kernel) rfl rfl rfl (by decide +kernel)
set_option maxRecDepth 65536 in
theorem w_c35 : (Jvm.Cond.code ({ cls := "java/time/Instant", name := "create", desc := "(JI)Ljava/time/Instant;" } : Jvm.MethodName) jdk_2320_method_8_code (3 : Nat) (Option.some (Jvm.ClassFile.FieldType.object "java/time/Instant"))).before args0 about1 = true := code_word (m := ⟨17, 1⟩) (meth := k17m1) (c := k17c1) (by decide +kernel) rfl rfl rfl (by decide +kernel)
set_option maxRecDepth 65536 in
theorem w_c36 : (Jvm.Cond.code ({ cls := "java/time/Instant", name := "<init>", desc := "(JI)V" } : Jvm.MethodName) jdk_2320_method_9_code (4 : Nat) (Option.none : Option Jvm.ClassFile.FieldType)).before args0 about1 = true := code_word (m := ⟨17, 2⟩) (meth := k17m2) (c := k17c2) (by decide +kernel) rfl rfl rfl (by decide +kernel)
set_option maxRecDepth 65536 in
theorem w_c37 : (Jvm.Cond.code ({ cls := "com/example/fixd/fixd/client/Location", name := "setLatitude", desc := "(D)V" } : Jvm.MethodName) prog_5_method_7_code (3 : Nat) (Option.none : Option Jvm.ClassFile.FieldType)).before args0 about1 = true := code_word (m := ⟨10, 6⟩) (meth := k10m6) (c := k10c6) (by decide +kernel) rfl rfl rfl (by decide +kernel)
set_option maxRecDepth 65536 in
theorem w_c38 : (Jvm.Cond.code ({ cls := "com/example/fixd/fixd/client/Location", name := "setLongitude", desc := "(D)V" } : Jvm.MethodName) prog_5_method_9_code (3 : Nat) (Option.none : Option Jvm.ClassFile.FieldType)).before args0 about1 = true := code_word (m := ⟨10, 8⟩) (meth := k10m8) (c := k10c8) (by decide +kernel) rfl rfl rfl (by decide +kernel)
set_option maxRecDepth 65536 in
theorem w_c39 : (Jvm.Cond.code ({ cls := "com/example/fixd/fixd/client/Location", name := "fix", desc := "(Ljava/lang/String;)Lcom/example/fixd/fixd/location/Location;" } : Jvm.MethodName) prog_5_method_26_code (2 : Nat) (Option.some (Jvm.ClassFile.FieldType.object "com/example/fixd/fixd/location/Location"))).before args0 about1 = true := code_word (m := ⟨10, 24⟩) (meth := k10m24) (c := k10c24) (by decide +kernel) rfl rfl rfl (by decide +kernel)
set_option maxRecDepth 65536 in
theorem w_c40 : (Jvm.Cond.code ({ cls := "com/example/fixd/fixd/client/Location", name := "getProvider", desc := "()Ljava/lang/String;" } : Jvm.MethodName) prog_5_method_3_code (1 : Nat) (Option.some (Jvm.ClassFile.FieldType.object "java/lang/String"))).before args0 about1 = true := code_word (m := ⟨10, 2⟩) (meth := k10m2) (c := k10c2) (by decide +kernel) rfl rfl rfl (by decide +kernel)
set_option maxRecDepth 65536 in
theorem w_c41 : (Jvm.Cond.code ({ cls := "java/lang/String", name := "equals", desc := "(Ljava/lang/Object;)Z" } : Jvm.MethodName) jdk_42_method_66_code (3 : Nat) (Option.some Jvm.ClassFile.FieldType.boolean)).before args0 about1 = true := code_word (m := ⟨7, 2⟩) (meth := k7m2) (c := k7c2) (by decide +kernel) rfl rfl rfl (by decide +kernel)
set_option maxRecDepth 65536 in
theorem w_c42 : (Jvm.Cond.code ({ cls := "com/example/fixd/fixd/client/Location", name := "getTime", desc := "()J" } : Jvm.MethodName) prog_5_method_4_code (1 : Nat) (Option.some Jvm.ClassFile.FieldType.long)).before args0 about1 = true := code_word (m := ⟨10, 3⟩) (meth := k10m3) (c := k10c3) (by decide +kernel) rfl rfl rfl (by decide +kernel)
set_option maxRecDepth 65536 in
theorem w_c43 : (Jvm.Cond.code ({ cls := "java/time/Instant", name := "toEpochMilli", desc := "()J" } : Jvm.MethodName) jdk_2320_method_40_code (5 : Nat) (Option.some Jvm.ClassFile.FieldType.long)).before args0 about1 = true := code_word (m := ⟨17, 3⟩) (meth := k17m3) (c := k17c3) (by decide +kernel) rfl rfl rfl (by decide +kernel)
set_option maxRecDepth 65536 in
theorem w_c44 : (Jvm.Cond.code ({ cls := "java/lang/Math", name := "multiplyExact", desc := "(JI)J" } : Jvm.MethodName) jdk_29_method_29_code (3 : Nat) (Option.some Jvm.ClassFile.FieldType.long)).before args0 about1 = true := code_word (m := ⟨20, 2⟩) (meth := k20m2) (c := k20c2) (by decide +kernel) rfl rfl rfl (by decide +kernel)
set_option maxRecDepth 65536 in
theorem w_c45 : (Jvm.Cond.code ({ cls := "java/lang/Math", name := "multiplyExact", desc := "(JJ)J" } : Jvm.MethodName) jdk_29_method_30_code (10 : Nat) (Option.some Jvm.ClassFile.FieldType.long)).before args0 about1 = true := code_word (m := ⟨20, 3⟩) (meth := k20m3) (c := k20c3) (by decide +kernel) rfl rfl rfl (by decide +kernel)
set_option maxRecDepth 65536 in
theorem w_c46 : (Jvm.Cond.code ({ cls := "java/lang/Math", name := "abs", desc := "(J)J" } : Jvm.MethodName) jdk_29_method_61_code (2 : Nat) (Option.some Jvm.ClassFile.FieldType.long)).before args0 about1 = true := code_word (m := ⟨20, 8⟩) (meth := k20m8) (c := k20c8) (by decide +kernel) rfl rfl rfl (by decide +kernel)
set_option maxRecDepth 65536 in
theorem w_c47 : (Jvm.Cond.code ({ cls := "java/lang/Math", name := "addExact", desc := "(JJ)J" } : Jvm.MethodName) jdk_29_method_25_code (6 : Nat) (Option.some Jvm.ClassFile.FieldType.long)).before args0 about1 = true := code_word (m := ⟨20, 1⟩) (meth := k20m1) (c := k20c1) (by decide +kernel) rfl rfl rfl (by decide +kernel)
set_option maxRecDepth 65536 in
theorem w_c48 : (Jvm.Cond.code ({ cls := "com/example/fixd/fixd/client/Location", name := "getLatitude", desc := "()D" } : Jvm.MethodName) prog_5_method_6_code (1 : Nat) (Option.some Jvm.ClassFile.FieldType.double)).before args0 about1 = true := code_word (m := ⟨10, 5⟩) (meth := k10m5) (c := k10c5) (by decide +kernel) rfl rfl rfl (by decide +kernel)
set_option maxRecDepth 65536 in
theorem w_c49 : (Jvm.Cond.code ({ cls := "com/example/fixd/fixd/client/Location", name := "getLongitude", desc := "()D" } : Jvm.MethodName) prog_5_method_8_code (1 : Nat) (Option.some Jvm.ClassFile.FieldType.double)).before args0 about1 = true := code_word (m := ⟨10, 7⟩) (meth := k10m7) (c := k10c7) (by decide +kernel) rfl rfl rfl (by decide +kernel)
set_option maxRecDepth 65536 in
theorem w_c50 : (Jvm.Cond.code ({ cls := "com/example/fixd/fixd/client/Location", name := "hasSpeed", desc := "()Z" } : Jvm.MethodName) prog_5_method_16_code (1 : Nat) (Option.some Jvm.ClassFile.FieldType.boolean)).before args0 about1 = true := code_word (m := ⟨10, 15⟩) (meth := k10m15) (c := k10c15) (by decide +kernel) rfl rfl rfl (by decide +kernel)
set_option maxRecDepth 65536 in
theorem w_c51 : (Jvm.Cond.code ({ cls := "java/util/OptionalDouble", name := "isPresent", desc := "()Z" } : Jvm.MethodName) jdk_2648_method_6_code (1 : Nat) (Option.some Jvm.ClassFile.FieldType.boolean)).before args0 about1 = true := code_word (m := ⟨18, 4⟩) (meth := k18m4) (c := k18c4) (by decide +kernel) rfl rfl rfl (by decide +kernel)
set_option maxRecDepth 65536 in
theorem w_c52 : (Jvm.Cond.code ({ cls := "com/example/fixd/fixd/client/Location", name := "getSpeed", desc := "()F" } : Jvm.MethodName) prog_5_method_17_code (1 : Nat) (Option.some Jvm.ClassFile.FieldType.float)).before args0 about1 = true := code_word (m := ⟨10, 16⟩) (meth := k10m16) (c := k10c16) (by decide +kernel) rfl rfl rfl (by decide +kernel)
set_option maxRecDepth 65536 in
theorem w_c53 : (Jvm.Cond.code ({ cls := "java/util/OptionalDouble", name := "orElse", desc := "(D)D" } : Jvm.MethodName) jdk_2648_method_11_code (3 : Nat) (Option.some Jvm.ClassFile.FieldType.double)).before args0 about1 = true := code_word (m := ⟨18, 5⟩) (meth := k18m5) (c := k18c5) (by decide +kernel) rfl rfl rfl (by decide +kernel)
set_option maxRecDepth 65536 in
theorem w_c54 : (Jvm.Cond.code ({ cls := "com/example/fixd/fixd/client/Location", name := "hasBearing", desc := "()Z" } : Jvm.MethodName) prog_5_method_19_code (1 : Nat) (Option.some Jvm.ClassFile.FieldType.boolean)).before args0 about1 = true := code_word (m := ⟨10, 18⟩) (meth := k10m18) (c := k10c18) (by decide +kernel) rfl rfl rfl (by decide +kernel)
set_option maxRecDepth 65536 in
theorem w_c55 : (Jvm.Cond.code ({ cls := "com/example/fixd/fixd/client/Location", name := "getBearing", desc := "()F" } : Jvm.MethodName) prog_5_method_20_code (1 : Nat) (Option.some Jvm.ClassFile.FieldType.float)).before args0 about1 = true := code_word (m := ⟨10, 19⟩) (meth := k10m19) (c := k10c19) (by decide +kernel) rfl rfl rfl (by decide +kernel)
set_option maxRecDepth 65536 in
theorem w_c56 : (Jvm.Cond.code ({ cls := "com/example/fixd/fixd/client/Location", name := "hasAltitude", desc := "()Z" } : Jvm.MethodName) prog_5_method_10_code (1 : Nat) (Option.some Jvm.ClassFile.FieldType.boolean)).before args0 about1 = true := code_word (m := ⟨10, 9⟩) (meth := k10m9) (c := k10c9) (by decide +kernel) rfl rfl rfl (by decide +kernel)
set_option maxRecDepth 65536 in
theorem w_c57 : (Jvm.Cond.code ({ cls := "com/example/fixd/fixd/client/Location", name := "getAltitude", desc := "()D" } : Jvm.MethodName) prog_5_method_11_code (1 : Nat) (Option.some Jvm.ClassFile.FieldType.double)).before args0 about1 = true := code_word (m := ⟨10, 10⟩) (meth := k10m10) (c := k10c10) (by decide +kernel) rfl rfl rfl (by decide +kernel)
set_option maxRecDepth 65536 in
theorem w_c58 : (Jvm.Cond.code ({ cls := "com/example/fixd/fixd/client/Location", name := "hasMslAltitude", desc := "()Z" } : Jvm.MethodName) prog_5_method_13_code (1 : Nat) (Option.some Jvm.ClassFile.FieldType.boolean)).before args0 about1 = true := code_word (m := ⟨10, 12⟩) (meth := k10m12) (c := k10c12) (by decide +kernel) rfl rfl rfl (by decide +kernel)
set_option maxRecDepth 65536 in
theorem w_c59 : (Jvm.Cond.code ({ cls := "com/example/fixd/fixd/client/Location", name := "getMslAltitude", desc := "()D" } : Jvm.MethodName) prog_5_method_14_code (1 : Nat) (Option.some Jvm.ClassFile.FieldType.double)).before args0 about1 = true := code_word (m := ⟨10, 13⟩) (meth := k10m13) (c := k10c13) (by decide +kernel) rfl rfl rfl (by decide +kernel)
set_option maxRecDepth 65536 in
theorem w_c60 : (Jvm.Cond.code ({ cls := "com/example/fixd/fixd/client/Location", name := "hasAccuracy", desc := "()Z" } : Jvm.MethodName) prog_5_method_22_code (1 : Nat) (Option.some Jvm.ClassFile.FieldType.boolean)).before args0 about1 = true := code_word (m := ⟨10, 21⟩) (meth := k10m21) (c := k10c21) (by decide +kernel) rfl rfl rfl (by decide +kernel)
set_option maxRecDepth 65536 in
theorem w_c61 : (Jvm.Cond.code ({ cls := "com/example/fixd/fixd/client/Location", name := "getAccuracy", desc := "()F" } : Jvm.MethodName) prog_5_method_23_code (1 : Nat) (Option.some Jvm.ClassFile.FieldType.float)).before args0 about1 = true := code_word (m := ⟨10, 22⟩) (meth := k10m22) (c := k10c22) (by decide +kernel) rfl rfl rfl (by decide +kernel)
set_option maxRecDepth 65536 in
theorem w_c62 : (Jvm.Cond.code ({ cls := "com/example/fixd/fixd/client/Location", name := "setSpeed", desc := "(F)V" } : Jvm.MethodName) prog_5_method_18_code (2 : Nat) (Option.none : Option Jvm.ClassFile.FieldType)).before args0 about1 = true := code_word (m := ⟨10, 17⟩) (meth := k10m17) (c := k10c17) (by decide +kernel) rfl rfl rfl (by decide +kernel)
set_option maxRecDepth 65536 in
theorem w_c63 : (Jvm.Cond.code ({ cls := "java/util/OptionalDouble", name := "of", desc := "(D)Ljava/util/OptionalDouble;" } : Jvm.MethodName) jdk_2648_method_4_code (2 : Nat) (Option.some (Jvm.ClassFile.FieldType.object "java/util/OptionalDouble"))).before args0 about1 = true := code_word (m := ⟨18, 3⟩) (meth := k18m3) (c := k18c3) (by decide +kernel) rfl rfl rfl (by decide +kernel)
set_option maxRecDepth 65536 in
theorem w_c64 : (Jvm.Cond.code ({ cls := "java/util/OptionalDouble", name := "<init>", desc := "(D)V" } : Jvm.MethodName) jdk_2648_method_3_code (3 : Nat) (Option.none : Option Jvm.ClassFile.FieldType)).before args0 about1 = true := code_word (m := ⟨18, 2⟩) (meth := k18m2) (c := k18c2) (by decide +kernel) rfl rfl rfl (by decide +kernel)
set_option maxRecDepth 65536 in
theorem w_c65 : (Jvm.Cond.code ({ cls := "com/example/fixd/fixd/client/Location", name := "setBearing", desc := "(F)V" } : Jvm.MethodName) prog_5_method_21_code (2 : Nat) (Option.none : Option Jvm.ClassFile.FieldType)).before args0 about1 = true := code_word (m := ⟨10, 20⟩) (meth := k10m20) (c := k10c20) (by decide +kernel) rfl rfl rfl (by decide +kernel)
set_option maxRecDepth 65536 in
theorem w_c66 : (Jvm.Cond.code ({ cls := "com/example/fixd/fixd/client/Location", name := "setMslAltitude", desc := "(D)V" } : Jvm.MethodName) prog_5_method_15_code (3 : Nat) (Option.none : Option Jvm.ClassFile.FieldType)).before args0 about1 = true := code_word (m := ⟨10, 14⟩) (meth := k10m14) (c := k10c14) (by decide +kernel) rfl rfl rfl (by decide +kernel)
set_option maxRecDepth 65536 in
theorem w_c67 : (Jvm.Cond.code ({ cls := "com/example/fixd/fixd/client/Location", name := "setAccuracy", desc := "(F)V" } : Jvm.MethodName) prog_5_method_24_code (2 : Nat) (Option.none : Option Jvm.ClassFile.FieldType)).before args0 about1 = true := code_word (m := ⟨10, 23⟩) (meth := k10m23) (c := k10c23) (by decide +kernel) rfl rfl rfl (by decide +kernel)
set_option maxRecDepth 65536 in
theorem w_c68 : (Jvm.Cond.code ({ cls := "com/example/fixd/fixd/client/Location", name := "setAltitude", desc := "(D)V" } : Jvm.MethodName) prog_5_method_12_code (3 : Nat) (Option.none : Option Jvm.ClassFile.FieldType)).before args0 about1 = true := code_word (m := ⟨10, 11⟩) (meth := k10m11) (c := k10c11) (by decide +kernel) rfl rfl rfl (by decide +kernel)
def codes1 : List Jvm.Cond := [Jvm.Cond.code x code maxLocals ret, Jvm.Cond.code ({ cls := "java/lang/String", name := "valueOf", desc := "(C)Ljava/lang/String;" } : Jvm.MethodName) jdk_42_method_139_code (1 : Nat) (Option.some (Jvm.ClassFile.FieldType.object "java/lang/String")), Jvm.Cond.code ({ cls := "java/lang/StringLatin1", name := "canEncode", desc := "(C)Z" } : Jvm.MethodName) jdk_43_method_3_code (1 : Nat) (Option.some Jvm.ClassFile.FieldType.boolean), Jvm.Cond.code ({ cls := "java/lang/StringLatin1", name := "toBytes", desc := "(C)[B" } : Jvm.MethodName) jdk_43_method_46_code (1 : Nat) (Option.some (Jvm.ClassFile.FieldType.array Jvm.ClassFile.FieldType.byte)), Jvm.Cond.code ({ cls := "java/lang/String", name := "<init>", desc := "([BB)V" } : Jvm.MethodName) jdk_42_method_151_code (3 : Nat) (Option.none : Option Jvm.ClassFile.FieldType), Jvm.Cond.code ({ cls := "java/lang/Object", name := "<init>", desc := "()V" } : Jvm.MethodName) object_method_1_code (1 : Nat) (Option.none : Option Jvm.ClassFile.FieldType), Jvm.Cond.code ({ cls := "java/lang/String", name := "<init>", desc := "([C)V" } : Jvm.MethodName) jdk_42_method_3_code (2 : Nat) (Option.none : Option Jvm.ClassFile.FieldType), Jvm.Cond.code ({ cls := "java/lang/String", name := "<init>", desc := "([CIILjava/lang/Void;)V" } : Jvm.MethodName) jdk_42_method_149_code (6 : Nat) (Option.none : Option Jvm.ClassFile.FieldType), Jvm.Cond.code ({ cls := "java/lang/StringUTF16", name := "compress", desc := "([CII)[B" } : Jvm.MethodName) jdk_52_method_16_code (6 : Nat) (Option.some (Jvm.ClassFile.FieldType.array Jvm.ClassFile.FieldType.byte)), Jvm.Cond.code ({ cls := "java/lang/StringUTF16", name := "compress", desc := "([CI[BII)I" } : Jvm.MethodName) jdk_52_method_21_code (7 : Nat) (Option.some Jvm.ClassFile.FieldType.int), Jvm.Cond.code ({ cls := "java/lang/StringUTF16", name := "coderFromArrayLen", desc := "([BI)B" } : Jvm.MethodName) jdk_52_method_15_code (2 : Nat) (Option.some Jvm.ClassFile.FieldType.byte), Jvm.Cond.code ({ cls := "com/example/fixd/fixd/client/Location", name := "<init>", desc := "(Ljava/lang/String;)V" } : Jvm.MethodName) prog_5_method_1_code (2 : Nat) (Option.none : Option Jvm.ClassFile.FieldType), Jvm.Cond.code ({ cls := "java/util/Objects", name := "requireNonNull", desc := "(Ljava/lang/Object;Ljava/lang/String;)Ljava/lang/Object;" } : Jvm.MethodName) jdk_31_method_11_code (2 : Nat) (Option.some (Jvm.ClassFile.FieldType.object "java/lang/Object")), Jvm.Cond.code ({ cls := "java/util/OptionalDouble", name := "empty", desc := "()Ljava/util/OptionalDouble;" } : Jvm.MethodName) jdk_2648_method_2_code (0 : Nat) (Option.some (Jvm.ClassFile.FieldType.object "java/util/OptionalDouble")), Jvm.Cond.code ({ cls := "com/example/fixd/fixd/location/Location", name := "<init>", desc := "(Ljava/lang/String;Ljava/time/Instant;DDLjava/util/OptionalDouble;Ljava/util/OptionalDouble;)V" } : Jvm.MethodName) prog_17_method_2_code (9 : Nat) (Option.none : Option Jvm.ClassFile.FieldType), Jvm.Cond.code ({ cls := "java/util/OptionalInt", name := "empty", desc := "()Ljava/util/OptionalInt;" } : Jvm.MethodName) jdk_2649_method_2_code (0 : Nat) (Option.some (Jvm.ClassFile.FieldType.object "java/util/OptionalInt")), Jvm.Cond.code ({ cls := "com/example/fixd/fixd/location/Location", name := "<init>", desc := "(Ljava/lang/String;Ljava/time/Instant;DDLjava/util/OptionalDouble;Ljava/util/OptionalDouble;Ljava/util/OptionalDouble;Ljava/util/OptionalDouble;Ljava/util/OptionalDouble;Ljava/util/OptionalInt;)V" } : Jvm.MethodName) prog_17_method_1_code (13 : Nat) (Option.none : Option Jvm.ClassFile.FieldType), Jvm.Cond.code ({ cls := "java/lang/Record", name := "<init>", desc := "()V" } : Jvm.MethodName) jdk_30_method_1_code (1 : Nat) (Option.none : Option Jvm.ClassFile.FieldType), Jvm.Cond.code ({ cls := "com/example/fixd/fixd/client/Location", name := "<init>", desc := "(Lcom/example/fixd/fixd/location/Location;)V" } : Jvm.MethodName) prog_5_method_2_code (2 : Nat) (Option.none : Option Jvm.ClassFile.FieldType), Jvm.Cond.code ({ cls := "com/example/fixd/fixd/location/Location", name := "provider", desc := "()Ljava/lang/String;" } : Jvm.MethodName) prog_17_method_7_code (1 : Nat) (Option.some (Jvm.ClassFile.FieldType.object "java/lang/String")), Jvm.Cond.code ({ cls := "com/example/fixd/fixd/location/Location", name := "time", desc := "()Ljava/time/Instant;" } : Jvm.MethodName) prog_17_method_8_code (1 : Nat) (Option.some (Jvm.ClassFile.FieldType.object "java/time/Instant")), Jvm.Cond.code ({ cls := "com/example/fixd/fixd/location/Location", name := "latitude", desc := "()D" } : Jvm.MethodName) prog_17_method_9_code (1 : Nat) (Option.some Jvm.ClassFile.FieldType.double), Jvm.Cond.code ({ cls := "com/example/fixd/fixd/location/Location", name := "longitude", desc := "()D" } : Jvm.MethodName) prog_17_method_10_code (1 : Nat) (Option.some Jvm.ClassFile.FieldType.double), Jvm.Cond.code ({ cls := "com/example/fixd/fixd/location/Location", name := "speed", desc := "()Ljava/util/OptionalDouble;" } : Jvm.MethodName) prog_17_method_11_code (1 : Nat) (Option.some (Jvm.ClassFile.FieldType.object "java/util/OptionalDouble")), Jvm.Cond.code ({ cls := "com/example/fixd/fixd/location/Location", name := "bearing", desc := "()Ljava/util/OptionalDouble;" } : Jvm.MethodName) prog_17_method_12_code (1 : Nat) (Option.some (Jvm.ClassFile.FieldType.object "java/util/OptionalDouble")), Jvm.Cond.code ({ cls := "com/example/fixd/fixd/location/Location", name := "altitude", desc := "()Ljava/util/OptionalDouble;" } : Jvm.MethodName) prog_17_method_13_code (1 : Nat) (Option.some (Jvm.ClassFile.FieldType.object "java/util/OptionalDouble")), Jvm.Cond.code ({ cls := "com/example/fixd/fixd/location/Location", name := "mslAltitude", desc := "()Ljava/util/OptionalDouble;" } : Jvm.MethodName) prog_17_method_14_code (1 : Nat) (Option.some (Jvm.ClassFile.FieldType.object "java/util/OptionalDouble")), Jvm.Cond.code ({ cls := "com/example/fixd/fixd/location/Location", name := "accuracy", desc := "()Ljava/util/OptionalDouble;" } : Jvm.MethodName) prog_17_method_15_code (1 : Nat) (Option.some (Jvm.ClassFile.FieldType.object "java/util/OptionalDouble")), Jvm.Cond.code ({ cls := "com/example/fixd/fixd/location/Location", name := "satellites", desc := "()Ljava/util/OptionalInt;" } : Jvm.MethodName) prog_17_method_16_code (1 : Nat) (Option.some (Jvm.ClassFile.FieldType.object "java/util/OptionalInt")), Jvm.Cond.code ({ cls := "com/example/fixd/fixd/client/Location", name := "setTime", desc := "(J)V" } : Jvm.MethodName) prog_5_method_5_code (3 : Nat) (Option.none : Option Jvm.ClassFile.FieldType), Jvm.Cond.code ({ cls := "java/time/Instant", name := "ofEpochMilli", desc := "(J)Ljava/time/Instant;" } : Jvm.MethodName) jdk_2320_method_5_code (5 : Nat) (Option.some (Jvm.ClassFile.FieldType.object "java/time/Instant")), Jvm.Cond.code ({ cls := "java/lang/Math", name := "floorDiv", desc := "(JI)J" } : Jvm.MethodName) jdk_29_method_48_code (3 : Nat) (Option.some Jvm.ClassFile.FieldType.long), Jvm.Cond.code ({ cls := "java/lang/Math", name := "floorDiv", desc := "(JJ)J" } : Jvm.MethodName) jdk_29_method_49_code (6 : Nat) (Option.some Jvm.ClassFile.FieldType.long), Jvm.Cond.code ({ cls := "java/lang/Math", name := "floorMod", desc := "(JI)I" } : Jvm.MethodName) jdk_29_method_51_code (3 : Nat) (Option.some Jvm.ClassFile.FieldType.int), Jvm.Cond.code ({ cls := "java/lang/Math", name := "floorMod", desc := "(JJ)J" } : Jvm.MethodName) jdk_29_method_52_code (6 : Nat) (Option.some Jvm.ClassFile.FieldType.long), Jvm.Cond.code ({ cls := "java/time/Instant", name := "create", desc := "(JI)Ljava/time/Instant;" } : Jvm.MethodName) jdk_2320_method_8_code (3 : Nat) (Option.some (Jvm.ClassFile.FieldType.object "java/time/Instant")), Jvm.Cond.code ({ cls := "java/time/Instant", name := "<init>", desc := "(JI)V" } : Jvm.MethodName) jdk_2320_method_9_code (4 : Nat) (Option.none : Option Jvm.ClassFile.FieldType), Jvm.Cond.code ({ cls := "com/example/fixd/fixd/client/Location", name := "setLatitude", desc := "(D)V" } : Jvm.MethodName) prog_5_method_7_code (3 : Nat) (Option.none : Option Jvm.ClassFile.FieldType), Jvm.Cond.code ({ cls := "com/example/fixd/fixd/client/Location", name := "setLongitude", desc := "(D)V" } : Jvm.MethodName) prog_5_method_9_code (3 : Nat) (Option.none : Option Jvm.ClassFile.FieldType), Jvm.Cond.code ({ cls := "com/example/fixd/fixd/client/Location", name := "fix", desc := "(Ljava/lang/String;)Lcom/example/fixd/fixd/location/Location;" } : Jvm.MethodName) prog_5_method_26_code (2 : Nat) (Option.some (Jvm.ClassFile.FieldType.object "com/example/fixd/fixd/location/Location")), Jvm.Cond.code ({ cls := "com/example/fixd/fixd/client/Location", name := "getProvider", desc := "()Ljava/lang/String;" } : Jvm.MethodName) prog_5_method_3_code (1 : Nat) (Option.some (Jvm.ClassFile.FieldType.object "java/lang/String")), Jvm.Cond.code ({ cls := "java/lang/String", name := "equals", desc := "(Ljava/lang/Object;)Z" } : Jvm.MethodName) jdk_42_method_66_code (3 : Nat) (Option.some Jvm.ClassFile.FieldType.boolean), Jvm.Cond.code ({ cls := "com/example/fixd/fixd/client/Location", name := "getTime", desc := "()J" } : Jvm.MethodName) prog_5_method_4_code (1 : Nat) (Option.some Jvm.ClassFile.FieldType.long), Jvm.Cond.code ({ cls := "java/time/Instant", name := "toEpochMilli", desc := "()J" } : Jvm.MethodName) jdk_2320_method_40_code (5 : Nat) (Option.some Jvm.ClassFile.FieldType.long), Jvm.Cond.code ({ cls := "java/lang/Math", name := "multiplyExact", desc := "(JI)J" } : Jvm.MethodName) jdk_29_method_29_code (3 : Nat) (Option.some Jvm.ClassFile.FieldType.long), Jvm.Cond.code ({ cls := "java/lang/Math", name := "multiplyExact", desc := "(JJ)J" } : Jvm.MethodName) jdk_29_method_30_code (10 : Nat) (Option.some Jvm.ClassFile.FieldType.long), Jvm.Cond.code ({ cls := "java/lang/Math", name := "abs", desc := "(J)J" } : Jvm.MethodName) jdk_29_method_61_code (2 : Nat) (Option.some Jvm.ClassFile.FieldType.long), Jvm.Cond.code ({ cls := "java/lang/Math", name := "addExact", desc := "(JJ)J" } : Jvm.MethodName) jdk_29_method_25_code (6 : Nat) (Option.some Jvm.ClassFile.FieldType.long), Jvm.Cond.code ({ cls := "com/example/fixd/fixd/client/Location", name := "getLatitude", desc := "()D" } : Jvm.MethodName) prog_5_method_6_code (1 : Nat) (Option.some Jvm.ClassFile.FieldType.double), Jvm.Cond.code ({ cls := "com/example/fixd/fixd/client/Location", name := "getLongitude", desc := "()D" } : Jvm.MethodName) prog_5_method_8_code (1 : Nat) (Option.some Jvm.ClassFile.FieldType.double), Jvm.Cond.code ({ cls := "com/example/fixd/fixd/client/Location", name := "hasSpeed", desc := "()Z" } : Jvm.MethodName) prog_5_method_16_code (1 : Nat) (Option.some Jvm.ClassFile.FieldType.boolean), Jvm.Cond.code ({ cls := "java/util/OptionalDouble", name := "isPresent", desc := "()Z" } : Jvm.MethodName) jdk_2648_method_6_code (1 : Nat) (Option.some Jvm.ClassFile.FieldType.boolean), Jvm.Cond.code ({ cls := "com/example/fixd/fixd/client/Location", name := "getSpeed", desc := "()F" } : Jvm.MethodName) prog_5_method_17_code (1 : Nat) (Option.some Jvm.ClassFile.FieldType.float), Jvm.Cond.code ({ cls := "java/util/OptionalDouble", name := "orElse", desc := "(D)D" } : Jvm.MethodName) jdk_2648_method_11_code (3 : Nat) (Option.some Jvm.ClassFile.FieldType.double), Jvm.Cond.code ({ cls := "com/example/fixd/fixd/client/Location", name := "hasBearing", desc := "()Z" } : Jvm.MethodName) prog_5_method_19_code (1 : Nat) (Option.some Jvm.ClassFile.FieldType.boolean), Jvm.Cond.code ({ cls := "com/example/fixd/fixd/client/Location", name := "getBearing", desc := "()F" } : Jvm.MethodName) prog_5_method_20_code (1 : Nat) (Option.some Jvm.ClassFile.FieldType.float), Jvm.Cond.code ({ cls := "com/example/fixd/fixd/client/Location", name := "hasAltitude", desc := "()Z" } : Jvm.MethodName) prog_5_method_10_code (1 : Nat) (Option.some Jvm.ClassFile.FieldType.boolean), Jvm.Cond.code ({ cls := "com/example/fixd/fixd/client/Location", name := "getAltitude", desc := "()D" } : Jvm.MethodName) prog_5_method_11_code (1 : Nat) (Option.some Jvm.ClassFile.FieldType.double), Jvm.Cond.code ({ cls := "com/example/fixd/fixd/client/Location", name := "hasMslAltitude", desc := "()Z" } : Jvm.MethodName) prog_5_method_13_code (1 : Nat) (Option.some Jvm.ClassFile.FieldType.boolean), Jvm.Cond.code ({ cls := "com/example/fixd/fixd/client/Location", name := "getMslAltitude", desc := "()D" } : Jvm.MethodName) prog_5_method_14_code (1 : Nat) (Option.some Jvm.ClassFile.FieldType.double), Jvm.Cond.code ({ cls := "com/example/fixd/fixd/client/Location", name := "hasAccuracy", desc := "()Z" } : Jvm.MethodName) prog_5_method_22_code (1 : Nat) (Option.some Jvm.ClassFile.FieldType.boolean), Jvm.Cond.code ({ cls := "com/example/fixd/fixd/client/Location", name := "getAccuracy", desc := "()F" } : Jvm.MethodName) prog_5_method_23_code (1 : Nat) (Option.some Jvm.ClassFile.FieldType.float), Jvm.Cond.code ({ cls := "com/example/fixd/fixd/client/Location", name := "setSpeed", desc := "(F)V" } : Jvm.MethodName) prog_5_method_18_code (2 : Nat) (Option.none : Option Jvm.ClassFile.FieldType), Jvm.Cond.code ({ cls := "java/util/OptionalDouble", name := "of", desc := "(D)Ljava/util/OptionalDouble;" } : Jvm.MethodName) jdk_2648_method_4_code (2 : Nat) (Option.some (Jvm.ClassFile.FieldType.object "java/util/OptionalDouble")), Jvm.Cond.code ({ cls := "java/util/OptionalDouble", name := "<init>", desc := "(D)V" } : Jvm.MethodName) jdk_2648_method_3_code (3 : Nat) (Option.none : Option Jvm.ClassFile.FieldType), Jvm.Cond.code ({ cls := "com/example/fixd/fixd/client/Location", name := "setBearing", desc := "(F)V" } : Jvm.MethodName) prog_5_method_21_code (2 : Nat) (Option.none : Option Jvm.ClassFile.FieldType), Jvm.Cond.code ({ cls := "com/example/fixd/fixd/client/Location", name := "setMslAltitude", desc := "(D)V" } : Jvm.MethodName) prog_5_method_15_code (3 : Nat) (Option.none : Option Jvm.ClassFile.FieldType), Jvm.Cond.code ({ cls := "com/example/fixd/fixd/client/Location", name := "setAccuracy", desc := "(F)V" } : Jvm.MethodName) prog_5_method_24_code (2 : Nat) (Option.none : Option Jvm.ClassFile.FieldType), Jvm.Cond.code ({ cls := "com/example/fixd/fixd/client/Location", name := "setAltitude", desc := "(D)V" } : Jvm.MethodName) prog_5_method_12_code (3 : Nat) (Option.none : Option Jvm.ClassFile.FieldType)]
set_option maxRecDepth 65536 in
theorem codes_eq : words1.filter isCode = codes1 := rfl
theorem w_codes : ∀ c ∈ words1.filter isCode, c.before args0 about1 = true := by
  rw [codes_eq]
  intro c hc
  simp only [codes1, List.mem_cons, List.not_mem_nil, or_false] at hc
  rcases hc with rfl | rfl | rfl | rfl | rfl | rfl | rfl | rfl | rfl | rfl | rfl | rfl | rfl | rfl | rfl | rfl | rfl | rfl | rfl | rfl | rfl | rfl | rfl | rfl | rfl | rfl | rfl | rfl | rfl | rfl | rfl | rfl | rfl | rfl | rfl | rfl | rfl | rfl | rfl | rfl | rfl | rfl | rfl | rfl | rfl | rfl | rfl | rfl | rfl | rfl | rfl | rfl | rfl | rfl | rfl | rfl | rfl | rfl | rfl | rfl | rfl | rfl | rfl | rfl | rfl | rfl | rfl | rfl | rfl
  · exact w_c0
  · exact w_c1
  · exact w_c2
  · exact w_c3
  · exact w_c4
  · exact w_c5
  · exact w_c6
  · exact w_c7
  · exact w_c8
  · exact w_c9
  · exact w_c10
  · exact w_c11
  · exact w_c12
  · exact w_c13
  · exact w_c14
  · exact w_c15
  · exact w_c16
  · exact w_c17
  · exact w_c18
  · exact w_c19
  · exact w_c20
  · exact w_c21
  · exact w_c22
  · exact w_c23
  · exact w_c24
  · exact w_c25
  · exact w_c26
  · exact w_c27
  · exact w_c28
  · exact w_c29
  · exact w_c30
  · exact w_c31
  · exact w_c32
  · exact w_c33
  · exact w_c34
  · exact w_c35
  · exact w_c36
  · exact w_c37
  · exact w_c38
  · exact w_c39
  · exact w_c40
  · exact w_c41
  · exact w_c42
  · exact w_c43
  · exact w_c44
  · exact w_c45
  · exact w_c46
  · exact w_c47
  · exact w_c48
  · exact w_c49
  · exact w_c50
  · exact w_c51
  · exact w_c52
  · exact w_c53
  · exact w_c54
  · exact w_c55
  · exact w_c56
  · exact w_c57
  · exact w_c58
  · exact w_c59
  · exact w_c60
  · exact w_c61
  · exact w_c62
  · exact w_c63
  · exact w_c64
  · exact w_c65
  · exact w_c66
  · exact w_c67
  · exact w_c68
set_option maxRecDepth 65536 in
theorem w_t1 : (words1.take 24).all (fun c => isCode c || c.before args0 about1) = true := by decide +kernel
set_option maxRecDepth 65536 in
theorem w_t2 : ((words1.drop 24).take 24).all (fun c => isCode c || c.before args0 about1) = true := by decide +kernel
set_option maxRecDepth 65536 in
theorem w_t3 : (((words1.drop 24).drop 24).take 24).all (fun c => isCode c || c.before args0 about1) = true := by decide +kernel
set_option maxRecDepth 65536 in
theorem w_t4 : ((((words1.drop 24).drop 24).drop 24).take 24).all (fun c => isCode c || c.before args0 about1) = true := by decide +kernel
set_option maxRecDepth 65536 in
theorem w_t5 : (((((words1.drop 24).drop 24).drop 24).drop 24).take 24).all (fun c => isCode c || c.before args0 about1) = true := by decide +kernel
set_option maxRecDepth 65536 in
theorem w_t6 : ((((((words1.drop 24).drop 24).drop 24).drop 24).drop 24).take 24).all (fun c => isCode c || c.before args0 about1) = true := by decide +kernel
set_option maxRecDepth 65536 in
theorem w_t7 : (((((((words1.drop 24).drop 24).drop 24).drop 24).drop 24).drop 24).take 24).all (fun c => isCode c || c.before args0 about1) = true := by decide +kernel
set_option maxRecDepth 65536 in
theorem w_t8 : ((((((((words1.drop 24).drop 24).drop 24).drop 24).drop 24).drop 24).drop 24).take 24).all (fun c => isCode c || c.before args0 about1) = true := by decide +kernel
set_option maxRecDepth 65536 in
theorem w_t9 : (((((((((words1.drop 24).drop 24).drop 24).drop 24).drop 24).drop 24).drop 24).drop 24).take 24).all (fun c => isCode c || c.before args0 about1) = true := by decide +kernel
set_option maxRecDepth 65536 in
theorem w_t10 : ((((((((((words1.drop 24).drop 24).drop 24).drop 24).drop 24).drop 24).drop 24).drop 24).drop 24).take 24).all (fun c => isCode c || c.before args0 about1) = true := by decide +kernel
set_option maxRecDepth 65536 in
theorem w_t11 : (((((((((((words1.drop 24).drop 24).drop 24).drop 24).drop 24).drop 24).drop 24).drop 24).drop 24).drop 24).take 24).all (fun c => isCode c || c.before args0 about1) = true := by decide +kernel
set_option maxRecDepth 65536 in
theorem w_t12 : ((((((((((((words1.drop 24).drop 24).drop 24).drop 24).drop 24).drop 24).drop 24).drop 24).drop 24).drop 24).drop 24).take 24).all (fun c => isCode c || c.before args0 about1) = true := by decide +kernel
set_option maxRecDepth 65536 in
theorem w_t13 : (((((((((((((words1.drop 24).drop 24).drop 24).drop 24).drop 24).drop 24).drop 24).drop 24).drop 24).drop 24).drop 24).drop 24).take 24).all (fun c => isCode c || c.before args0 about1) = true := by decide +kernel
set_option maxRecDepth 65536 in
theorem w_t14 : ((((((((((((((words1.drop 24).drop 24).drop 24).drop 24).drop 24).drop 24).drop 24).drop 24).drop 24).drop 24).drop 24).drop 24).drop 24).take 24).all (fun c => isCode c || c.before args0 about1) = true := by decide +kernel
set_option maxRecDepth 65536 in
theorem w_t15 : (((((((((((((((words1.drop 24).drop 24).drop 24).drop 24).drop 24).drop 24).drop 24).drop 24).drop 24).drop 24).drop 24).drop 24).drop 24).drop 24).take 24).all (fun c => isCode c || c.before args0 about1) = true := by decide +kernel
set_option maxRecDepth 65536 in
theorem w_t16 : ((((((((((((((((words1.drop 24).drop 24).drop 24).drop 24).drop 24).drop 24).drop 24).drop 24).drop 24).drop 24).drop 24).drop 24).drop 24).drop 24).drop 24).take 24).all (fun c => isCode c || c.before args0 about1) = true := by decide +kernel
set_option maxRecDepth 65536 in
theorem w_t17 : ((((((((((((((((words1.drop 24).drop 24).drop 24).drop 24).drop 24).drop 24).drop 24).drop 24).drop 24).drop 24).drop 24).drop 24).drop 24).drop 24).drop 24).drop 24).all (fun c => isCode c || c.before args0 about1) = true := by decide +kernel
theorem w_tables : (allAtoms (Jvm.Cond.code x code maxLocals ret :: tables_1)).before args0 about1 = true := by
  rw [allAtoms_all]
  show words1.all (fun c => c.before args0 about1) = true
  refine all_split ?_ w_codes
  rw [← List.take_append_drop 24 words1, List.all_append, w_t1, ← List.take_append_drop 24 (words1.drop 24), List.all_append, w_t2, ← List.take_append_drop 24 ((words1.drop 24).drop 24), List.all_append, w_t3, ← List.take_append_drop 24 (((words1.drop 24).drop 24).drop 24), List.all_append, w_t4, ← List.take_append_drop 24 ((((words1.drop 24).drop 24).drop 24).drop 24), List.all_append, w_t5, ← List.take_append_drop 24 (((((words1.drop 24).drop 24).drop 24).drop 24).drop 24), List.all_append, w_t6, ← List.take_append_drop 24 ((((((words1.drop 24).drop 24).drop 24).drop 24).drop 24).drop 24), List.all_append, w_t7, ← List.take_append_drop 24 (((((((words1.drop 24).drop 24).drop 24).drop 24).drop 24).drop 24).drop 24), List.all_append, w_t8, ← List.take_append_drop 24 ((((((((words1.drop 24).drop 24).drop 24).drop 24).drop 24).drop 24).drop 24).drop 24), List.all_append, w_t9, ← List.take_append_drop 24 (((((((((words1.drop 24).drop 24).drop 24).drop 24).drop 24).drop 24).drop 24).drop 24).drop 24), List.all_append, w_t10, ← List.take_append_drop 24 ((((((((((words1.drop 24).drop 24).drop 24).drop 24).drop 24).drop 24).drop 24).drop 24).drop 24).drop 24), List.all_append, w_t11, ← List.take_append_drop 24 (((((((((((words1.drop 24).drop 24).drop 24).drop 24).drop 24).drop 24).drop 24).drop 24).drop 24).drop 24).drop 24), List.all_append, w_t12, ← List.take_append_drop 24 ((((((((((((words1.drop 24).drop 24).drop 24).drop 24).drop 24).drop 24).drop 24).drop 24).drop 24).drop 24).drop 24).drop 24), List.all_append, w_t13, ← List.take_append_drop 24 (((((((((((((words1.drop 24).drop 24).drop 24).drop 24).drop 24).drop 24).drop 24).drop 24).drop 24).drop 24).drop 24).drop 24).drop 24), List.all_append, w_t14, ← List.take_append_drop 24 ((((((((((((((words1.drop 24).drop 24).drop 24).drop 24).drop 24).drop 24).drop 24).drop 24).drop 24).drop 24).drop 24).drop 24).drop 24).drop 24), List.all_append, w_t15, ← List.take_append_drop 24 (((((((((((((((words1.drop 24).drop 24).drop 24).drop 24).drop 24).drop 24).drop 24).drop 24).drop 24).drop 24).drop 24).drop 24).drop 24).drop 24).drop 24), List.all_append, w_t16, w_t17]
  rfl
set_option maxRecDepth 65536 in
theorem w_rest : rest_1_c.before args0 about1 = true := by decide +kernel
set_option maxRecDepth 65536 in
theorem w_case : (Jvm.Cond.and given_1 narrow_1).before args0 about1 = true := by decide +kernel
theorem w_applies : (headSpec (Jvm.Cond.code x code maxLocals ret :: tables_1) room_1).applies x e0.platform about1 = true :=
  (Spec.applies_iff w_frames).mpr ⟨w_running, w_runnable, w_alone, w_named, w_hears, w_ripe, w_room, w_tables⟩
theorem atStart : AtStart classFile x code maxLocals ret World_1 tables_1 room_1 Calls_1 rest_1 Pre_1 launch0 p0 e0 about1 theMethod args0 below0 :=
  ⟨lists_1, trivial, launch0.admits_env _ _ _, launch0.least_env, fairChoices_fair.cas, fairChoices_fair.clock, w_frames, w_args, w_heap, w_applies, trivial, w_rest, w_case⟩
end start1
theorem witness_1 : WitnessClaimed_1 := ⟨start1.p0, start1.e0, start1.about1, start1.theMethod, start1.args0, start1.below0, start1.atStart⟩
end Jvm.Pilot.@@N@@
