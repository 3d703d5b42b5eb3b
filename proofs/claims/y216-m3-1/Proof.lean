import JvmDerived
import JvmDerived.Pilot.@@N@@Statement
import JvmDerived.Pilot.@@N@@Code
set_option linter.unusedVariables false
set_option linter.unusedSimpArgs false
namespace Jvm.RoadKit
open Sem ClassFile Op Lib Jvm.Stand Jvm.Free Jvm.LawKit
section New
variable {p : Program} {l : Launch} {e : Env} {R : Room} {s : State} {m : MethodId} {args : Array Value} {below : List Frame} {meth : Method} {c : Code} {T : State} {locs : List Loc} {cells slots : Nat}
theorem retI (X : Stand p l e R s m args below meth c T locs cells slots) (hx : p.tables.exec = Jvm.exec) {pc : Nat} {Ls : Array Slot} {z : Int32} {rest : List Value} (hret : meth.sig.returnType = some .int) (hd : decode c.code pc = .ok (.ireturn, 1)) {fs : List Frame}
    (hl : ∀ (f : JFrame) (acts : List Action), f.method = m → f.locked = none → f.entered = [] → (doReturn e (T.setTop f) acts (some (.int z))).1 = T.setFrames fs) : Steps p.tables e below (T.setTop (mkF m pc Ls (.int z :: rest))) (T.setFrames fs) := by
  have hm' : T.vm.method? m = some meth := X.method'
  have hn : narrow .int (.int z) = .int z := rfl
  show Steps p.tables e below (T.setTop { method := m, pc := pc, locals := Ls, stack := _ :: rest, locked := none }) _
  jvm_step X.here [X.here.top, hx, hd, hm', hret, hn]
  first | (intro acts; rw [hl _ acts rfl rfl rfl]) | rw [hl _ _ rfl rfl rfl]
  exact Steps.refl _
/-- the run comes from S to a state of which Φ holds -/
def ownGo (tb : Tables) (e : Env) (below : List Frame) (S : State) (Φ : State → Prop) : Prop := ∃ t, Steps tb e below S t ∧ Φ t
theorem ownStep {tb : Tables} {S S' : State} {Φ : State → Prop} (h : ∀ t, Steps tb e below S' t → Steps tb e below S t) (k : ownGo tb e below S' Φ) : ownGo tb e below S Φ := by
  obtain ⟨t, a, b⟩ := k; exact ⟨t, h t a, b⟩
/-- a body's end: what its contract says -/
def ownEnd (below : List Frame) (s : State) (Q : Option Value → Heap → List Loc → Prop) (k n : Nat) (t : State) : Prop :=
  t.status = .running ∧ ∃ v L, Ended t below (.returned v) ∧ Q v t.heap L ∧ FrameEnd s (.returned v) t L k n
theorem ownFin {tb : Tables} {S : State} {Q : Option Value → Heap → List Loc → Prop} {k n : Nat} (h : ownGo tb e below S (ownEnd below s Q k n)) :
    ∃ s₂ o, Steps tb e below S s₂ ∧ s₂.status = .running ∧ Ended s₂ below o ∧ ∃ v L, o = .returned v ∧ Q v s₂.heap L ∧ FrameEnd s o s₂ L k n := by
  obtain ⟨t, a, b, v, L, c1, d, f⟩ := h; exact ⟨t, _, a, b, c1, v, L, rfl, d, f⟩
theorem ownRet (X : Stand p l e R s m args below meth c T locs cells slots) {g : JFrame} {v : Option Value} {Q : Option Value → Heap → List Loc → Prop} {k n : Nat} (hlocks : meth.locks = false) (hv : meth.sig.returnType = none → v = none)
    (hs : ∀ fs, (∀ (f : JFrame) (acts : List Action), f.method = m → f.locked = none → f.entered = [] → (doReturn e (T.setTop f) acts v).1 = T.setFrames fs) → Steps p.tables e below (T.setTop g) (T.setFrames fs))
    (hQ : Q v T.heap locs) (hc : cells ≤ k) (hn : slots ≤ n) : ownGo p.tables e below (T.setTop g) (ownEnd below s Q k n) := by
  obtain ⟨fs, hr, hrun, hended, hW, hsame⟩ := X.leave hv hlocks
  exact ⟨_, hs fs hr, hrun, v, locs, hended, hQ, ⟨_, rfl⟩, hW, hsame.mono hc hn⟩
end New
section Heaps
variable {Z : State} {h h' h0 : Heap} {ws : List Addr}
theorem own_extOf (K : Keep h h' []) : Ext h h' := ⟨K.1, fun a c q => K.2.1 a c q nin0⟩
theorem own_extRefl (h : Heap) : Ext h h := ⟨Nat.le_refl _, fun _ _ q => q⟩
theorem own_extTrans {h2 : Heap} (E : Ext h h') (F : Ext h' h2) : Ext h h2 := ⟨Nat.le_trans E.1 F.1, fun a c q => F.2 a c (E.2 a c q)⟩
theorem own_staKeep {C n d : String} {w : Value} (F : Sta Z h C n d w) (K : Keep h h' ws) (q : ∀ x ∈ ws, ∀ cell : Cell, h[x]? = some cell → cell.vm.isStatics = false) : Sta Z h' C n d w := by
  obtain ⟨cf, i, k, f, st, cell, h1, h2, h3, h4, h5, h6, h7⟩ := F
  exact ⟨cf, i, k, f, st, cell, h1, h2, h3, h4, K.2.1 st cell h5 (fun z => by rw [q st z cell h5] at h6; cases h6), h6, h7⟩
theorem own_insKeep {a : Addr} {C : String} {b : Bool} (F : Ins Z h a C b) (K : Keep h h' ws) : Ins Z h' a C b := by
  obtain ⟨cell, cT, h1, h2, h3⟩ := F
  obtain ⟨c', e1, e2, e3, -⟩ := K.2.2 a cell h1
  exact ⟨c', cT, e1, h2, by rw [e2, e3]; exact h3⟩
theorem own_scrSet {a : Addr} {cl : Cell} {z j x : Int32} (F : Scr Z h a cl z) (hj : ¬ (j < 0 ∨ cl.slots.size ≤ j.toNatClampNeg)) (W : Wr h h' a j.toNatClampNeg (.int x)) : ∃ cl', Scr Z h' a cl' z := by
  obtain ⟨A, S, N, H⟩ := F
  refine ⟨_, A.same W, by rw [sz_set]; exact S, N, fun i hi => ?_⟩
  rw [sz_set] at hi
  by_cases e : i = j
  · have q := get_hit (v := Value.int x) hj e
    rw [q, atv_of q]
  · have q := get_miss (c := cl) (v := Value.int x) (fun y => hj (Or.inl y)) (fun y => hi (Or.inl y)) e
    have r := H i hi
    rw [← q] at r
    rw [r, atv_of r]
theorem own_scrOf {a : Addr} {k : ClassId} {z : Int32} {vs : List Value} {d : Value} (F : Arv Z h a k .int z vs d) : ∃ cl, Scr Z h a cl z := by
  obtain ⟨c, A, q, S, N, H, G⟩ := F
  refine ⟨c, A, S, N, fun i hi => ?_⟩
  have lt : i.toNatClampNeg < c.slots.size := Nat.lt_of_not_le fun y => hi (Or.inr y)
  obtain ⟨w, hw⟩ := fit_I (G _ lt) (Or.inl rfl)
  have e := H _ lt
  rw [hw] at e
  rw [e, atv_of e]
end Heaps
section Start
variable {args : Array Value} {first s : State} {o : Option Outcome} {idx : List Nat} {t : Term}
theorem own_eqI {k : Int32} (h : (Cond.eq t (.int k)).value args first o s idx = some true) : t.eval args first o idx s = some (.int k) := by
  simp only [Cond.value, Term.eval] at h
  cases ht : t.eval args first o idx s with
  | none => simp [ht] at h
  | some x => cases x <;> simp [ht] at h ⊢; exact h
theorem own_len0 {k : Int32} {a : Addr} {cl : Cell} {ty : FieldType} (h : (Term.length t).eval args first o idx s = some (.int k)) (ht : t.eval args first o idx s = some (.ref a)) (A : Arr s s.heap a cl ty) : cl.slots.size < 2 ^ 31 ∧ cl.slots.size.toInt32 = k := by
  have e5 := A.fin (U := s) (Vm.Alike.refl _)
  simp only [Term.eval, ht, Option.bind_eq_bind, Option.bind_some, e5] at h
  by_cases q : cl.slots.size < 2 ^ 31
  · rw [if_pos q] at h; exact ⟨q, Value.int.inj (Option.some.inj h)⟩
  · rw [if_neg q] at h; cases h
theorem own_idxsub {k j : Int32} (hj : ¬ j < 0) : (Term.sub (.index 0) (.int k)).eval args s o [j.toNatClampNeg] s = some (.int (j - k)) := by
  have q : (Term.index 0).eval args s o [j.toNatClampNeg] s = some (.int j) := idx_at hj
  simp only [Term.eval] at q ⊢
  simpa using q
theorem own_arv0 {Z : State} {a : Addr} {cl : Cell} {ty : FieldType} {d : Value} (A : Arr Z s.heap a cl ty) (h : cl.slots.size < 2 ^ 31 ∧ cl.slots.size.toInt32 = (0 : Int32)) : Arv Z s.heap a cl.cls ty (0 : Int32) [] d := by
  have z : cl.slots.size = 0 := by
    have q := len_toInt h.1
    rw [h.2] at q
    have e0 : (0 : Int32).toInt = 0 := by decide
    omega
  exact ⟨cl, A, rfl, z, by decide, fun k hk => absurd hk (by omega), fun k hk => absurd hk (by omega)⟩
end Start
end Jvm.RoadKit
/- laws to paste: Road.backV (cut by pick.py; bodies as the Statement names them) -/
namespace Jvm.Pilot.@@N@@
namespace StrChars
open Jvm Sem ClassFile Op Lib Jvm.Stand Jvm.Free.XT Jvm.Free.ALB Jvm.Free.JM Jvm.Free
open Jvm.Lib.Cold (StaticIs)
/-- a char array whose places are chars -/
def Ch (a : Addr) (A : Cell) (U : State) : Prop := Arr .char a A U ∧ Typed .char A
theorem Ch.mv {a : Addr} {A : Cell} {U U' : State} (h : Ch a A U) (hal : U.vm.Alike U'.vm) (hh : U'.heap = U.heap) : Ch a A U' := ⟨h.1.mv hal hh, h.2⟩
theorem Ch.keep {a : Addr} {A : Cell} {U U' : State} (h : Ch a A U) (hal : U.vm.Alike U'.vm) (hk : U'.heap[a]? = some A) : Ch a A U' := ⟨h.1.keep hal hk, h.2⟩
/-- what place i of a char[]'s cell holds -/
def cv (A : Cell) (i : Nat) : Int32 := match A.slots[i]? with | some (.int x) => x | _ => 0
theorem Ch.get {a : Addr} {A : Cell} {U : State} (h : Ch a A U) {i : Nat} (hi : i < A.slots.size) : A.slots[i]? = some (.int (cv A i)) := by
  have e := Array.getElem?_eq_getElem hi
  have f := h.2 i _ e
  unfold cv; rw [e]
  generalize A.slots[i] = v at f
  cases v <;> simp [fits] at f ⊢
/-- the byte that i2b leaves of a char -/
def lo8 (x : Int32) : Int32 := x.toInt8.toInt32
theorem fits_lo8 (y : Int32) : fits .byte (.int (lo8 y)) = true := by
  have h1 := y.toInt8.le_toInt
  have h2 := y.toInt8.toInt_lt
  simp only [lo8, fits, Bool.and_eq_true, decide_eq_true_eq, Int32.le_iff_toInt_le, Int8.toInt_toInt32, show (-128 : Int32).toInt = -128 from by decide, show (127 : Int32).toInt = 127 from by decide]
  omega
/-- A' is A but that each place j of lo .. hi - 1 holds f j -/
def Laid (A A' : Cell) (lo hi : Nat) (f : Nat → Value) : Prop := A'.cls = A.cls ∧ A'.vm = A.vm ∧ A'.slots.size = A.slots.size ∧ ∀ i, A'.slots[i]? = if lo ≤ i ∧ i < hi then some (f i) else A.slots[i]?
theorem Laid.zero (A : Cell) (lo : Nat) (f : Nat → Value) : Laid A A lo (lo + 0) f := ⟨rfl, rfl, rfl, fun i => by rw [if_neg (by omega)]⟩
theorem Laid.step {A Ak : Cell} {lo k : Nat} {f : Nat → Value} {v : Value} (h : Laid A Ak lo k f) (hlo : lo ≤ k) (hk : k < Ak.slots.size) (hv : v = f k) : Laid A (Ak.setSlot k v) lo (k + 1) f := by
  refine ⟨h.1, h.2.1, by simpa [Cell.setSlot] using h.2.2.1, fun i => ?_⟩
  by_cases e : k = i
  · subst e; rw [Cell.slots_setSlot_self v hk, if_pos (by omega), hv]
  · rw [Cell.slots_setSlot_ne v e, h.2.2.2 i]
    by_cases q : lo ≤ i ∧ i < k
    · rw [if_pos q, if_pos (by omega)]
    · rw [if_neg q, if_neg (by omega)]
def U16 : String := "java/lang/StringUTF16"
namespace Cmp5
def yN : MethodName := ⟨"java/lang/StringUTF16", "compress", "([CI[BII)I"⟩
abbrev yB : ByteArray := jdk_52_method_21_code
theorem d0 : decode yB 0 = .ok (.iconst 0, 1) := by decide +kernel
theorem d1 : decode yB 1 = .ok (.istore 5, 2) := by decide +kernel
theorem d3 : decode yB 3 = .ok (.iload 5, 2) := by decide +kernel
theorem d5 : decode yB 5 = .ok (.iload 4, 2) := by decide +kernel
theorem d7 : decode yB 7 = .ok (.if_icmp (.ge) 37, 3) := by decide +kernel
theorem d10 : decode yB 10 = .ok (.aload_n 0, 1) := by decide +kernel
theorem d11 : decode yB 11 = .ok (.iload_n 1, 1) := by decide +kernel
theorem d12 : decode yB 12 = .ok (.caload, 1) := by decide +kernel
theorem d13 : decode yB 13 = .ok (.istore 6, 2) := by decide +kernel
theorem d15 : decode yB 15 = .ok (.iload 6, 2) := by decide +kernel
theorem d17 : decode yB 17 = .ok (.sipush 255, 3) := by decide +kernel
theorem d20 : decode yB 20 = .ok (.if_icmp (.le) 6, 3) := by decide +kernel
theorem d26 : decode yB 26 = .ok (.aload_n 2, 1) := by decide +kernel
theorem d27 : decode yB 27 = .ok (.iload_n 3, 1) := by decide +kernel
theorem d28 : decode yB 28 = .ok (.iload 6, 2) := by decide +kernel
theorem d30 : decode yB 30 = .ok (.i2b, 1) := by decide +kernel
theorem d31 : decode yB 31 = .ok (.bastore, 1) := by decide +kernel
theorem d32 : decode yB 32 = .ok (.iinc 1 1, 3) := by decide +kernel
theorem d35 : decode yB 35 = .ok (.iinc 3 1, 3) := by decide +kernel
theorem d38 : decode yB 38 = .ok (.iinc 5 1, 3) := by decide +kernel
theorem d41 : decode yB 41 = .ok (.goto (-38), 3) := by decide +kernel
theorem d44 : decode yB 44 = .ok (.iload 4, 2) := by decide +kernel
theorem d46 : decode yB 46 = .ok (.ireturn, 1) := by decide +kernel
def site : List Cond := []
def tab : Cond := tabOf yN yB 7 (some .int) site
def P (b : Addr) (A : Cell) (d : Addr) (B : Cell) (o q len : Nat) (args : Array Value) (s : State) : Prop := args = #[.ref b, .int (Int32.ofNat o), .ref d, .int (Int32.ofNat q), .int (Int32.ofNat len)] ∧ Ch b A s ∧ Arr .byte d B s ∧ b ≠ d ∧ o + len ≤ A.slots.size ∧ q + len ≤ B.slots.size ∧ ∀ i, i < len → ¬ 255 < cv A (o + i)
def E (b : Addr) (A : Cell) (d : Addr) (B : Cell) (o q len : Nat) (r : Option Value) (s u : State) : Prop := r = some (.int (Int32.ofNat len)) ∧ ∃ B', Put d B' s u ∧ Laid B B' q (q + len) (fun j => Value.int (lo8 (cv A (o + (j - q)))))
/-- no char of the range above 255: len; the places written hold each char's low byte -/
theorem law (l : Launch) (b : Addr) (A : Cell) (d : Addr) (B : Cell) (o q len : Nat) : Law l yN 5 5 0 0 yB 7 (some .int) site (P b A d B o q len) (E b A d B o q len) (copyLocs d q len) 0 0 := by
  refine Law.of_walk (plainFor_of_name (by decide +kernel)) (by decide +kernel) (by decide +kernel) (by decide) (fun _ _ h => by rw [h.1]; rfl) (fun _ U U' hal hh h => ⟨h.1, h.2.1.mv hal hh, h.2.2.1.mv hal hh, h.2.2.2⟩) (fun r U U' V V' h1 hal h2 h => ⟨h.1, h.2.elim fun B' q => ⟨B', q.1.mv h1 h2, q.2⟩⟩) ?_
  intro p e s m args below meth c s₁ X0 hexec hbytes hml hret hlk hnm hown hh0 W hP
  obtain ⟨rfl, hA, hB, hne, l1, l2, hp⟩ := hP
  have c1 : Steps p.tables e below (s₁.setTop (entryFrame m #[.ref b, .int (Int32.ofNat o), .ref d, .int (Int32.ofNat q), .int (Int32.ofNat len)] 7)) (s₁.setTop (mkF m 0 #[.val (.ref b), .val (.int (Int32.ofNat o)), .val (.ref d), .val (.int (Int32.ofNat q)), .val (.int (Int32.ofNat len)), .unset, .unset] [])) := entry rfl
  have hA0 := hA.1.mv X0.warmed.alike hh0
  have hB0 := hB.mv X0.warmed.alike hh0
  have a31 := hA.1.2.2.2
  have c2 : Steps p.tables e below (s₁.setTop (entryFrame m #[.ref b, .int (Int32.ofNat o), .ref d, .int (Int32.ofNat q), .int (Int32.ofNat len)] 7)) (s₁.setTop (mkF m 3 #[.val (.ref b), .val (.int (Int32.ofNat o)), .val (.ref d), .val (.int (Int32.ofNat q)), .val (.int (Int32.ofNat len)), .val (.int 0), .unset] [])) := c1.trans (by
    refine iconstV X0.here hexec rfl 0 (hb hbytes d0) (by decide) ?_
    refine XS.istore X0.here hexec rfl (hb hbytes d1) rfl rfl ?_
    exact Steps.refl _)
  have loop : ∀ (r i : Nat), i + r = len → ∀ (z : Slot), (z = .unset ∨ ∃ w, z = .val w ∧ w.category = 1) → ∀ (Tl : State) (Bk : Cell), Stand p l e { frames := 0, locals := 0, cells := 0, slots := 0 } s m #[.ref b, .int (Int32.ofNat o), .ref d, .int (Int32.ofNat q), .int (Int32.ofNat len)] below meth c Tl ([] ++ copyLocs d q i) 0 0 → Put d Bk s₁ Tl → Laid B Bk q (q + i) (fun j => Value.int (lo8 (cv A (o + (j - q))))) →
      Steps p.tables e below (s₁.setTop (entryFrame m #[.ref b, .int (Int32.ofNat o), .ref d, .int (Int32.ofNat q), .int (Int32.ofNat len)] 7)) (Tl.setTop (mkF m 3 #[.val (.ref b), .val (.int (Int32.ofNat (o + i))), .val (.ref d), .val (.int (Int32.ofNat (q + i))), .val (.int (Int32.ofNat len)), .val (.int (Int32.ofNat i)), z] [])) → ∃ (T' : State) (B' : Cell) (z' : Slot), Stand p l e { frames := 0, locals := 0, cells := 0, slots := 0 } s m #[.ref b, .int (Int32.ofNat o), .ref d, .int (Int32.ofNat q), .int (Int32.ofNat len)] below meth c T' ([] ++ copyLocs d q len) 0 0 ∧ Put d B' s₁ T' ∧ Laid B B' q (q + len) (fun j => Value.int (lo8 (cv A (o + (j - q))))) ∧
      Steps p.tables e below (s₁.setTop (entryFrame m #[.ref b, .int (Int32.ofNat o), .ref d, .int (Int32.ofNat q), .int (Int32.ofNat len)] 7)) (T'.setTop (mkF m 3 #[.val (.ref b), .val (.int (Int32.ofNat (o + len))), .val (.ref d), .val (.int (Int32.ofNat (q + len))), .val (.int (Int32.ofNat len)), .val (.int (Int32.ofNat len)), z'] [])) := by
    intro r
    induction r with
    | zero =>
      intro i hi z hz Tl Bk Xl pl fl cl
      have hil : i = len := by omega
      rw [hil] at Xl fl cl
      exact ⟨Tl, Bk, z, Xl, pl, fl, cl⟩
    | succ r ih =>
      intro i hi z hz Tl Bk Xl pl fl cl
      have all := X0.warmed.alike.symm.trans Xl.warmed.alike
      have hAl := hA0.keep all (pl.other hne hA0.1)
      have hBk := hB0.like all pl.1 fl.1 fl.2.1 fl.2.2.1
      have hlt : q + i < Bk.slots.size := by rw [fl.2.2.1]; omega
      have c3 : Steps p.tables e below (s₁.setTop (entryFrame m #[.ref b, .int (Int32.ofNat o), .ref d, .int (Int32.ofNat q), .int (Int32.ofNat len)] 7)) (Tl.setTop (mkF m 12 #[.val (.ref b), .val (.int (Int32.ofNat (o + i))), .val (.ref d), .val (.int (Int32.ofNat (q + i))), .val (.int (Int32.ofNat len)), .val (.int (Int32.ofNat i)), z] [.int (Int32.ofNat (o + i)), .ref b])) := cl.trans (by
        refine XS.iload Xl.here hexec rfl (hb hbytes d3) rfl ?_
        refine XS.iload Xl.here hexec rfl (hb hbytes d5) rfl ?_
        refine XS.icmpNo Xl.here hexec rfl (hb hbytes d7) rfl (ii_ge_f (lt32 (by omega) (by omega))) ?_
        refine XS.aloadN Xl.here hexec rfl (hb hbytes d10) rfl rfl ?_
        refine XS.iloadN Xl.here hexec rfl (hb hbytes d11) rfl ?_
        exact Steps.refl _)
      have c4 : Steps p.tables e below (s₁.setTop (entryFrame m #[.ref b, .int (Int32.ofNat o), .ref d, .int (Int32.ofNat q), .int (Int32.ofNat len)] 7)) (Tl.setTop (mkF m 13 #[.val (.ref b), .val (.int (Int32.ofNat (o + i))), .val (.ref d), .val (.int (Int32.ofNat (q + i))), .val (.int (Int32.ofNat len)), .val (.int (Int32.ofNat i)), z] [.int (cv A (o + i))])) := c3.trans (by
        refine Xl.aget hexec hAl rfl (hA.get (i := o + i) (by omega)) rfl rfl (hb hbytes d12) ?_
        exact Steps.refl _)
      have c5 : Steps p.tables e below (s₁.setTop (entryFrame m #[.ref b, .int (Int32.ofNat o), .ref d, .int (Int32.ofNat q), .int (Int32.ofNat len)] 7)) (Tl.setTop (mkF m 15 #[.val (.ref b), .val (.int (Int32.ofNat (o + i))), .val (.ref d), .val (.int (Int32.ofNat (q + i))), .val (.int (Int32.ofNat len)), .val (.int (Int32.ofNat i)), .val (.int (cv A (o + i)))] [])) := c4.trans (by
        refine XS.istoreS Xl.here hexec rfl (hb hbytes d13) rfl rfl hz ?_
        exact Steps.refl _)
      have c6 : Steps p.tables e below (s₁.setTop (entryFrame m #[.ref b, .int (Int32.ofNat o), .ref d, .int (Int32.ofNat q), .int (Int32.ofNat len)] 7)) (Tl.setTop (mkF m 31 #[.val (.ref b), .val (.int (Int32.ofNat (o + i))), .val (.ref d), .val (.int (Int32.ofNat (q + i))), .val (.int (Int32.ofNat len)), .val (.int (Int32.ofNat i)), .val (.int (cv A (o + i)))] [.int (lo8 (cv A (o + i))), .int (Int32.ofNat (q + i)), .ref d])) := c5.trans (by
        refine XS.iload Xl.here hexec rfl (hb hbytes d15) rfl ?_
        refine sipushV Xl.here hexec rfl 255 (hb hbytes d17) (by decide) ?_
        refine XS.icmpYes Xl.here hexec rfl (pc0 := 20) rfl (hb hbytes d20) rfl (ii_le_t (hp i (by omega))) (by decide) rfl ?_
        refine XS.aloadN Xl.here hexec rfl (hb hbytes d26) rfl rfl ?_
        refine XS.iloadN Xl.here hexec rfl (hb hbytes d27) rfl ?_
        refine XS.iload Xl.here hexec rfl (hb hbytes d28) rfl ?_
        refine i2b Xl.here hexec rfl (hb hbytes d30) rfl ?_
        exact Steps.refl _)
      obtain ⟨T7, X7, p7, st7⟩ := Xl.aput hexec hBk rfl hlt rfl (fits_lo8 (cv A (o + i))) (g := (mkF m 31 #[.val (.ref b), .val (.int (Int32.ofNat (o + i))), .val (.ref d), .val (.int (Int32.ofNat (q + i))), .val (.int (Int32.ofNat len)), .val (.int (Int32.ofNat i)), .val (.int (cv A (o + i)))] [.int (lo8 (cv A (o + i))), .int (Int32.ofNat (q + i)), .ref d])) rfl (rest := []) rfl (hb hbytes d31)
      have c8 : Steps p.tables e below (s₁.setTop (entryFrame m #[.ref b, .int (Int32.ofNat o), .ref d, .int (Int32.ofNat q), .int (Int32.ofNat len)] 7)) (T7.setTop (mkF m 32 #[.val (.ref b), .val (.int (Int32.ofNat (o + i))), .val (.ref d), .val (.int (Int32.ofNat (q + i))), .val (.int (Int32.ofNat len)), .val (.int (Int32.ofNat i)), .val (.int (cv A (o + i)))] [])) := c6.trans (st7 _ (Steps.refl _))
      have c9 : Steps p.tables e below (s₁.setTop (entryFrame m #[.ref b, .int (Int32.ofNat o), .ref d, .int (Int32.ofNat q), .int (Int32.ofNat len)] 7)) (T7.setTop (mkF m 3 #[.val (.ref b), .val (.int (Int32.ofNat (o + i) + 1)), .val (.ref d), .val (.int (Int32.ofNat (q + i) + 1)), .val (.int (Int32.ofNat len)), .val (.int (Int32.ofNat i + 1)), .val (.int (cv A (o + i)))] [])) := c8.trans (by
        refine iincV X7.here hexec rfl 1 (hb hbytes d32) (by decide) rfl rfl ?_
        refine iincV X7.here hexec rfl 1 (hb hbytes d35) (by decide) rfl rfl ?_
        refine iincV X7.here hexec rfl 1 (hb hbytes d38) (by decide) rfl rfl ?_
        refine XS.goto X7.here hexec rfl (pc0 := 41) rfl (hb hbytes d41) (by decide) rfl ?_
        exact Steps.refl _)
      have c10 : Steps p.tables e below (s₁.setTop (entryFrame m #[.ref b, .int (Int32.ofNat o), .ref d, .int (Int32.ofNat q), .int (Int32.ofNat len)] 7)) (T7.setTop (mkF m 3 #[.val (.ref b), .val (.int (Int32.ofNat (o + (i + 1)))), .val (.ref d), .val (.int (Int32.ofNat (q + (i + 1)))), .val (.int (Int32.ofNat len)), .val (.int (Int32.ofNat (i + 1))), .val (.int (cv A (o + i)))] [])) := by
        have := c9
        rw [succ32, succ32, succ32] at this
        exact this
      exact ih (i + 1) (by omega) _ (Or.inr ⟨_, rfl, rfl⟩) T7 _ (by rw [copyLocs_step, ← List.append_assoc]; exact X7) (pl.trans p7) (fl.step (by omega) hlt (by simp)) c10
  obtain ⟨T9, B9, z9, X9, p9, f9, g9⟩ := loop len 0 (by omega) .unset (Or.inl rfl) s₁ B (by simpa [copyLocs] using X0) ⟨hB0.1, fun _ _ => rfl, rfl⟩ (Laid.zero _ _ _) c2
  have c11 : Steps p.tables e below (s₁.setTop (entryFrame m #[.ref b, .int (Int32.ofNat o), .ref d, .int (Int32.ofNat q), .int (Int32.ofNat len)] 7)) (T9.setTop (mkF m 46 #[.val (.ref b), .val (.int (Int32.ofNat (o + len))), .val (.ref d), .val (.int (Int32.ofNat (q + len))), .val (.int (Int32.ofNat len)), .val (.int (Int32.ofNat len)), z9] [.int (Int32.ofNat len)])) := g9.trans (by
    refine XS.iload X9.here hexec rfl (hb hbytes d3) rfl ?_
    refine XS.iload X9.here hexec rfl (hb hbytes d5) rfl ?_
    refine XS.icmpYes X9.here hexec rfl (pc0 := 7) rfl (hb hbytes d7) rfl (ii_ge_t (nlt32 (by omega) (Nat.le_refl _))) (by decide) rfl ?_
    refine XS.iload X9.here hexec rfl (hb hbytes d44) rfl ?_
    exact Steps.refl _)
  exact ⟨T9, some (.int (Int32.ofNat len)), _, _, _, X9, by simp, rfl, rfl, (fun h => by cases h), ⟨rfl, B9, p9.from hh0, f9⟩, fun fs hl => c11.trans (X9.ireturnOut hexec hret rfl (Or.inl rfl) (hb hbytes d46) hl)⟩
end Cmp5
namespace Cmp3
def yN : MethodName := ⟨"java/lang/StringUTF16", "compress", "([CII)[B"⟩
abbrev yB : ByteArray := jdk_52_method_16_code
theorem d0 : decode yB 0 = .ok (.iload_n 2, 1) := by decide +kernel
theorem d1 : decode yB 1 = .ok (.newarray .byte, 2) := by decide +kernel
theorem d3 : decode yB 3 = .ok (.astore_n 3, 1) := by decide +kernel
theorem d4 : decode yB 4 = .ok (.aload_n 0, 1) := by decide +kernel
theorem d5 : decode yB 5 = .ok (.iload_n 1, 1) := by decide +kernel
theorem d6 : decode yB 6 = .ok (.aload_n 3, 1) := by decide +kernel
theorem d7 : decode yB 7 = .ok (.iconst 0, 1) := by decide +kernel
theorem d8 : decode yB 8 = .ok (.iload_n 2, 1) := by decide +kernel
theorem d9 : decode yB 9 = .ok (.invokestatic 115, 3) := by decide +kernel
theorem d12 : decode yB 12 = .ok (.istore 4, 2) := by decide +kernel
theorem d14 : decode yB 14 = .ok (.iload 4, 2) := by decide +kernel
theorem d16 : decode yB 16 = .ok (.iload_n 2, 1) := by decide +kernel
theorem d17 : decode yB 17 = .ok (.if_icmp (.eq) 40, 3) := by decide +kernel
theorem d57 : decode yB 57 = .ok (.aload_n 3, 1) := by decide +kernel
theorem d58 : decode yB 58 = .ok (.areturn, 1) := by decide +kernel
def site : List Cond := [.arrayClass .byte, Cmp5.tab] ++ staticW U16 115 Cmp5.yN
def tab : Cond := tabOf yN yB 6 (some (.array .byte)) site
def P (b : Addr) (A : Cell) (o len : Nat) (args : Array Value) (s : State) : Prop := args = #[.ref b, .int (Int32.ofNat o), .int (Int32.ofNat len)] ∧ Ch b A s ∧ o + len ≤ A.slots.size ∧ len ≤ 536870912 ∧ ∀ i, i < len → ¬ 255 < cv A (o + i)
def E (b : Addr) (A : Cell) (o len : Nat) (r : Option Value) (s u : State) : Prop := NewArr .byte "[B" len (fun j => .int (lo8 (cv A (o + j)))) r s u ∧ u.heap.size = s.heap.size + 1
/-- no char of the range above 255: a new byte[] of their low bytes -/
theorem law (l : Launch) (b : Addr) (A : Cell) (o len : Nat) : Law l yN 3 3 1 18 yB 6 (some (.array .byte)) site (P b A o len) (E b A o len) [] 1 len := by
  refine Law.of_walk (plainFor_of_name (by decide +kernel)) (by decide +kernel) (by decide +kernel) (by decide) (fun _ _ h => by rw [h.1]; rfl) (fun _ U U' hal hh h => ⟨h.1, h.2.1.mv hal hh, h.2.2⟩) (fun r U U' V V' h1 hal h2 h => ⟨NewArr.mv r U U' V V' h1 hal h2 h.1, by rw [h1, h2]; exact h.2⟩) ?_
  intro p e s m args below meth c s₁ X0 hexec hbytes hml hret hlk hnm hown hh0 W hP
  obtain ⟨rfl, hA, l1, l2, hp⟩ := hP
  have a31 := hA.1.2.2.2
  have c1 : Steps p.tables e below (s₁.setTop (entryFrame m #[.ref b, .int (Int32.ofNat o), .int (Int32.ofNat len)] 6)) (s₁.setTop (mkF m 0 #[.val (.ref b), .val (.int (Int32.ofNat o)), .val (.int (Int32.ofNat len)), .unset, .unset, .unset] [])) := entry rfl
  have c2 : Steps p.tables e below (s₁.setTop (entryFrame m #[.ref b, .int (Int32.ofNat o), .int (Int32.ofNat len)] 6)) (s₁.setTop (mkF m 1 #[.val (.ref b), .val (.int (Int32.ofNat o)), .val (.int (Int32.ofNat len)), .unset, .unset, .unset] [.int (Int32.ofNat len)])) := c1.trans (by
    refine XS.iloadN X0.here hexec rfl (hb hbytes d0) rfl ?_
    exact Steps.refl _)
  obtain ⟨T3, B3, X3, ba3, bs3, bv3, bh3, bf3, st3⟩ := X0.anew hexec (atype := .byte) (wk W (.arrayClass .byte)) rfl (by show len * 1 ≤ _; omega) (by omega) (g := (mkF m 1 #[.val (.ref b), .val (.int (Int32.ofNat o)), .val (.int (Int32.ofNat len)), .unset, .unset, .unset] [.int (Int32.ofNat len)])) rfl (hb hbytes d1) (rest := []) rfl (Nat.le_refl _) (by show 0 + len ≤ len; omega)
  rw [hh0] at ba3 st3
  have kp3 : XT.Kept s T3 := (XT.Kept.of_eq hh0).push bh3
  have hA3 := hA.keep X3.warmed.alike (kp3 _ _ hA.1.1)
  have hne : b ≠ s.heap.size := hA.1.ne
  have c4 : Steps p.tables e below (s₁.setTop (entryFrame m #[.ref b, .int (Int32.ofNat o), .int (Int32.ofNat len)] 6)) (T3.setTop (mkF m 3 #[.val (.ref b), .val (.int (Int32.ofNat o)), .val (.int (Int32.ofNat len)), .unset, .unset, .unset] [.ref s.heap.size])) := c2.trans (st3 _ (Steps.refl _))
  have c5 : Steps p.tables e below (s₁.setTop (entryFrame m #[.ref b, .int (Int32.ofNat o), .int (Int32.ofNat len)] 6)) (T3.setTop (mkF m 9 #[.val (.ref b), .val (.int (Int32.ofNat o)), .val (.int (Int32.ofNat len)), .val (.ref s.heap.size), .unset, .unset] [.int (Int32.ofNat len), .int 0, .ref s.heap.size, .int (Int32.ofNat o), .ref b])) := c4.trans (by
    refine XS.astoreN X3.here hexec rfl (hb hbytes d3) rfl rfl rfl ?_
    refine XS.aloadN X3.here hexec rfl (hb hbytes d4) rfl rfl ?_
    refine XS.iloadN X3.here hexec rfl (hb hbytes d5) rfl ?_
    refine XS.aloadN X3.here hexec rfl (hb hbytes d6) rfl rfl ?_
    refine iconstV X3.here hexec rfl 0 (hb hbytes d7) (by decide) ?_
    refine XS.iloadN X3.here hexec rfl (hb hbytes d8) rfl ?_
    exact Steps.refl _)
  obtain ⟨v6, T6, X6, E6, g6⟩ := X3.callS hexec (Cmp5.law l b A s.heap.size B3 o 0 len) hown (wks W (staticW U16 115 Cmp5.yN)) (wk W Cmp5.tab) (W := 0) (Nat.le_of_ble_eq_true rfl) (Nat.le_of_ble_eq_true rfl) (Nat.le_refl _) (by show 0 + len + 0 ≤ len; omega) (g := (mkF m 9 #[.val (.ref b), .val (.int (Int32.ofNat o)), .val (.int (Int32.ofNat len)), .val (.ref s.heap.size), .unset, .unset] [.int (Int32.ofNat len), .int (Int32.ofNat 0), .ref s.heap.size, .int (Int32.ofNat o), .ref b])) rfl (by rw [hml]; rfl) c5 (argsL := [.ref b, .int (Int32.ofNat o), .ref s.heap.size, .int (Int32.ofNat 0), .int (Int32.ofNat len)]) (rest := []) rfl rfl (by show 2 * 0 + 0 ≤ _; decide) (hb hbytes d9) (⟨rfl, hA3, ba3, hne, l1, by rw [bs3]; simp, hp⟩)
  obtain ⟨rfl, B6, p6, f6⟩ := E6
  have c7 : Steps p.tables e below (s₁.setTop (entryFrame m #[.ref b, .int (Int32.ofNat o), .int (Int32.ofNat len)] 6)) (T6.setTop (mkF m 12 #[.val (.ref b), .val (.int (Int32.ofNat o)), .val (.int (Int32.ofNat len)), .val (.ref s.heap.size), .unset, .unset] [.int (Int32.ofNat len)])) := g6
  have c8 : Steps p.tables e below (s₁.setTop (entryFrame m #[.ref b, .int (Int32.ofNat o), .int (Int32.ofNat len)] 6)) (T6.setTop (mkF m 58 #[.val (.ref b), .val (.int (Int32.ofNat o)), .val (.int (Int32.ofNat len)), .val (.ref s.heap.size), .val (.int (Int32.ofNat len)), .unset] [.ref s.heap.size])) := c7.trans (by
    refine XS.istore X6.here hexec rfl (hb hbytes d12) rfl rfl ?_
    refine XS.iload X6.here hexec rfl (hb hbytes d14) rfl ?_
    refine XS.iloadN X6.here hexec rfl (hb hbytes d16) rfl ?_
    refine XS.icmpYes X6.here hexec rfl (pc0 := 17) rfl (hb hbytes d17) rfl (ii_eq_t rfl) (by decide) rfl ?_
    refine XS.aloadN X6.here hexec rfl (hb hbytes d57) rfl rfl ?_
    exact Steps.refl _)
  have X8 := X6.wide (L' := []) (cells' := 1) (slots' := len) (fun x hx hlt => by
    simp only [List.nil_append, copyLocs, List.mem_map, List.mem_range] at hx
    obtain ⟨i, -, rfl⟩ := hx
    exact absurd hlt (Nat.lt_irrefl _)) (Nat.le_refl _) (by omega)
  exact ⟨T6, some (.ref s.heap.size), _, _, _, X8, rfl, rfl, rfl, (fun h => by cases h), ⟨⟨rfl, B6, ba3.like (X3.warmed.alike.symm.trans X6.warmed.alike) p6.1 f6.1 f6.2.1 f6.2.2.1, f6.2.1.trans bv3, by rw [X6.warmed.alike.findClass, f6.1]; exact bf3, by rw [f6.2.2.1, bs3]; simp, fun j hj => by rw [f6.2.2.2 j, if_pos (by omega)]; rfl, kp3.put p6 (Nat.le_refl _)⟩, by rw [p6.2.2, bh3, hh0]; simp⟩, fun fs hl => c8.trans (X8.areturnOut hexec rfl hret rfl (hb hbytes d58) hl)⟩
end Cmp3
namespace CodL
def yN : MethodName := ⟨"java/lang/StringUTF16", "coderFromArrayLen", "([BI)B"⟩
abbrev yB : ByteArray := jdk_52_method_15_code
theorem d0 : decode yB 0 = .ok (.iload_n 1, 1) := by decide +kernel
theorem d1 : decode yB 1 = .ok (.aload_n 0, 1) := by decide +kernel
theorem d2 : decode yB 2 = .ok (.arraylength, 1) := by decide +kernel
theorem d3 : decode yB 3 = .ok (.isub, 1) := by decide +kernel
theorem d4 : decode yB 4 = .ok (.bipush 31, 2) := by decide +kernel
theorem d6 : decode yB 6 = .ok (.iushr, 1) := by decide +kernel
theorem d7 : decode yB 7 = .ok (.i2b, 1) := by decide +kernel
theorem d8 : decode yB 8 = .ok (.ireturn, 1) := by decide +kernel
def site : List Cond := []
def tab : Cond := tabOf yN yB 2 (some .byte) site
def P (d : Addr) (B : Cell) (args : Array Value) (s : State) : Prop := args = #[.ref d, .int (Int32.ofNat B.slots.size)] ∧ Arr .byte d B s
def E (r : Option Value) (s u : State) : Prop := XT.PureE (some (.int 0)) r s u
/-- an array as long as the number of chars: LATIN1 -/
theorem law (l : Launch) (d : Addr) (B : Cell) : Law l yN 2 2 0 0 yB 2 (some .byte) site (P d B) E [] 0 0 := by
  refine Law.of_walk (plainFor_of_name (by decide +kernel)) (by decide +kernel) (by decide +kernel) (by decide) (fun _ _ h => by rw [h.1]; rfl) (fun _ U U' hal hh h => ⟨h.1, h.2.mv hal hh⟩) (fun r U U' V V' h1 hal h2 h => XT.PureE.mv r U U' V V' h1 hal h2 h) ?_
  intro p e s m args below meth c s₁ X0 hexec hbytes hml hret hlk hnm hown hh0 W hP
  obtain ⟨rfl, hB⟩ := hP
  have hB0 := hB.mv X0.warmed.alike hh0
  have c1 : Steps p.tables e below (s₁.setTop (entryFrame m #[.ref d, .int (Int32.ofNat B.slots.size)] 2)) (s₁.setTop (mkF m 0 #[.val (.ref d), .val (.int (Int32.ofNat B.slots.size))] [])) := entry rfl
  have c2 : Steps p.tables e below (s₁.setTop (entryFrame m #[.ref d, .int (Int32.ofNat B.slots.size)] 2)) (s₁.setTop (mkF m 2 #[.val (.ref d), .val (.int (Int32.ofNat B.slots.size))] [.ref d, .int (Int32.ofNat B.slots.size)])) := c1.trans (by
    refine XS.iloadN X0.here hexec rfl (hb hbytes d0) rfl ?_
    refine XS.aloadN X0.here hexec rfl (hb hbytes d1) rfl rfl ?_
    exact Steps.refl _)
  have c3 : Steps p.tables e below (s₁.setTop (entryFrame m #[.ref d, .int (Int32.ofNat B.slots.size)] 2)) (s₁.setTop (mkF m 8 #[.val (.ref d), .val (.int (Int32.ofNat B.slots.size))] [.int (lo8 (ushr (Int32.ofNat B.slots.size - Int32.ofNat B.slots.size) 31))])) := c2.trans (by
    refine X0.alen hexec hB0 rfl rfl (hb hbytes d2) ?_
    refine XS.isub X0.here hexec rfl (hb hbytes d3) rfl ?_
    refine bipushV X0.here hexec rfl 31 (hb hbytes d4) (by decide) ?_
    refine iushr X0.here hexec rfl (hb hbytes d6) rfl ?_
    refine i2b X0.here hexec rfl (hb hbytes d7) rfl ?_
    exact Steps.refl _)
  have e0 : lo8 (ushr (Int32.ofNat B.slots.size - Int32.ofNat B.slots.size) 31) = 0 := by rw [Int32.sub_self]; decide
  rw [e0] at c3
  exact ⟨s₁, some (.int 0), _, _, _, X0, rfl, rfl, rfl, (fun h => by cases h), ⟨rfl, hh0⟩, fun fs hl => c3.trans (X0.ireturnOut hexec hret rfl (Or.inr (Or.inr (Or.inl rfl))) (hb hbytes d8) hl)⟩
end CodL
/-- the String at a is Latin-1 over a new byte[] (the heap's one new cell): the low bytes of the len chars of A from o on; every cell but a is kept -/
def Got (a : Addr) (D : Cell) (fV fC : Field) (A : Cell) (o len : Nat) (r : Option Value) (s u : State) : Prop := r = none ∧ ∃ D' V : Cell, Blank "java/lang/String" a D' u ∧ Same D D' [fV.slot, fC.slot] ∧ D'.slots[fV.slot]? = some (.ref s.heap.size) ∧ D'.slots[fC.slot]? = some (.int 0) ∧ Arr .byte s.heap.size V u ∧ V.vm = .none ∧ u.vm.findClass "[B" = some V.cls ∧ V.slots.size = len ∧ (∀ j, j < len → V.slots[j]? = some (.int (lo8 (cv A (o + j))))) ∧ (∀ (y : Addr) (c : Cell), y ≠ a → s.heap[y]? = some c → u.heap[y]? = some c) ∧ u.heap.size = s.heap.size + 1
theorem Got.mv {a : Addr} {D A : Cell} {fV fC : Field} {o len : Nat} : ∀ r (U U' V V' : State), U'.heap = U.heap → V.vm.Alike V'.vm → V'.heap = V.heap → Got a D fV fC A o len r U V → Got a D fV fC A o len r U' V' :=
  fun r U U' V V' h1 hal h2 ⟨e0, D', X, a1, a2, a3, a4, a5, a6, a7, a8, a9, a10, a11⟩ => ⟨e0, D', X, a1.mv hal h2, a2, by rw [h1]; exact a3, a4, by rw [h1]; exact a5.mv hal h2, a6, by rw [hal.findClass]; exact a7, a8, a9, by rw [h1, h2]; exact a10, by rw [h1, h2]; exact a11⟩
namespace New4
def yN : MethodName := ⟨"java/lang/String", "<init>", "([CIILjava/lang/Void;)V"⟩
abbrev yB : ByteArray := jdk_42_method_149_code
theorem d0 : decode yB 0 = .ok (.aload_n 0, 1) := by decide +kernel
theorem d1 : decode yB 1 = .ok (.invokespecial 1, 3) := by decide +kernel
theorem d4 : decode yB 4 = .ok (.iload_n 3, 1) := by decide +kernel
theorem d5 : decode yB 5 = .ok (.ifCond (.ne) 22, 3) := by decide +kernel
theorem d27 : decode yB 27 = .ok (.getstatic 38, 3) := by decide +kernel
theorem d30 : decode yB 30 = .ok (.ifCond (.eq) 28, 3) := by decide +kernel
theorem d33 : decode yB 33 = .ok (.aload_n 1, 1) := by decide +kernel
theorem d34 : decode yB 34 = .ok (.iload_n 2, 1) := by decide +kernel
theorem d35 : decode yB 35 = .ok (.iload_n 3, 1) := by decide +kernel
theorem d36 : decode yB 36 = .ok (.invokestatic 177, 3) := by decide +kernel
theorem d39 : decode yB 39 = .ok (.astore 5, 2) := by decide +kernel
theorem d41 : decode yB 41 = .ok (.aload_n 0, 1) := by decide +kernel
theorem d42 : decode yB 42 = .ok (.aload 5, 2) := by decide +kernel
theorem d44 : decode yB 44 = .ok (.iload_n 3, 1) := by decide +kernel
theorem d45 : decode yB 45 = .ok (.invokestatic 47, 3) := by decide +kernel
theorem d48 : decode yB 48 = .ok (.putfield 15, 3) := by decide +kernel
theorem d51 : decode yB 51 = .ok (.aload_n 0, 1) := by decide +kernel
theorem d52 : decode yB 52 = .ok (.aload 5, 2) := by decide +kernel
theorem d54 : decode yB 54 = .ok (.putfield 9, 3) := by decide +kernel
theorem d57 : decode yB 57 = .ok (.return_, 1) := by decide +kernel
def site : List Cond := [.fieldLink "java/lang/String" 38 "java/lang/String" "COMPACT_STRINGS" "Z", Cmp3.tab, CodL.tab, .laysFinal "java/lang/String" "java/lang/String" "value" "[B", .fieldLink "java/lang/String" 9 "java/lang/String" "value" "[B", .laysFinal "java/lang/String" "java/lang/String" "coder" "B", .fieldLink "java/lang/String" 15 "java/lang/String" "coder" "B"] ++ objW "java/lang/String" 1 ++ staticW "java/lang/String" 177 Cmp3.yN ++ staticW "java/lang/String" 47 CodL.yN
def tab : Cond := tabOf yN yB 6 none site
def P (a : Addr) (D : Cell) (fV fC : Field) (b : Addr) (A : Cell) (z : Int32) (o len : Nat) (args : Array Value) (s : State) : Prop := args = #[.ref a, .ref b, .int (Int32.ofNat o), .int (Int32.ofNat len), .null] ∧ Blank "java/lang/String" a D s ∧ Found "java/lang/String" "value" "[B" fV s ∧ Found "java/lang/String" "coder" "B" fC s ∧ Ch b A s ∧ StaticIs s "java/lang/String" "COMPACT_STRINGS" "Z" (.int z) ∧ ¬ z = 0 ∧ 0 < len ∧ o + len ≤ A.slots.size ∧ len ≤ 536870912 ∧ ∀ i, i < len → ¬ 255 < cv A (o + i)
def E (a : Addr) (D : Cell) (fV fC : Field) (A : Cell) (o len : Nat) (r : Option Value) (s u : State) : Prop := Got a D fV fC A o len r s u
/-- len > 0, no char of the range above 255: a Latin-1 String of their low bytes -/
theorem law (l : Launch) (a : Addr) (D : Cell) (fV fC : Field) (b : Addr) (A : Cell) (z : Int32) (o len : Nat) : Law l yN 5 4 2 35 yB 6 none site (P a D fV fC b A z o len) (E a D fV fC A o len) [⟨a, fC.slot⟩, ⟨a, fV.slot⟩] 1 len := by
  refine Law.of_walk (plainFor_of_name (by decide +kernel)) (by decide +kernel) (by decide +kernel) (by decide) (fun _ _ h => by rw [h.1]; rfl) (fun _ U U' hal hh h => ⟨h.1, h.2.1.mv hal hh, h.2.2.1.al hal, h.2.2.2.1.al hal, h.2.2.2.2.1.mv hal hh, h.2.2.2.2.2.1.there hal hh, h.2.2.2.2.2.2⟩) (fun r U U' V V' h1 hal h2 h => Got.mv r U U' V V' h1 hal h2 h) ?_
  intro p e s m args below meth c s₁ X0 hexec hbytes hml hret hlk hnm hown hh0 W hP
  obtain ⟨rfl, hB, f1, f2, hA, s1, hz, l0, l1, l2, hp⟩ := hP
  have a31 := hA.1.2.2.2
  have c1 : Steps p.tables e below (s₁.setTop (entryFrame m #[.ref a, .ref b, .int (Int32.ofNat o), .int (Int32.ofNat len), .null] 6)) (s₁.setTop (mkF m 0 #[.val (.ref a), .val (.ref b), .val (.int (Int32.ofNat o)), .val (.int (Int32.ofNat len)), .val .null, .unset] [])) := entry rfl
  have c2 : Steps p.tables e below (s₁.setTop (entryFrame m #[.ref a, .ref b, .int (Int32.ofNat o), .int (Int32.ofNat len), .null] 6)) (s₁.setTop (mkF m 1 #[.val (.ref a), .val (.ref b), .val (.int (Int32.ofNat o)), .val (.int (Int32.ofNat len)), .val .null, .unset] [.ref a])) := c1.trans (by
    refine XS.aloadN X0.here hexec rfl (hb hbytes d0) rfl rfl ?_
    exact Steps.refl _)
  obtain ⟨T3, X3, q3, st3⟩ := X0.oinit hexec hown (wks W (objW "java/lang/String" 1)) (g := (mkF m 1 #[.val (.ref a), .val (.ref b), .val (.int (Int32.ofNat o)), .val (.int (Int32.ofNat len)), .val .null, .unset] [.ref a])) rfl (by rw [hml]; rfl) (rest := []) rfl (hb hbytes d1) (W := 0) (by show 2 * 0 + 0 ≤ _; decide) (Nat.le_of_ble_eq_true rfl) (Nat.le_of_ble_eq_true rfl)
  have hh3 := q3.trans hh0
  have c4 : Steps p.tables e below (s₁.setTop (entryFrame m #[.ref a, .ref b, .int (Int32.ofNat o), .int (Int32.ofNat len), .null] 6)) (T3.setTop (mkF m 27 #[.val (.ref a), .val (.ref b), .val (.int (Int32.ofNat o)), .val (.int (Int32.ofNat len)), .val .null, .unset] [])) := (c2.trans (st3 _ (Steps.refl _))).trans (by
    refine XS.iloadN X3.here hexec rfl (hb hbytes d4) rfl ?_
    refine XS.ifYes X3.here hexec rfl (pc0 := 5) rfl (hb hbytes d5) rfl (i0_ne_t (nz32 (by omega) l0)) (by decide) rfl ?_
    exact Steps.refl _)
  obtain ⟨T5, X5, q5, st5⟩ := X3.sget hexec hown (wk W (.fieldLink "java/lang/String" 38 "java/lang/String" "COMPACT_STRINGS" "Z")) s1 (fun _ _ h => by rw [hh3]; exact h) (g := (mkF m 27 #[.val (.ref a), .val (.ref b), .val (.int (Int32.ofNat o)), .val (.int (Int32.ofNat len)), .val .null, .unset] [])) rfl (hb hbytes d27)
  have hh5 := q5.trans hh3
  have c6 : Steps p.tables e below (s₁.setTop (entryFrame m #[.ref a, .ref b, .int (Int32.ofNat o), .int (Int32.ofNat len), .null] 6)) (T5.setTop (mkF m 30 #[.val (.ref a), .val (.ref b), .val (.int (Int32.ofNat o)), .val (.int (Int32.ofNat len)), .val .null, .unset] [.int z])) := c4.trans (st5 _ (Steps.refl _))
  have c7 : Steps p.tables e below (s₁.setTop (entryFrame m #[.ref a, .ref b, .int (Int32.ofNat o), .int (Int32.ofNat len), .null] 6)) (T5.setTop (mkF m 36 #[.val (.ref a), .val (.ref b), .val (.int (Int32.ofNat o)), .val (.int (Int32.ofNat len)), .val .null, .unset] [.int (Int32.ofNat len), .int (Int32.ofNat o), .ref b])) := c6.trans (by
    refine XS.ifNo X5.here hexec rfl (hb hbytes d30) rfl (i0_eq_f hz) ?_
    refine XS.aloadN X5.here hexec rfl (hb hbytes d33) rfl rfl ?_
    refine XS.iloadN X5.here hexec rfl (hb hbytes d34) rfl ?_
    refine XS.iloadN X5.here hexec rfl (hb hbytes d35) rfl ?_
    exact Steps.refl _)
  obtain ⟨v8, T8, X8, E8, g8⟩ := X5.callS hexec (Cmp3.law l b A o len) hown (wks W (staticW "java/lang/String" 177 Cmp3.yN)) (wk W Cmp3.tab) (W := 0) (Nat.le_of_ble_eq_true rfl) (Nat.le_of_ble_eq_true rfl) (Nat.le_refl _) (by show 0 + len ≤ len; omega) (g := (mkF m 36 #[.val (.ref a), .val (.ref b), .val (.int (Int32.ofNat o)), .val (.int (Int32.ofNat len)), .val .null, .unset] [.int (Int32.ofNat len), .int (Int32.ofNat o), .ref b])) rfl (by rw [hml]; rfl) c7 (argsL := [.ref b, .int (Int32.ofNat o), .int (Int32.ofNat len)]) (rest := []) rfl rfl (by show 2 * 0 + 0 ≤ _; decide) (hb hbytes d36) (⟨rfl, hA.mv X5.warmed.alike hh5, l1, l2, hp⟩)
  obtain ⟨e8, z8⟩ := E8
  obtain ⟨rfl, N, n1, n2, n3, n4, n5, n6⟩ := NewArr.mv _ T5 s _ _ hh5.symm (Vm.Alike.refl _) rfl e8
  rw [hh5] at z8
  have hB1 := hB.keep X8.warmed.alike (n6 _ _ hB.1)
  have hne : s.heap.size ≠ a := (Nat.ne_of_lt (Array.getElem?_eq_some_iff.mp hB.1).1).symm
  have c9 : Steps p.tables e below (s₁.setTop (entryFrame m #[.ref a, .ref b, .int (Int32.ofNat o), .int (Int32.ofNat len), .null] 6)) (T8.setTop (mkF m 39 #[.val (.ref a), .val (.ref b), .val (.int (Int32.ofNat o)), .val (.int (Int32.ofNat len)), .val .null, .unset] [.ref s.heap.size])) := g8
  have c10 : Steps p.tables e below (s₁.setTop (entryFrame m #[.ref a, .ref b, .int (Int32.ofNat o), .int (Int32.ofNat len), .null] 6)) (T8.setTop (mkF m 45 #[.val (.ref a), .val (.ref b), .val (.int (Int32.ofNat o)), .val (.int (Int32.ofNat len)), .val .null, .val (.ref s.heap.size)] [.int (Int32.ofNat N.slots.size), .ref s.heap.size, .ref a])) := by
    have hc : Steps p.tables e below (s₁.setTop (entryFrame m #[.ref a, .ref b, .int (Int32.ofNat o), .int (Int32.ofNat len), .null] 6)) (T8.setTop (mkF m 45 #[.val (.ref a), .val (.ref b), .val (.int (Int32.ofNat o)), .val (.int (Int32.ofNat len)), .val .null, .val (.ref s.heap.size)] [.int (Int32.ofNat len), .ref s.heap.size, .ref a])) := c9.trans (by
      refine XS.astore X8.here hexec rfl (hb hbytes d39) rfl rfl rfl ?_
      refine XS.aloadN X8.here hexec rfl (hb hbytes d41) rfl rfl ?_
      refine XS.aload X8.here hexec rfl (hb hbytes d42) rfl rfl ?_
      refine XS.iloadN X8.here hexec rfl (hb hbytes d44) rfl ?_
      exact Steps.refl _)
    rw [n4]; exact hc
  obtain ⟨v11, T11, X11, E11, g11⟩ := X8.callS hexec (CodL.law l s.heap.size N) hown (wks W (staticW "java/lang/String" 47 CodL.yN)) (wk W CodL.tab) (W := 1) (Nat.le_of_ble_eq_true rfl) (Nat.le_of_ble_eq_true rfl) (Nat.le_refl _) (by show 0 + len + 0 ≤ len; omega) (g := (mkF m 45 #[.val (.ref a), .val (.ref b), .val (.int (Int32.ofNat o)), .val (.int (Int32.ofNat len)), .val .null, .val (.ref s.heap.size)] [.int (Int32.ofNat N.slots.size), .ref s.heap.size, .ref a])) rfl (by rw [hml]; rfl) c10 (argsL := [.ref s.heap.size, .int (Int32.ofNat N.slots.size)]) (rest := [.ref a]) rfl rfl (by show 2 * 0 + (1 + 0) ≤ _; decide) (hb hbytes d45) (⟨rfl, n1⟩)
  obtain ⟨rfl, q11⟩ := E11
  have hB11 := hB1.mv (X8.warmed.alike.symm.trans X11.warmed.alike) q11
  have c12 : Steps p.tables e below (s₁.setTop (entryFrame m #[.ref a, .ref b, .int (Int32.ofNat o), .int (Int32.ofNat len), .null] 6)) (T11.setTop (mkF m 48 #[.val (.ref a), .val (.ref b), .val (.int (Int32.ofNat o)), .val (.int (Int32.ofNat len)), .val .null, .val (.ref s.heap.size)] [.int 0, .ref a])) := g11
  obtain ⟨T13, X13, p13, bl13, sl13, st13⟩ := X11.finit hexec hown (wk W (.fieldLink "java/lang/String" 15 "java/lang/String" "coder" "B")) (Or.inr ⟨_, (wk W (.laysFinal "java/lang/String" "java/lang/String" "coder" "B"))⟩) (Or.inl ⟨rfl, hnm⟩) f2 (Or.inl rfl) hB11 (t := .byte) (by decide +kernel) rfl (g := (mkF m 48 #[.val (.ref a), .val (.ref b), .val (.int (Int32.ofNat o)), .val (.int (Int32.ofNat len)), .val .null, .val (.ref s.heap.size)] [.int 0, .ref a])) rfl (rest := []) rfl (hb hbytes d48)
  have c14 : Steps p.tables e below (s₁.setTop (entryFrame m #[.ref a, .ref b, .int (Int32.ofNat o), .int (Int32.ofNat len), .null] 6)) (T13.setTop (mkF m 54 #[.val (.ref a), .val (.ref b), .val (.int (Int32.ofNat o)), .val (.int (Int32.ofNat len)), .val .null, .val (.ref s.heap.size)] [.ref s.heap.size, .ref a])) := (c12.trans (st13 _ (Steps.refl _))).trans (by
    refine XS.aloadN X13.here hexec rfl (hb hbytes d51) rfl rfl ?_
    refine XS.aload X13.here hexec rfl (hb hbytes d52) rfl rfl ?_
    exact Steps.refl _)
  obtain ⟨T15, X15, p15, bl15, sl15, st15⟩ := X13.finit hexec hown (wk W (.fieldLink "java/lang/String" 9 "java/lang/String" "value" "[B")) (Or.inr ⟨_, (wk W (.laysFinal "java/lang/String" "java/lang/String" "value" "[B"))⟩) (Or.inl ⟨rfl, hnm⟩) f1 (Or.inl rfl) bl13 (t := (.array .byte)) (by decide +kernel) rfl (g := (mkF m 54 #[.val (.ref a), .val (.ref b), .val (.int (Int32.ofNat o)), .val (.int (Int32.ofNat len)), .val .null, .val (.ref s.heap.size)] [.ref s.heap.size, .ref a])) rfl (rest := []) rfl (hb hbytes d54)
  have c16 : Steps p.tables e below (s₁.setTop (entryFrame m #[.ref a, .ref b, .int (Int32.ofNat o), .int (Int32.ofNat len), .null] 6)) (T15.setTop (mkF m 57 #[.val (.ref a), .val (.ref b), .val (.int (Int32.ofNat o)), .val (.int (Int32.ofNat len)), .val .null, .val (.ref s.heap.size)] [])) := c14.trans (st15 _ (Steps.refl _))
  have ap := apart (Or.inr ⟨_, (wk W (.laysFinal "java/lang/String" "java/lang/String" "value" "[B"))⟩) (Or.inr ⟨_, (wk W (.laysFinal "java/lang/String" "java/lang/String" "coder" "B"))⟩) f1 f2 (t₁ := .array .byte) (t₂ := .byte) (by decide +kernel) (by decide +kernel) (by decide)
  have al := X8.warmed.alike.symm.trans X15.warmed.alike
  have n7 : T11.heap[s.heap.size]? = some N := by rw [q11]; exact n1.1
  exact ⟨T15, none, _, _, _, X15, by simp, rfl, by omega, (fun _ => rfl), ⟨rfl, _, N, bl15, ((Same.refl D _).set _ (by simp)).set _ (by simp), sl15, (Cell.slots_setSlot_ne _ ap).trans sl13, n1.keep al (p15.other hne (p13.other hne n7)), n2, by rw [al.findClass]; exact n3, n4, n5, fun y c h1 h2 => p15.other h1 (p13.other h1 (by rw [q11]; exact n6 y c h2)), by rw [p15.2.2, p13.2.2, q11]; exact z8⟩, fun fs hl => c16.trans (X15.returnOut hexec hret (hb hbytes d57) hl)⟩
end New4
namespace New1
def yN : MethodName := ⟨"java/lang/String", "<init>", "([C)V"⟩
abbrev yB : ByteArray := jdk_42_method_3_code
theorem d0 : decode yB 0 = .ok (.aload_n 0, 1) := by decide +kernel
theorem d1 : decode yB 1 = .ok (.aload_n 1, 1) := by decide +kernel
theorem d2 : decode yB 2 = .ok (.iconst 0, 1) := by decide +kernel
theorem d3 : decode yB 3 = .ok (.aload_n 1, 1) := by decide +kernel
theorem d4 : decode yB 4 = .ok (.arraylength, 1) := by decide +kernel
theorem d5 : decode yB 5 = .ok (.aconst_null, 1) := by decide +kernel
theorem d6 : decode yB 6 = .ok (.invokespecial 27, 3) := by decide +kernel
theorem d9 : decode yB 9 = .ok (.return_, 1) := by decide +kernel
def site : List Cond := [New4.tab] ++ initW "java/lang/String" 27 New4.yN
def tab : Cond := tabOf yN yB 2 none site
def P (a : Addr) (D : Cell) (fV fC : Field) (b : Addr) (A : Cell) (z : Int32) (args : Array Value) (s : State) : Prop := args = #[.ref a, .ref b] ∧ Blank "java/lang/String" a D s ∧ Found "java/lang/String" "value" "[B" fV s ∧ Found "java/lang/String" "coder" "B" fC s ∧ Ch b A s ∧ StaticIs s "java/lang/String" "COMPACT_STRINGS" "Z" (.int z) ∧ ¬ z = 0 ∧ 0 < A.slots.size ∧ A.slots.size ≤ 536870912 ∧ ∀ i, i < A.slots.size → ¬ 255 < cv A i
def E (a : Addr) (D : Cell) (fV fC : Field) (A : Cell) (r : Option Value) (s u : State) : Prop := Got a D fV fC A 0 A.slots.size r s u
/-- new String(chars), not empty, no char above 255: a Latin-1 String of their low bytes -/
theorem law (l : Launch) (a : Addr) (D : Cell) (fV fC : Field) (b : Addr) (A : Cell) (z : Int32) : Law l yN 2 1 3 52 yB 2 none site (P a D fV fC b A z) (E a D fV fC A) [⟨a, fC.slot⟩, ⟨a, fV.slot⟩] 1 A.slots.size := by
  refine Law.of_walk (plainFor_of_name (by decide +kernel)) (by decide +kernel) (by decide +kernel) (by decide) (fun _ _ h => by rw [h.1]; rfl) (fun _ U U' hal hh h => ⟨h.1, h.2.1.mv hal hh, h.2.2.1.al hal, h.2.2.2.1.al hal, h.2.2.2.2.1.mv hal hh, h.2.2.2.2.2.1.there hal hh, h.2.2.2.2.2.2⟩) (fun r U U' V V' h1 hal h2 h => Got.mv r U U' V V' h1 hal h2 h) ?_
  intro p e s m args below meth c s₁ X0 hexec hbytes hml hret hlk hnm hown hh0 W hP
  obtain ⟨rfl, hB, f1, f2, hA, s1, hz, l0, l2, hp⟩ := hP
  have c1 : Steps p.tables e below (s₁.setTop (entryFrame m #[.ref a, .ref b] 2)) (s₁.setTop (mkF m 0 #[.val (.ref a), .val (.ref b)] [])) := entry rfl
  have c2 : Steps p.tables e below (s₁.setTop (entryFrame m #[.ref a, .ref b] 2)) (s₁.setTop (mkF m 6 #[.val (.ref a), .val (.ref b)] [.null, .int (Int32.ofNat A.slots.size), .int 0, .ref b, .ref a])) := c1.trans (by
    refine XS.aloadN X0.here hexec rfl (hb hbytes d0) rfl rfl ?_
    refine XS.aloadN X0.here hexec rfl (hb hbytes d1) rfl rfl ?_
    refine iconstV X0.here hexec rfl 0 (hb hbytes d2) (by decide) ?_
    refine XS.aloadN X0.here hexec rfl (hb hbytes d3) rfl rfl ?_
    refine X0.alen hexec (hA.1.mv X0.warmed.alike hh0) rfl rfl (hb hbytes d4) ?_
    refine XS.aconstNull X0.here hexec rfl (hb hbytes d5) ?_
    exact Steps.refl _)
  obtain ⟨v3, T3, X3, E3, g3⟩ := X0.callN hexec (New4.law l a D fV fC b A z 0 A.slots.size) rfl hown (wks W (initW "java/lang/String" 27 New4.yN)) (W New4.tab (by simp only [site, List.mem_cons, List.mem_append, true_or, or_true])) (W := 0) (Nat.le_of_ble_eq_true rfl) (Nat.le_of_ble_eq_true rfl) (Nat.le_refl _) (by show 0 + A.slots.size ≤ A.slots.size; omega) (g := (mkF m 6 #[.val (.ref a), .val (.ref b)] [.null, .int (Int32.ofNat A.slots.size), .int (Int32.ofNat 0), .ref b, .ref a])) rfl (by rw [hml]; rfl) c2 (argsL := [.ref b, .int (Int32.ofNat 0), .int (Int32.ofNat A.slots.size), .null]) (rest := []) rfl rfl (by show 2 * 0 + 0 ≤ _; decide) (hb hbytes d6) (⟨rfl, hB.mv X0.warmed.alike hh0, f1.al X0.warmed.alike, f2.al X0.warmed.alike, hA.mv X0.warmed.alike hh0, s1.there X0.warmed.alike hh0, hz, l0, by omega, l2, fun i hi => by rw [Nat.zero_add]; exact hp i hi⟩)
  have e0 := Got.mv _ s₁ s _ _ hh0.symm (Vm.Alike.refl _) rfl E3
  obtain rfl := e0.1
  have c4 : Steps p.tables e below (s₁.setTop (entryFrame m #[.ref a, .ref b] 2)) (T3.setTop (mkF m 9 #[.val (.ref a), .val (.ref b)] [])) := g3
  exact ⟨T3, none, _, _, _, X3, by simp, rfl, by omega, (fun _ => rfl), e0, fun fs hl => c4.trans (X3.returnOut hexec hret (hb hbytes d9) hl)⟩
theorem pays {l : Launch} {R : Room} {p : Program} {e : Env} {below : List Frame} {s : State} {sargs : Array Value} {len W : Nat} (a : Addr) (D : Cell) (fV fC : Field) (b : Addr) (A : Cell) (z : Int32) (htab : tab.before sargs s = true) (hfr : 4 ≤ R.frames) (hlo : W + 65 ≤ R.locals) :
    Back l R p e below s sargs yN len W (fun A₁ a₁ => A₁.cells + 1 ≤ R.cells ∧ A₁.slots + A.slots.size ≤ R.slots ∧ P a D fV fC b A z a₁ A₁.U) (fun A₁ _ v₁ B₁ => E a D fV fC A v₁ A₁.U B₁.U ∧ B₁.locs = A₁.locs ++ [⟨a, fC.slot⟩, ⟨a, fV.slot⟩] ∧ B₁.cells = A₁.cells + 1 ∧ B₁.slots = A₁.slots + A.slots.size) :=
  (law l a D fV fC b A z).pays htab hfr (by omega)
end New1
end StrChars
namespace StrChars.Road
open Jvm Sem ClassFile Op Lib Jvm.Stand Jvm.Free Jvm.Free.XT
open Jvm.Lib.Cold (StaticIs)
abbrev ST : String := "java/lang/String"
/-- every table word that New1's law asks, flat -/
abbrev words : List Jvm.Cond := [.code New1.yN New1.yB 2 none, .initialized ST, .methodLink ST 27 New4.yN, .instanceMethod New4.yN,
  .code New4.yN New4.yB 6 none, .fieldLink ST 38 ST "COMPACT_STRINGS" "Z", .laysFinal ST ST "value" "[B", .fieldLink ST 9 ST "value" "[B", .laysFinal ST ST "coder" "B", .fieldLink ST 15 ST "coder" "B",
  .methodLink ST 1 Lib.objectInit, .instanceMethod Lib.objectInit, .code Lib.objectInit ⟨#[0xb1]⟩ 1 none, .methodLink ST 177 Cmp3.yN, .static Cmp3.yN, .methodLink ST 47 CodL.yN, .static CodL.yN,
  .code Cmp3.yN Cmp3.yB 6 (some (.array .byte)), .initialized U16, .arrayClass .byte, .methodLink U16 115 Cmp5.yN, .static Cmp5.yN, .code Cmp5.yN Cmp5.yB 7 (some .int), .code CodL.yN CodL.yB 2 (some .byte)]
theorem tab_of {a : Array Value} {s : State} (h : ∀ w ∈ words, w.before a s = true) : New1.tab.before a s = true := by
  have h5 : Cmp5.tab.before a s = true := unparts (wk h (.code Cmp5.yN Cmp5.yB 7 (some .int))) (wks h (.initialized Cmp5.yN.cls :: Cmp5.site))
  have hc : CodL.tab.before a s = true := unparts (wk h (.code CodL.yN CodL.yB 2 (some .byte))) (wks h (.initialized CodL.yN.cls :: CodL.site))
  have q5 : ∀ w ∈ Cmp5.tab :: words, w.before a s = true := fun w hw => (List.mem_cons.mp hw).elim (fun e => e ▸ h5) (h w)
  have h3 : Cmp3.tab.before a s = true := unparts (wk q5 (.code Cmp3.yN Cmp3.yB 6 (some (.array .byte)))) (wks q5 (.initialized Cmp3.yN.cls :: Cmp3.site))
  have q3 : ∀ w ∈ Cmp3.tab :: CodL.tab :: words, w.before a s = true := fun w hw => (List.mem_cons.mp hw).elim (fun e => e ▸ h3) fun hw => (List.mem_cons.mp hw).elim (fun e => e ▸ hc) (h w)
  have h4 : New4.tab.before a s = true := unparts (wk q3 (.code New4.yN New4.yB 6 none)) (wks q3 (.initialized New4.yN.cls :: New4.site))
  have q4 : ∀ w ∈ New4.tab :: words, w.before a s = true := fun w hw => (List.mem_cons.mp hw).elim (fun e => e ▸ h4) (h w)
  exact unparts (wk q4 (.code New1.yN New1.yB 2 none)) (wks q4 (.initialized New1.yN.cls :: New1.site))
/-- the words ride from the start Z to the walk's own state -/
theorem moved {Z s : State} {a0 args : Array Value} (hZ : Z.Warmed39 s.vm) (hw : ∀ d ∈ words, d.before a0 Z = true) : ∀ d ∈ words, d.before args s = true := fun d hd => by
  have q := hw d hd
  have t : ∀ d ∈ words, d = .arrayClass .byte ∨ (d.onTables && d.keepsFace) = true := by decide +kernel
  rcases t d hd with rfl | t
  · exact RoadKit.mvA hZ q
  · exact RoadKit.mv hZ q t
/-- WHAT COMES BACK, over the tables of the start Z: h the heap at the call, h' behind it -/
def Q (Z : State) (x : Addr) (A : Cell) (h : Heap) (v : Option Value) (h' : Heap) (L : List Loc) : Prop := v = none ∧ (∀ y ∈ L, y.base = x) ∧ RoadKit.Keep h h' [x] ∧ h'.size = h.size + 1 ∧ RoadKit.Exa Z h' x ST ∧ RoadKit.Fld Z h' x ST "value" "[B" (.ref h.size) ∧ RoadKit.Fld Z h' x ST "coder" "B" (.int 0) ∧
  (∃ V : Cell, RoadKit.Arr Z h' h.size V .byte ∧ V.vm = .none ∧ Z.vm.findClass "[B" = some V.cls ∧ V.slots.size = A.slots.size ∧ ∀ j, j < A.slots.size → V.slots[j]? = some (.int (lo8 (cv A j)))) ∧
  ∀ (O n d : String) (w : Value), RoadKit.Fld Z h x O n d w → RoadKit.slotOf Z O n d ≠ RoadKit.slotOf Z ST "value" "[B" → RoadKit.slotOf Z O n d ≠ RoadKit.slotOf Z ST "coder" "B" → RoadKit.Fld Z h' x O n d w
/-- **new String(chars) AT A CALL, IN THE ROAD'S FORM**: for specialBack behind newO: x the fresh String, b the char[] with the cell A -/
theorem back {p : Program} {l : Launch} {e : Env} {R : Room} {s : State} {args : Array Value} {below : List Frame} {len W : Nat} {Z : State} {a0 : Array Value} {h : Heap} (hZ : Z.Warmed39 s.vm) (hw : ∀ d ∈ words, d.before a0 Z = true) {kI : Nat} (wi : (Jvm.Cond.instantiable ST kI).before a0 Z = true)
    {x b : Addr} {A : Cell} {z : Int32} {v0 c0 : Value} (E : RoadKit.Exa Z h x ST) (V : RoadKit.Fld Z h x ST "value" "[B" v0) (C : RoadKit.Fld Z h x ST "coder" "B" c0) (K : RoadKit.Arr Z h b A .char) (hty : Typed .char A) (S : RoadKit.Sta Z h ST "COMPACT_STRINGS" "Z" (.int z)) (hz : ¬ z = 0)
    (l0 : 0 < A.slots.size) (l2 : A.slots.size ≤ 536870912) (hp : ∀ i, i < A.slots.size → ¬ 255 < cv A i) (hfr : 4 ≤ R.frames) (hlo : W + 65 ≤ R.locals) :
    Back l R p e below s args New1.yN len W (fun P a => a = #[.ref x, .ref b] ∧ P.U.heap = h ∧ P.cells + 1 ≤ R.cells ∧ P.slots + A.slots.size ≤ R.slots)
      (fun P _ v B => ∃ L, Q Z x A h v B.U.heap L ∧ B.locs = P.locs ++ L ∧ B.cells = P.cells + 1 ∧ B.slots = P.slots + A.slots.size) := by
  intro m meth c P g ig mk a X hg hsize hdg hW hn hp'
  obtain ⟨rfl, rfl, r1, r2⟩ := hp'
  have al : Z.vm.Alike P.U.vm := hZ.alike.trans X.warmed.alike
  obtain ⟨D, cfV, kV, iV, fV, hD, gV, stV, knV, obV, asV, slV⟩ := id V
  obtain ⟨D', cfC, kC, iC, fC, hD', gC, stC, -, -, asC, slC⟩ := id C
  cases hD.symm.trans hD'
  obtain ⟨D2, kD, e1, e2, e3, e4, e5⟩ := id E
  cases hD.symm.trans e1
  obtain ⟨c2, k2, i1, i2, i3, -⟩ := Cond.instantiable_spec wi
  cases e2.symm.trans i1
  cases e3.symm.trans i2
  obtain ⟨kU, u1, u2⟩ := al.2.2 _ _ e3
  have hB : Blank ST x D P.U := ⟨hD, ⟨knV, fun q hq => by rw [hq] at obV; cases obV⟩, by rw [al.findClass]; exact e2, kU, u1, by rw [u2]; exact i3, by rw [u2]; exact e5 i3⟩
  have F1 : Found ST "value" "[B" fV P.U := ⟨SBG.found_only al ⟨cfV, kV, iV, gV⟩, stV⟩
  have F2 : Found ST "coder" "B" fC P.U := ⟨SBG.found_only al ⟨cfC, kC, iC, gC⟩, stC⟩
  have hA : Ch b A P.U := ⟨⟨K.1, State.isArrayOf_alike al K.2.1, K.2.2, by omega⟩, hty⟩
  have hS : StaticIs P.U ST "COMPACT_STRINGS" "Z" (.int z) := by
    obtain ⟨cfS, iS, kS, fS, st, cS, t1, t2, t3, t4, t5, t6, t7⟩ := S
    exact StaticIs.there (s := { Z with heap := P.U.heap }) ⟨cfS, iS, kS, fS, st, cS, t1, t2, t3, t4, t5, (fun q => by rw [q] at t6; cases t6), t7⟩ al rfl
  obtain ⟨v, B, X', ⟨⟨hv, E', V', q1, q2, q3, q4, q5, q6, q7, q8, q9, q10, q11⟩, hl, hc, hs⟩, st⟩ := New1.pays x D fV fC b A z (tab_of (moved hZ hw)) hfr hlo m meth c P g ig mk _ X hg hsize hdg hW hn ⟨r1, r2, rfl, hB, F1, F2, hA, hS, hz, l0, l2, hp⟩
  have al' : Z.vm.Alike B.U.vm := hZ.alike.trans X'.warmed.alike
  have hsz : E'.slots.size = D.slots.size := by
    obtain ⟨-, -, -, kB, w1, w2, w3⟩ := q1
    obtain ⟨kB', y1, y2⟩ := al'.2.2 _ _ e3
    rw [q2.2.1] at w1
    cases w1.symm.trans y1
    rw [w3, e5 i3, y2]
  refine ⟨v, B, X', ⟨_, ⟨hv, ?_, ⟨by omega, fun y cy hy hn' => q10 y cy (by simpa using hn') hy, fun y cy hy => ?_⟩, q11, ⟨E', _, q1.1, by rw [q2.2.1]; exact e2, by rw [q2.2.1]; exact e3, by rw [q2.1]; exact obV, fun _ => by rw [hsz]; exact e5 i3⟩,
    ⟨E', cfV, kV, iV, fV, q1.1, gV, stV, by rw [q2.1]; exact knV, by rw [q2.1]; exact obV, by rw [q2.2.1]; exact asV, q3⟩, ⟨E', cfC, kC, iC, fC, q1.1, gC, stC, by rw [q2.1]; exact knV, by rw [q2.1]; exact obV, by rw [q2.2.1]; exact asC, q4⟩,
    ⟨V', ⟨q5.1, State.isArrayOf_alike al'.symm q5.2.1, q5.2.2.1⟩, q6, by rw [← al'.findClass]; exact q7, q8, fun j hj => by have := q9 j hj; rwa [Nat.zero_add] at this⟩, fun O n d w F n1 n2 => ?_⟩, hl, hc, hs⟩, st⟩
  · intro y hy
    simp only [List.mem_cons, List.not_mem_nil, or_false] at hy
    rcases hy with rfl | rfl <;> rfl
  · by_cases q : y = x
    · subst q
      cases hD.symm.trans hy
      exact ⟨E', q1.1, q2.2.1, q2.1, hsz⟩
    · exact ⟨cy, q10 y cy q hy, rfl, rfl, rfl⟩
  · obtain ⟨D3, cf, k, i, f, g1, g2, g3, g4, g5, g6, g7⟩ := F
    cases hD.symm.trans g1
    simp only [RoadKit.slotOf, g2, gV, gC, Option.map_some, Option.getD_some] at n1 n2
    exact ⟨E', cf, k, i, f, q1.1, g2, g3, by rw [q2.1]; exact g4, by rw [q2.1]; exact g5, by rw [q2.2.1]; exact g6, by rw [q2.2.2 f.slot (by simp [n1, n2])]; exact g7⟩
end StrChars.Road
namespace StrChars.Road
open Jvm Sem ClassFile Op Lib Jvm.Stand Jvm.Free Jvm.Free.XT
/-- WHAT COMES BACK, the byte[] as a list of values -/
def QA (Z : State) (x : Addr) (zn : Int32) (cs : List Int32) (h : Heap) (v : Option Value) (h' : Heap) (L : List Loc) : Prop := v = none ∧ (∀ y ∈ L, y.base = x) ∧ RoadKit.Keep h h' [x] ∧ h'.size = h.size + 1 ∧ RoadKit.Exa Z h' x ST ∧ RoadKit.Fld Z h' x ST "value" "[B" (.ref h.size) ∧ RoadKit.Fld Z h' x ST "coder" "B" (.int 0) ∧
  (∃ kb, Z.vm.findClass "[B" = some kb ∧ RoadKit.Arv Z h' h.size kb .byte zn (cs.map fun c => .int (lo8 c)) (.int 0)) ∧
  ∀ (O n d : String) (w : Value), RoadKit.Fld Z h x O n d w → RoadKit.slotOf Z O n d ≠ RoadKit.slotOf Z ST "value" "[B" → RoadKit.slotOf Z O n d ≠ RoadKit.slotOf Z ST "coder" "B" → RoadKit.Fld Z h' x O n d w
/-- **new String(chars) AT A CALL, THE ARRAYS AS LISTS**: the char[] at b holds cs, not empty, no char above 255 -/
theorem backArv {p : Program} {l : Launch} {e : Env} {R : Room} {s : State} {args : Array Value} {below : List Frame} {len W : Nat} {Z : State} {a0 : Array Value} {h : Heap} (hZ : Z.Warmed39 s.vm) (hw : ∀ d ∈ words, d.before a0 Z = true) {kI : Nat} (wi : (Jvm.Cond.instantiable ST kI).before a0 Z = true)
    {x b : Addr} {k : ClassId} {zn z : Int32} {cs : List Int32} {dv v0 c0 : Value} (E : RoadKit.Exa Z h x ST) (V : RoadKit.Fld Z h x ST "value" "[B" v0) (C : RoadKit.Fld Z h x ST "coder" "B" c0) (K : RoadKit.Arv Z h b k .char zn (cs.map Value.int) dv) (S : RoadKit.Sta Z h ST "COMPACT_STRINGS" "Z" (.int z)) (hz : ¬ z = 0)
    (hlen : zn.toNatClampNeg = cs.length) (h0 : 0 < cs.length) (hbig : cs.length ≤ 536870912) (hall : ∀ c ∈ cs, ¬ 255 < c) (hfr : 4 ≤ R.frames) (hlo : W + 65 ≤ R.locals) :
    Back l R p e below s args New1.yN len W (fun P a => a = #[.ref x, .ref b] ∧ P.U.heap = h ∧ P.cells + 1 ≤ R.cells ∧ P.slots + cs.length ≤ R.slots)
      (fun P _ v B => ∃ L, QA Z x zn cs h v B.U.heap L ∧ B.locs = P.locs ++ L ∧ B.cells = P.cells + 1 ∧ B.slots = P.slots + cs.length) := by
  obtain ⟨A, K1, K2, K3, K4, K5, K6⟩ := K
  have e : A.slots.size = cs.length := K3.trans hlen
  have hat : ∀ (i : Nat) (hi : i < cs.length), A.slots[i]? = some (.int cs[i]) := fun i hi => by rw [K5 i (by omega)]; simp [List.getD_eq_getElem?_getD, hi]
  have hcv : ∀ (i : Nat) (hi : i < cs.length), cv A i = cs[i] := fun i hi => by unfold cv; rw [hat i hi]
  have hty : Typed .char A := fun i v hv => by
    have hi : i < A.slots.size := (Array.getElem?_eq_some_iff.mp hv).1
    have q := K5 i hi
    rw [hv] at q
    rw [Option.some.inj q]
    exact K6 i hi
  refine Back.mono (back hZ hw wi E V C K1 hty S hz (by omega) (by omega) (fun i hi => by rw [hcv i (by omega)]; exact hall _ (List.getElem_mem _)) hfr hlo) (fun P a hp => ⟨hp.1, hp.2.1, hp.2.2.1, by rw [e]; exact hp.2.2.2⟩) (fun P a v B hp hq => ?_)
  obtain ⟨L, ⟨q1, q2, q3, q4, q5, q6, q7, ⟨V', v1, v2, v3, v4, v5⟩, q9⟩, hl, hc, hs⟩ := hq
  refine ⟨L, ⟨q1, q2, q3, q4, q5, q6, q7, ⟨V'.cls, v3, V', v1, rfl, by rw [v4, e, hlen], K4, fun i hi => ?_, fun i hi => ?_⟩, q9⟩, hl, hc, by rw [hs, e]⟩
  · have hi' : i < cs.length := by omega
    rw [v5 i (by omega), hcv i hi']; simp [List.getD_eq_getElem?_getD, hi']
  · have hi' : i < cs.length := by omega
    simp only [List.getD_eq_getElem?_getD, List.getElem?_map, List.getElem?_eq_getElem hi', Option.map_some, Option.getD_some]
    exact fits_lo8 _
end StrChars.Road
namespace StrChars.Road
open Jvm Sem ClassFile Op Lib Jvm.Stand Jvm.Free Jvm.Free.XT
/-- WHAT COMES BACK, in the writer's own shape -/
def QV (Z : State) (x : Addr) (N : Int32) (bs : List Int32) (h : Heap) (n0 : Nat) (v : Option Value) (h' : Heap) (L : List Loc) : Prop := v = none ∧ RoadKit.Fr n0 L ∧ RoadKit.Keep h h' [x] ∧ RoadKit.Exa Z h' x ST ∧ RoadKit.Fld Z h' x ST "coder" "B" (.int 0) ∧
  ∃ (t : Addr) (kb : ClassId), n0 ≤ t ∧ h.size ≤ t ∧ ¬ t = x ∧ RoadKit.Fld Z h' x ST "value" "[B" (.ref t) ∧ RoadKit.Arv Z h' t kb .byte N (bs.map Value.int) (.int 0)
/-- **new String(chars) AT A CALL, FOR THE WRITER**: a char[] of n known ints, each 0 to 255 -/
theorem backV {p : Program} {l : Launch} {e : Env} {R : Room} {s : State} {args : Array Value} {below : List Frame} {len W : Nat} {Z : State} {a0 : Array Value} {h : Heap} (hZ : Z.Warmed39 s.vm) (hw : ∀ d ∈ words, d.before a0 Z = true) {kI : Nat} (wi : (Jvm.Cond.instantiable ST kI).before a0 Z = true)
    {x b : Addr} {kC : ClassId} {cs bs : List Int32} {d v0 c0 : Value} {z N : Int32} {n n0 : Nat} (hx0 : n0 ≤ x) (hh0 : n0 ≤ h.size) (E : RoadKit.Exa Z h x ST) (V : RoadKit.Fld Z h x ST "value" "[B" v0) (C : RoadKit.Fld Z h x ST "coder" "B" c0) (K : RoadKit.Arv Z h b kC .char N (cs.map Value.int) d) (S : RoadKit.Sta Z h ST "COMPACT_STRINGS" "Z" (.int z)) (hz : ¬ z = 0)
    (hn : cs.length = n) (hN : N = Int32.ofNat n) (l0 : 0 < n) (l2 : n ≤ 4000) (hp : ∀ c ∈ cs, ¬ c < 0 ∧ ¬ (255 : Int32) < c) (hb : bs = cs.map (fun c => c.toInt8.toInt32)) (hfr : 4 ≤ R.frames) (hlo : W + 65 ≤ R.locals) :
    Back l R p e below s args (⟨"java/lang/String", "<init>", "([C)V"⟩ : MethodName) len W (fun P a => a = #[.ref x, .ref b] ∧ P.U.heap = h ∧ P.cells + 1 ≤ R.cells ∧ P.slots + n ≤ R.slots)
      (fun P _ v B => ∃ L, QV Z x N bs h n0 v B.U.heap L ∧ B.locs = P.locs ++ L ∧ B.cells = P.cells + 1 ∧ B.slots = P.slots + n) := by
  subst hn hN hb
  refine Back.mono (backArv hZ hw wi E V C K S hz (n32 (by omega)) l0 (by omega) (fun c hc => (hp c hc).2) hfr hlo) (fun P a hp => hp) (fun P a v B hp hq => ?_)
  obtain ⟨L, ⟨q1, q2, q3, q4, q5, q6, q7, ⟨kb, v1, v2⟩, q9⟩, hl, hc, hs⟩ := hq
  exact ⟨L, ⟨q1, fun y hy => by rw [q2 y hy]; exact hx0, q3, q5, q7, h.size, kb, hh0, Nat.le_refl _, Nat.ne_of_gt E.lt, q6, by rw [List.map_map]; exact v2⟩, hl, hc, hs⟩
end StrChars.Road
end Jvm.Pilot.@@N@@

namespace Jvm.Pilot.@@N@@
open Jvm Jvm.ClassFile Sem Op Lib Jvm.Free Jvm.Stand Jvm.LawKit Jvm.RoadKit Bundle Jvm.Pilot.@@N@@.Jvm.D
theorem own_cnil : ∀ c ∈ ([] : List Int32), ¬ c < 0 ∧ ¬ (255 : Int32) < c := fun _ q => nomatch q
theorem own_ccons {x : Int32} {L : List Int32} (h : ¬ x < 0 ∧ ¬ (255 : Int32) < x) (r : ∀ c ∈ L, ¬ c < 0 ∧ ¬ (255 : Int32) < c) : ∀ c ∈ x :: L, ¬ c < 0 ∧ ¬ (255 : Int32) < c := fun c z => (List.mem_cons.mp z).elim (fun u => u ▸ h) (r c)
theorem own_nc {x : Int32} (h1 : ¬ x < (0 : Int32)) (h2 : ¬ (255 : Int32) < x) : x.toUInt32.toUInt16.toUInt32.toInt32 = x := by
  have e0 : (0 : Int32).toInt = 0 := by decide
  have e1 : (255 : Int32).toInt = 255 := by decide
  rw [Int32.lt_iff_toInt_lt, e0] at h1
  rw [Int32.lt_iff_toInt_lt, e1] at h2
  have := c_i2c x
  rw [← Int32.toInt_inj]
  omega
theorem own_lat {x : Int32} (h1 : ¬ x < (0 : Int32)) (h2 : ¬ (255 : Int32) < x) : nar .char ((x.toInt8.toInt32 &&& (255 : Int32)).toUInt32.toUInt16.toUInt32.toInt32) = x := by
  have e : (x.toInt8.toInt32 &&& (255 : Int32)) = x := by
    have e0 : (0 : Int32).toInt = 0 := by decide
    have e1 : (255 : Int32).toInt = 255 := by decide
    rw [Int32.lt_iff_toInt_lt, e0] at h1
    rw [Int32.lt_iff_toInt_lt, e1] at h2
    have a := c_i2b x
    have b := c_mask x.toInt8.toInt32 (255 : Int32) 8 (by decide) (by decide)
    rw [← Int32.toInt_inj, b]
    omega
  rw [e, own_nc h1 h2]
  exact own_nc h1 h2
def own_pow (k : Int32) : Int32 := if (0 : Int32) < k then (if k = (1 : Int32) then (10 : Int32) else if k = (2 : Int32) then (100 : Int32) else if k = (3 : Int32) then (1000 : Int32) else if k = (4 : Int32) then (10000 : Int32) else if k = (5 : Int32) then (100000 : Int32) else if k = (6 : Int32) then (1000000 : Int32) else if k = (7 : Int32) then (10000000 : Int32) else if k = (8 : Int32) then (100000000 : Int32) else (1000000000 : Int32)) else (1 : Int32)
theorem own_pow_pos (k : Int32) : 0 < (own_pow k).toInt := by
  unfold own_pow
  repeat' split
  all_goals decide
theorem own_pow_ne (k : Int32) : own_pow k ≠ 0 := fun q => by
  have h := own_pow_pos k
  rw [q] at h
  exact absurd h (by decide)
theorem own_quo {v k : Int32} (lv : ¬ v < (0 : Int32)) : 0 ≤ (v / own_pow k).toInt := by
  have e0 : (0 : Int32).toInt = 0 := by decide
  rw [Int32.lt_iff_toInt_lt, e0] at lv
  exact (c_idivV v (own_pow k) (by omega) (own_pow_pos k)).1
theorem own_dgr {v k : Int32} (lv : ¬ v < (0 : Int32)) : ((48 : Int32) + (v / own_pow k) % (10 : Int32)).toInt = 48 + (v / own_pow k).toInt % 10 := by
  have h := own_quo (k := k) lv
  have h2 := (c_irem (v / own_pow k) (10 : Int32) 10 (by decide)).1 h
  have h3 := c_iadd (48 : Int32) ((v / own_pow k) % (10 : Int32))
  have e48 : (48 : Int32).toInt = 48 := by decide
  have r := rng32 ((48 : Int32) + (v / own_pow k) % (10 : Int32))
  rw [e48, h2] at h3
  omega
theorem own_dgb {v k : Int32} (lv : ¬ v < (0 : Int32)) : ¬ ((48 : Int32) + (v / own_pow k) % (10 : Int32)) < (0 : Int32) ∧ ¬ (255 : Int32) < ((48 : Int32) + (v / own_pow k) % (10 : Int32)) := by
  have h := own_dgr (k := k) lv
  have e0 : (0 : Int32).toInt = 0 := by decide
  have e1 : (255 : Int32).toInt = 255 := by decide
  rw [Int32.lt_iff_toInt_lt, Int32.lt_iff_toInt_lt, h, e0, e1]
  omega
theorem own_dg2 {v k : Int32} (lv : ¬ v < (0 : Int32)) : nar .char (((48 : Int32) + (v / own_pow k) % (10 : Int32)).toUInt32.toUInt16.toUInt32.toInt32) = (48 : Int32) + (v / own_pow k) % (10 : Int32) := by
  have h := own_dgb (k := k) lv
  rw [own_nc h.1 h.2]
  exact own_nc h.1 h.2
def own_sel9 (r0 r1 r2 r3 r4 r5 r6 r7 r8 i : Int32) : Int32 := if i = (0 : Int32) then r0 else if i = (1 : Int32) then r1 else if i = (2 : Int32) then r2 else if i = (3 : Int32) then r3 else if i = (4 : Int32) then r4 else if i = (5 : Int32) then r5 else if i = (6 : Int32) then r6 else if i = (7 : Int32) then r7 else r8
theorem own_nine {i : Int32} (h1 : ¬ i < (0 : Int32)) (h2 : i < (9 : Int32)) : i = (0 : Int32) ∨ i = (1 : Int32) ∨ i = (2 : Int32) ∨ i = (3 : Int32) ∨ i = (4 : Int32) ∨ i = (5 : Int32) ∨ i = (6 : Int32) ∨ i = (7 : Int32) ∨ i = (8 : Int32) := by
  have e0 : (0 : Int32).toInt = 0 := by decide
  have e1 : (1 : Int32).toInt = 1 := by decide
  have e2 : (2 : Int32).toInt = 2 := by decide
  have e3 : (3 : Int32).toInt = 3 := by decide
  have e4 : (4 : Int32).toInt = 4 := by decide
  have e5 : (5 : Int32).toInt = 5 := by decide
  have e6 : (6 : Int32).toInt = 6 := by decide
  have e7 : (7 : Int32).toInt = 7 := by decide
  have e8 : (8 : Int32).toInt = 8 := by decide
  have e9 : (9 : Int32).toInt = 9 := by decide
  rw [Int32.lt_iff_toInt_lt, e0] at h1
  rw [Int32.lt_iff_toInt_lt, e9] at h2
  simp only [← Int32.toInt_inj, e0, e1, e2, e3, e4, e5, e6, e7, e8]
  omega
theorem own_sel9_at {r0 r1 r2 r3 r4 r5 r6 r7 r8 i : Int32} (h1 : ¬ i < (0 : Int32)) (h2 : i < (9 : Int32)) : [Value.int r0.toInt8.toInt32, .int r1.toInt8.toInt32, .int r2.toInt8.toInt32, .int r3.toInt8.toInt32, .int r4.toInt8.toInt32, .int r5.toInt8.toInt32, .int r6.toInt8.toInt32, .int r7.toInt8.toInt32, .int r8.toInt8.toInt32].getD i.toNatClampNeg (.int (0 : Int32)) = .int (own_sel9 r0 r1 r2 r3 r4 r5 r6 r7 r8 i).toInt8.toInt32 := by
  rcases own_nine h1 h2 with rfl | rfl | rfl | rfl | rfl | rfl | rfl | rfl | rfl <;> rfl
theorem own_sel9_l {r0 r1 r2 r3 r4 r5 r6 r7 r8 i : Int32} (a0 : ¬ r0 < (0 : Int32)) (a1 : ¬ r1 < (0 : Int32)) (a2 : ¬ r2 < (0 : Int32)) (a3 : ¬ r3 < (0 : Int32)) (a4 : ¬ r4 < (0 : Int32)) (a5 : ¬ r5 < (0 : Int32)) (a6 : ¬ r6 < (0 : Int32)) (a7 : ¬ r7 < (0 : Int32)) (a8 : ¬ r8 < (0 : Int32)) : ¬ own_sel9 r0 r1 r2 r3 r4 r5 r6 r7 r8 i < (0 : Int32) := by
  unfold own_sel9
  repeat' split
  all_goals assumption
theorem own_sel9_u {r0 r1 r2 r3 r4 r5 r6 r7 r8 i : Int32} (a0 : ¬ (255 : Int32) < r0) (a1 : ¬ (255 : Int32) < r1) (a2 : ¬ (255 : Int32) < r2) (a3 : ¬ (255 : Int32) < r3) (a4 : ¬ (255 : Int32) < r4) (a5 : ¬ (255 : Int32) < r5) (a6 : ¬ (255 : Int32) < r6) (a7 : ¬ (255 : Int32) < r7) (a8 : ¬ (255 : Int32) < r8) : ¬ (255 : Int32) < own_sel9 r0 r1 r2 r3 r4 r5 r6 r7 r8 i := by
  unfold own_sel9
  repeat' split
  all_goals assumption
theorem own_klt {i e : Int32} {k : Nat} (h : i.toInt + ((k + 1 : Nat) : Int) = e.toInt) : i < e := by rw [Int32.lt_iff_toInt_lt]; omega
theorem own_knl {i e : Int32} (h : i.toInt + ((0 : Nat) : Int) = e.toInt) : ¬ i < e := by rw [Int32.lt_iff_toInt_lt]; omega
theorem own_inc {i e : Int32} (h : i < e) : (i + (1 : Int32)).toInt = i.toInt + 1 := by
  have e1 : (1 : Int32).toInt = 1 := by decide
  have c1 := c_iadd i (1 : Int32)
  have r1 := rng32 e
  have r2 := rng32 (i + (1 : Int32))
  have r3 := rng32 i
  rw [Int32.lt_iff_toInt_lt] at h
  rw [e1] at c1
  omega
theorem own_up {i e : Int32} {k : Nat} (h : i.toInt + ((k + 1 : Nat) : Int) = e.toInt) (hl : i < e) : (i + (1 : Int32)).toInt + (k : Int) = e.toInt := by rw [own_inc hl]; omega
theorem own_ge {i a e : Int32} (h : ¬ i < a) (hl : i < e) : ¬ (i + (1 : Int32)) < a := by
  rw [Int32.lt_iff_toInt_lt] at h ⊢
  rw [own_inc hl]; omega
theorem own_k0 {a e : Int32} (h : a < e) : a.toInt + (((e.toInt - a.toInt).toNat : Nat) : Int) = e.toInt := by rw [Int32.lt_iff_toInt_lt] at h; omega
theorem own_irr (a : Int32) : ¬ a < a := by rw [Int32.lt_iff_toInt_lt]; omega
theorem own_ten {k : Int32} (h1 : ¬ k < (0 : Int32)) (h2 : ¬ (9 : Int32) < k) : k = (0 : Int32) ∨ k = (1 : Int32) ∨ k = (2 : Int32) ∨ k = (3 : Int32) ∨ k = (4 : Int32) ∨ k = (5 : Int32) ∨ k = (6 : Int32) ∨ k = (7 : Int32) ∨ k = (8 : Int32) ∨ k = (9 : Int32) := by
  by_cases h : k = (9 : Int32)
  · simp [h]
  · have e9 : (9 : Int32).toInt = 9 := by decide
    have q : k < (9 : Int32) := by
      rw [← Int32.toInt_inj, e9] at h
      rw [Int32.lt_iff_toInt_lt, e9] at h2 ⊢
      omega
    rcases own_nine h1 q with h | h | h | h | h | h | h | h | h <;> simp [h]
theorem own_pow_at {k : Int32} (h1 : ¬ k < (0 : Int32)) (h2 : ¬ (9 : Int32) < k) : (own_pow k).toInt = ((10 ^ k.toInt.toNat : Nat) : Int) := by
  rcases own_ten h1 h2 with rfl | rfl | rfl | rfl | rfl | rfl | rfl | rfl | rfl | rfl <;> decide +kernel
theorem own_quo_at {v k : Int32} (lv : ¬ v < (0 : Int32)) (h1 : ¬ k < (0 : Int32)) (h2 : ¬ (9 : Int32) < k) : (v / own_pow k).toInt = ((v.toInt.toNat / 10 ^ k.toInt.toNat : Nat) : Int) := by
  have e0 : (0 : Int32).toInt = 0 := by decide
  rw [Int32.lt_iff_toInt_lt, e0] at lv
  have hne : own_pow k ≠ -1 := fun q => by
    have h := own_pow_pos k
    rw [q] at h
    exact absurd h (by decide)
  have h := (c_idiv v (own_pow k) _ (own_pow_at h1 h2) hne).1 (by omega)
  rw [h, Int.natCast_ediv, Int.toNat_of_nonneg (by omega)]
def own_inv (v sa i w : Int32) : Prop := w.toInt = (((v.toInt.toNat / 10 ^ (9 - i.toInt.toNat)) % 10 ^ (i.toInt.toNat - sa.toInt.toNat) : Nat) : Int)
theorem own_inv0 (v sa : Int32) : own_inv v sa sa (0 : Int32) := by
  unfold own_inv
  rw [Nat.sub_self, Nat.pow_zero, Nat.mod_one]
  decide
theorem own_nat (V I S : Nat) (h1 : I ≤ 8) (h2 : S ≤ I) : (V / 10 ^ (9 - (I + 1))) % 10 ^ (I + 1 - S) = ((V / 10 ^ (9 - I)) % 10 ^ (I - S)) * 10 + (V / 10 ^ (8 - I)) % 10 := by
  have a : 9 - (I + 1) = 8 - I := by omega
  have b : I + 1 - S = (I - S) + 1 := by omega
  have d : 9 - I = (8 - I) + 1 := by omega
  rw [a, b, d, Nat.pow_succ, Nat.pow_succ, ← Nat.div_div_eq_div_mul, Nat.mul_comm (10 ^ (I - S)) 10, Nat.mod_mul]
  omega
theorem own_sub8 {i : Int32} (h1 : ¬ i < (0 : Int32)) (h2 : i < (9 : Int32)) : ((8 : Int32) - i).toInt = 8 - i.toInt := by
  have e0 : (0 : Int32).toInt = 0 := by decide
  have e8 : (8 : Int32).toInt = 8 := by decide
  have e9 : (9 : Int32).toInt = 9 := by decide
  rw [Int32.lt_iff_toInt_lt, e0] at h1
  rw [Int32.lt_iff_toInt_lt, e9] at h2
  have q := c_isub (8 : Int32) i
  have r := rng32 ((8 : Int32) - i)
  rw [e8] at q
  omega
theorem own_inv_step {v sa i en w x : Int32} (lv : ¬ v < (0 : Int32)) (ls : ¬ sa < (0 : Int32)) (hen : ¬ (9 : Int32) < en) (hge : ¬ i < sa) (hlt : i < en) (hx : x = (48 : Int32) + (v / own_pow ((8 : Int32) - i)) % (10 : Int32)) (hi : own_inv v sa i w) : own_inv v sa (i + (1 : Int32)) (w * (10 : Int32) + (x - (48 : Int32))) := by
  have e0 : (0 : Int32).toInt = 0 := by decide
  have e9 : (9 : Int32).toInt = 9 := by decide
  have e10 : (10 : Int32).toInt = 10 := by decide
  have e48 : (48 : Int32).toInt = 48 := by decide
  have i1 : ¬ i < (0 : Int32) := by rw [Int32.lt_iff_toInt_lt] at *; omega
  have i2 : i < (9 : Int32) := by rw [Int32.lt_iff_toInt_lt] at *; omega
  have h8 := own_sub8 i1 i2
  have k1 : ¬ ((8 : Int32) - i) < (0 : Int32) := by rw [Int32.lt_iff_toInt_lt, e9] at i2; rw [Int32.lt_iff_toInt_lt, h8, e0]; omega
  have k2 : ¬ (9 : Int32) < ((8 : Int32) - i) := by rw [Int32.lt_iff_toInt_lt, e0] at i1; rw [Int32.lt_iff_toInt_lt, h8, e9]; omega
  have hd := own_dgr (k := (8 : Int32) - i) lv
  rw [own_quo_at lv k1 k2, ← hx, h8] at hd
  have hin := own_inc hlt
  rw [Int32.lt_iff_toInt_lt, e0] at i1 ls
  rw [Int32.lt_iff_toInt_lt, e9] at i2
  rw [Int32.lt_iff_toInt_lt] at hge
  have n1 : (8 - i.toInt).toNat = 8 - i.toInt.toNat := by omega
  have n2 : (i.toInt + 1).toNat = i.toInt.toNat + 1 := by omega
  rw [n1] at hd
  unfold own_inv at hi ⊢
  rw [hin, n2, own_nat _ _ _ (by omega) (by omega)]
  have hb : (v.toInt.toNat / 10 ^ (9 - i.toInt.toNat)) % 10 ^ (i.toInt.toNat - sa.toInt.toNat) < 100000000 := Nat.lt_of_lt_of_le (Nat.mod_lt _ (Nat.pow_pos (by decide))) (Nat.le_trans (Nat.pow_le_pow_right (by decide) (show i.toInt.toNat - sa.toInt.toNat ≤ 8 by omega)) (by decide))
  have hm := c_imul w (10 : Int32)
  have hs := c_isub x (48 : Int32)
  have ha := c_iadd (w * (10 : Int32)) (x - (48 : Int32))
  have q1 := rng32 (w * (10 : Int32))
  have q2 := rng32 (x - (48 : Int32))
  have q3 := rng32 (w * (10 : Int32) + (x - (48 : Int32)))
  rw [e10] at hm
  rw [e48] at hs
  generalize (v.toInt.toNat / 10 ^ (9 - i.toInt.toNat)) % 10 ^ (i.toInt.toNat - sa.toInt.toNat) = A at *
  generalize v.toInt.toNat / 10 ^ (8 - i.toInt.toNat) = B at *
  omega
theorem own_fin {v sa en ln w : Int32} (lv : ¬ v < (0 : Int32)) (ls : ¬ sa < (0 : Int32)) (hl : 1 ≤ ln.toInt) (he : en.toInt = sa.toInt + ln.toInt) (hen : ¬ (9 : Int32) < en) (h : own_inv v sa en w) : w = (v / own_pow ((9 : Int32) - en)) % own_pow ln := by
  have e0 : (0 : Int32).toInt = 0 := by decide
  have e9 : (9 : Int32).toInt = 9 := by decide
  rw [Int32.lt_iff_toInt_lt, e0] at ls
  rw [Int32.lt_iff_toInt_lt, e9] at hen
  have q := c_isub (9 : Int32) en
  have r := rng32 ((9 : Int32) - en)
  rw [e9] at q
  have h9 : ((9 : Int32) - en).toInt = 9 - en.toInt := by omega
  have k1 : ¬ ((9 : Int32) - en) < (0 : Int32) := by rw [Int32.lt_iff_toInt_lt, h9, e0]; omega
  have k2 : ¬ (9 : Int32) < ((9 : Int32) - en) := by rw [Int32.lt_iff_toInt_lt, h9, e9]; omega
  have l1 : ¬ ln < (0 : Int32) := by rw [Int32.lt_iff_toInt_lt, e0]; omega
  have l2 : ¬ (9 : Int32) < ln := by rw [Int32.lt_iff_toInt_lt, e9]; omega
  have hq := own_quo_at lv k1 k2
  have hr := (c_irem (v / own_pow ((9 : Int32) - en)) (own_pow ln) _ (own_pow_at l1 l2)).1 (by rw [hq]; exact Int.natCast_nonneg _)
  rw [← Int32.toInt_inj, hr, hq, h9]
  unfold own_inv at h
  rw [h]
  have n1 : (9 - en.toInt).toNat = 9 - en.toInt.toNat := by omega
  have n2 : en.toInt.toNat - sa.toInt.toNat = ln.toInt.toNat := by omega
  rw [n1, n2, Int.natCast_emod]
theorem own_v (x : Int32) : ∃ z, ((x &&& (2147483647 : Int32)) % (1000000000 : Int32)) = z ∧ ¬ z < (0 : Int32) := by
  refine ⟨_, rfl, ?_⟩
  have b := c_mask x (2147483647 : Int32) 31 (by decide) (by decide)
  have h := (c_irem (x &&& (2147483647 : Int32)) (1000000000 : Int32) 1000000000 (by decide)).1 (by rw [b]; omega)
  have e0 : (0 : Int32).toInt = 0 := by decide
  rw [Int32.lt_iff_toInt_lt, h, e0, b]
  omega
theorem own_s (x : Int32) : ∃ z, ((x &&& (2147483647 : Int32)) % (9 : Int32)) = z ∧ ¬ z < (0 : Int32) ∧ z < (9 : Int32) := by
  refine ⟨_, rfl, ?_⟩
  have b := c_mask x (2147483647 : Int32) 31 (by decide) (by decide)
  have h := (c_irem (x &&& (2147483647 : Int32)) (9 : Int32) 9 (by decide)).1 (by rw [b]; omega)
  have e0 : (0 : Int32).toInt = 0 := by decide
  have e9 : (9 : Int32).toInt = 9 := by decide
  rw [Int32.lt_iff_toInt_lt, Int32.lt_iff_toInt_lt, h, e0, e9, b]
  omega
theorem own_sub9 {i : Int32} (h1 : ¬ i < (0 : Int32)) (h2 : i < (9 : Int32)) : ((9 : Int32) - i).toInt = 9 - i.toInt := by
  have e0 : (0 : Int32).toInt = 0 := by decide
  have e9 : (9 : Int32).toInt = 9 := by decide
  rw [Int32.lt_iff_toInt_lt, e0] at h1
  rw [Int32.lt_iff_toInt_lt, e9] at h2
  have q := c_isub (9 : Int32) i
  have r := rng32 ((9 : Int32) - i)
  rw [e9] at q
  omega
theorem own_sub9_ne {i : Int32} (h1 : ¬ i < (0 : Int32)) (h2 : i < (9 : Int32)) : ((9 : Int32) - i) ≠ 0 := fun q => by
  have h := own_sub9 h1 h2
  have e0 : (0 : Int32).toInt = 0 := by decide
  have e9 : (9 : Int32).toInt = 9 := by decide
  rw [Int32.lt_iff_toInt_lt, e9] at h2
  rw [q, e0] at h
  omega
theorem own_l (x : Int32) {s : Int32} (h1 : ¬ s < (0 : Int32)) (h2 : s < (9 : Int32)) : ∃ z, ((1 : Int32) + ((x &&& (2147483647 : Int32)) % ((9 : Int32) - s))) = z ∧ 1 ≤ z.toInt ∧ z.toInt ≤ 9 - s.toInt := by
  refine ⟨_, rfl, ?_⟩
  have b := c_mask x (2147483647 : Int32) 31 (by decide) (by decide)
  have h9 := own_sub9 h1 h2
  have e0 : (0 : Int32).toInt = 0 := by decide
  have e1 : (1 : Int32).toInt = 1 := by decide
  have e9 : (9 : Int32).toInt = 9 := by decide
  rw [Int32.lt_iff_toInt_lt, e0] at h1
  rw [Int32.lt_iff_toInt_lt, e9] at h2
  have h := (c_irem (x &&& (2147483647 : Int32)) ((9 : Int32) - s) (9 - s.toInt).toNat (by rw [h9, Int.toNat_of_nonneg (by omega)])).1 (by rw [b]; omega)
  rw [Int.toNat_of_nonneg (by omega)] at h
  have m1 := Int.emod_nonneg (x &&& (2147483647 : Int32)).toInt (show (9 - s.toInt) ≠ 0 by omega)
  have m2 := Int.emod_lt_of_pos (x &&& (2147483647 : Int32)).toInt (show 0 < (9 - s.toInt) by omega)
  have a := c_iadd (1 : Int32) ((x &&& (2147483647 : Int32)) % ((9 : Int32) - s))
  have r := rng32 ((1 : Int32) + ((x &&& (2147483647 : Int32)) % ((9 : Int32) - s)))
  rw [e1, h] at a
  omega
theorem own_e {s l : Int32} (h1 : ¬ s < (0 : Int32)) (h2 : s < (9 : Int32)) (l1 : 1 ≤ l.toInt) (l2 : l.toInt ≤ 9 - s.toInt) : ∃ z, (s + l) = z ∧ z.toInt = s.toInt + l.toInt ∧ ¬ (9 : Int32) < z ∧ s < z := by
  refine ⟨_, rfl, ?_⟩
  have e0 : (0 : Int32).toInt = 0 := by decide
  have e9 : (9 : Int32).toInt = 9 := by decide
  rw [Int32.lt_iff_toInt_lt, e0] at h1
  rw [Int32.lt_iff_toInt_lt, e9] at h2
  have a := c_iadd s l
  have r := rng32 (s + l)
  rw [Int32.lt_iff_toInt_lt, Int32.lt_iff_toInt_lt, e9]
  omega
theorem own_char (y : Int32) : ∃ z, (y &&& (255 : Int32)).toUInt32.toUInt16.toUInt32.toInt32 = z ∧ ¬ z < (0 : Int32) ∧ ¬ (255 : Int32) < z := by
  refine ⟨y &&& (255 : Int32), i2c_mask y, ?_⟩
  have b := c_mask y (255 : Int32) 8 (by decide) (by decide)
  have e0 : (0 : Int32).toInt = 0 := by decide
  have e1 : (255 : Int32).toInt = 255 := by decide
  rw [Int32.lt_iff_toInt_lt, Int32.lt_iff_toInt_lt, b, e0, e1]
  omega
theorem own_in9 {i sa en : Int32} (ls : ¬ sa < (0 : Int32)) (hen : ¬ (9 : Int32) < en) (h1 : ¬ i < sa) (h2 : i < en) : ¬ i < (0 : Int32) ∧ i < (9 : Int32) := by
  rw [Int32.lt_iff_toInt_lt] at *
  rw [Int32.lt_iff_toInt_lt] at *
  omega
theorem own_hsel {v sa en r0 r1 r2 r3 r4 r5 r6 r7 r8 : Int32} (ls : ¬ sa < (0 : Int32)) (hen : ¬ (9 : Int32) < en) (D0 : ¬ (0 : Int32) < sa → (0 : Int32) < en → r0 = (48 : Int32) + (v / own_pow ((8 : Int32) - (0 : Int32))) % (10 : Int32)) (D1 : ¬ (1 : Int32) < sa → (1 : Int32) < en → r1 = (48 : Int32) + (v / own_pow ((8 : Int32) - (1 : Int32))) % (10 : Int32)) (D2 : ¬ (2 : Int32) < sa → (2 : Int32) < en → r2 = (48 : Int32) + (v / own_pow ((8 : Int32) - (2 : Int32))) % (10 : Int32)) (D3 : ¬ (3 : Int32) < sa → (3 : Int32) < en → r3 = (48 : Int32) + (v / own_pow ((8 : Int32) - (3 : Int32))) % (10 : Int32)) (D4 : ¬ (4 : Int32) < sa → (4 : Int32) < en → r4 = (48 : Int32) + (v / own_pow ((8 : Int32) - (4 : Int32))) % (10 : Int32)) (D5 : ¬ (5 : Int32) < sa → (5 : Int32) < en → r5 = (48 : Int32) + (v / own_pow ((8 : Int32) - (5 : Int32))) % (10 : Int32)) (D6 : ¬ (6 : Int32) < sa → (6 : Int32) < en → r6 = (48 : Int32) + (v / own_pow ((8 : Int32) - (6 : Int32))) % (10 : Int32)) (D7 : ¬ (7 : Int32) < sa → (7 : Int32) < en → r7 = (48 : Int32) + (v / own_pow ((8 : Int32) - (7 : Int32))) % (10 : Int32)) (D8 : ¬ (8 : Int32) < sa → (8 : Int32) < en → r8 = (48 : Int32) + (v / own_pow ((8 : Int32) - (8 : Int32))) % (10 : Int32)) : ∀ i : Int32, ¬ i < sa → i < en → own_sel9 r0 r1 r2 r3 r4 r5 r6 r7 r8 i = (48 : Int32) + (v / own_pow ((8 : Int32) - i)) % (10 : Int32) := fun i h1 h2 => by
  have q := own_in9 ls hen h1 h2
  rcases own_nine q.1 q.2 with rfl | rfl | rfl | rfl | rfl | rfl | rfl | rfl | rfl
  · exact D0 h1 h2
  · exact D1 h1 h2
  · exact D2 h1 h2
  · exact D3 h1 h2
  · exact D4 h1 h2
  · exact D5 h1 h2
  · exact D6 h1 h2
  · exact D7 h1 h2
  · exact D8 h1 h2
theorem own_hall {v sa en r0 r1 r2 r3 r4 r5 r6 r7 r8 : Int32} (lv : ¬ v < (0 : Int32)) (ls : ¬ sa < (0 : Int32)) (hen : ¬ (9 : Int32) < en) (hs : ∀ i : Int32, ¬ i < sa → i < en → own_sel9 r0 r1 r2 r3 r4 r5 r6 r7 r8 i = (48 : Int32) + (v / own_pow ((8 : Int32) - i)) % (10 : Int32)) : ∀ i : Int32, ¬ i < sa → i < en → ¬ i < (0 : Int32) ∧ i < (9 : Int32) ∧ ¬ (own_sel9 r0 r1 r2 r3 r4 r5 r6 r7 r8 i) < (48 : Int32) ∧ ¬ (57 : Int32) < (own_sel9 r0 r1 r2 r3 r4 r5 r6 r7 r8 i) := fun i h1 h2 => by
  have q := own_in9 ls hen h1 h2
  have d := own_dgr (k := (8 : Int32) - i) lv
  have e48 : (48 : Int32).toInt = 48 := by decide
  have e57 : (57 : Int32).toInt = 57 := by decide
  rw [hs i h1 h2]
  refine ⟨q.1, q.2, ?_, ?_⟩ <;> rw [Int32.lt_iff_toInt_lt, d] <;> omega
theorem own_invz {v sa en i w : Int32} (hk : i.toInt + ((0 : Nat) : Int) = en.toInt) (h : own_inv v sa i w) : own_inv v sa en w := by
  have e : i = en := by rw [← Int32.toInt_inj]; omega
  exact e ▸ h
theorem own_p10_d0 : decode method_4_code 0 = .ok (.iload_n 0, 1) := by decide +kernel
theorem own_p10_d1 : decode method_4_code 1 = .ok (.ifCond .gt 5, 3) := by decide +kernel
theorem own_p10_d4 : decode method_4_code 4 = .ok (.iconst 1, 1) := by decide +kernel
theorem own_p10_d5 : decode method_4_code 5 = .ok (.ireturn, 1) := by decide +kernel
theorem own_p10_d6 : decode method_4_code 6 = .ok (.iload_n 0, 1) := by decide +kernel
theorem own_p10_d7 : decode method_4_code 7 = .ok (.iconst 1, 1) := by decide +kernel
theorem own_p10_d8 : decode method_4_code 8 = .ok (.if_icmp .ne 6, 3) := by decide +kernel
theorem own_p10_d11 : decode method_4_code 11 = .ok (.bipush 10, 2) := by decide +kernel
theorem own_p10_d13 : decode method_4_code 13 = .ok (.ireturn, 1) := by decide +kernel
theorem own_p10_d14 : decode method_4_code 14 = .ok (.iload_n 0, 1) := by decide +kernel
theorem own_p10_d15 : decode method_4_code 15 = .ok (.iconst 2, 1) := by decide +kernel
theorem own_p10_d16 : decode method_4_code 16 = .ok (.if_icmp .ne 6, 3) := by decide +kernel
theorem own_p10_d19 : decode method_4_code 19 = .ok (.bipush 100, 2) := by decide +kernel
theorem own_p10_d21 : decode method_4_code 21 = .ok (.ireturn, 1) := by decide +kernel
theorem own_p10_d22 : decode method_4_code 22 = .ok (.iload_n 0, 1) := by decide +kernel
theorem own_p10_d23 : decode method_4_code 23 = .ok (.iconst 3, 1) := by decide +kernel
theorem own_p10_d24 : decode method_4_code 24 = .ok (.if_icmp .ne 7, 3) := by decide +kernel
theorem own_p10_d27 : decode method_4_code 27 = .ok (.sipush 1000, 3) := by decide +kernel
theorem own_p10_d30 : decode method_4_code 30 = .ok (.ireturn, 1) := by decide +kernel
theorem own_p10_d31 : decode method_4_code 31 = .ok (.iload_n 0, 1) := by decide +kernel
theorem own_p10_d32 : decode method_4_code 32 = .ok (.iconst 4, 1) := by decide +kernel
theorem own_p10_d33 : decode method_4_code 33 = .ok (.if_icmp .ne 7, 3) := by decide +kernel
theorem own_p10_d36 : decode method_4_code 36 = .ok (.sipush 10000, 3) := by decide +kernel
theorem own_p10_d39 : decode method_4_code 39 = .ok (.ireturn, 1) := by decide +kernel
theorem own_p10_d40 : decode method_4_code 40 = .ok (.iload_n 0, 1) := by decide +kernel
theorem own_p10_d41 : decode method_4_code 41 = .ok (.iconst 5, 1) := by decide +kernel
theorem own_p10_d42 : decode method_4_code 42 = .ok (.if_icmp .ne 6, 3) := by decide +kernel
theorem own_p10_d45 : decode method_4_code 45 = .ok (.ldc 30, 2) := by decide +kernel
theorem own_p10_d47 : decode method_4_code 47 = .ok (.ireturn, 1) := by decide +kernel
theorem own_p10_d48 : decode method_4_code 48 = .ok (.iload_n 0, 1) := by decide +kernel
theorem own_p10_d49 : decode method_4_code 49 = .ok (.bipush 6, 2) := by decide +kernel
theorem own_p10_d51 : decode method_4_code 51 = .ok (.if_icmp .ne 6, 3) := by decide +kernel
theorem own_p10_d54 : decode method_4_code 54 = .ok (.ldc 31, 2) := by decide +kernel
theorem own_p10_d56 : decode method_4_code 56 = .ok (.ireturn, 1) := by decide +kernel
theorem own_p10_d57 : decode method_4_code 57 = .ok (.iload_n 0, 1) := by decide +kernel
theorem own_p10_d58 : decode method_4_code 58 = .ok (.bipush 7, 2) := by decide +kernel
theorem own_p10_d60 : decode method_4_code 60 = .ok (.if_icmp .ne 6, 3) := by decide +kernel
theorem own_p10_d63 : decode method_4_code 63 = .ok (.ldc 32, 2) := by decide +kernel
theorem own_p10_d65 : decode method_4_code 65 = .ok (.ireturn, 1) := by decide +kernel
theorem own_p10_d66 : decode method_4_code 66 = .ok (.iload_n 0, 1) := by decide +kernel
theorem own_p10_d67 : decode method_4_code 67 = .ok (.bipush 8, 2) := by decide +kernel
theorem own_p10_d69 : decode method_4_code 69 = .ok (.if_icmp .ne 6, 3) := by decide +kernel
theorem own_p10_d72 : decode method_4_code 72 = .ok (.ldc 33, 2) := by decide +kernel
theorem own_p10_d74 : decode method_4_code 74 = .ok (.ireturn, 1) := by decide +kernel
theorem own_p10_d75 : decode method_4_code 75 = .ok (.ldc 8, 2) := by decide +kernel
theorem own_p10_d77 : decode method_4_code 77 = .ok (.ireturn, 1) := by decide +kernel
theorem own_p10_pn : plainName "com/example/fixd/fixd/nmea/FieldsDigitsPinLaw" = true := by first | (simp [plainName, overriddenIn]; done) | decide +kernel
theorem own_p10_ef (m : MethodId) (x0 : Int32) : entryFrame m #[(.int x0)] 1 = mkF m 0 #[.val (.int x0)] [] := by first | (simp [entryFrame, mkF, argsToLocals, Value.category]; done) | rfl
def own_p10_Q (Z : State) (kk : Int32) (h0 : Heap) (n0 : Nat) (vv_ : Option Value) (hh_ : Heap) (LL_ : List Loc) : Prop := vv_ = some (.int (own_pow kk)) ∧ Fr n0 LL_ ∧ hh_ = h0
set_option maxRecDepth 65536 in
set_option maxHeartbeats 40000000 in
theorem own_p10 (l : Launch) (Z : State) (a0 : Array Value) (hw : ∀ d ∈ tables_1, d.before a0 Z = true) (ws : List Jvm.Cond) (kk : Int32) (h0 : Heap) (n0 : Nat) (Z0 : n0 ≤ h0.size) :
    MetFree l (⟨"com/example/fixd/fixd/nmea/FieldsDigitsPinLaw", "pow10", "(I)I"⟩ : MethodName) (head1 (Jvm.Cond.code (⟨"com/example/fixd/fixd/nmea/FieldsDigitsPinLaw", "pow10", "(I)I"⟩ : MethodName) method_4_code 1 (some .int) :: ws) ({ frames := 0, cells := 0, slots := 0, locals := 0 } : Room)) (fun aa_ UU_ => aa_ = #[(.int kk)] ∧ Z.Warmed39 UU_.vm ∧ UU_.heap = h0) (fun _ _ _ _ _ => True) (fun _ UU_ oo_ UV_ => ∃ vv_ LL_, oo_ = .returned vv_ ∧ own_p10_Q Z kk h0 n0 vv_ UV_.heap LL_ ∧ FrameEnd UU_ oo_ UV_ LL_ ({ frames := 0, cells := 0, slots := 0, locals := 0 } : Room).cells ({ frames := 0, cells := 0, slots := 0, locals := 0 } : Room).slots) := by
  refine MetFree.of_bodySF (plainFor_of_name own_p10_pn) hisR ?_
  intro p e s m args below meth c s₁ Bd hml0 hP hK
  obtain ⟨rfl, hZ, hh⟩ := hP
  have hx := Bd.exec
  have hby := Bd.bytes
  have hml : c.maxLocals = 1 := hml0
  have hown : s.vm.findClass "com/example/fixd/fixd/nmea/FieldsDigitsPinLaw" = some m.cls := findClass_of_methodNamed Bd.named
  have hnm := (name_of_methodNamed Bd.named Bd.method).1
  have X0 : Stand p l e ({ frames := 0, cells := 0, slots := 0, locals := 0 } : Room) s m #[(.int kk)] below meth c s₁ [] 0 0 := Stand.of_body Bd
  have e0 : s₁.heap = h0 := by rw [← hh, Bd.state]; rfl
  have N0 := Fr.nil n0
  have KP0 : Keep h0 h0 [] := Keep.refl _ _
  refine ownFin (Q := own_p10_Q Z kk h0 n0) ?_
  refine ownStep (fun _ k => castTop (own_p10_ef m kk) k) ?_
  show ownGo p.tables e below (s₁.setTop (mkF m 0 #[.val (.int kk)] [])) _
  refine ownStep (fun _ k => XS.iloadN X0.here hx rfl (hb hby own_p10_d0) rfl  k) ?_
  show ownGo p.tables e below (s₁.setTop (mkF m 1 #[.val (.int kk)] [(.int kk)])) _
  by_cases hc1 : (0 : Int32) < kk
  · skip
    refine ownStep (fun _ k => XS.ifYes X0.here hx rfl (pc0 := 1) (pc' := 6) rfl (hb hby own_p10_d1) rfl ((if0 _ _).trans (tlt (hc1 : (0 : Int32) < kk)).2.2.1) (by decide) (by decide) k) ?_
    refine ownStep (fun _ k => XS.iloadN X0.here hx rfl (hb hby own_p10_d6) rfl  k) ?_
    refine ownStep (fun _ k => XS.iconst X0.here hx rfl (hb hby own_p10_d7) k) ?_
    show ownGo p.tables e below (s₁.setTop (mkF m 8 #[.val (.int kk)] [(.int (1 : Int32)), (.int kk)])) _
    by_cases hc8 : kk = (1 : Int32)
    · skip
      refine ownStep (fun _ k => XS.icmpNo X0.here hx rfl (hb hby own_p10_d8) rfl (teq (hc8 : kk = (1 : Int32))).2 k) ?_
      refine ownStep (fun _ k => XS.bipush X0.here hx rfl (hb hby own_p10_d11) k) ?_
      show ownGo p.tables e below (s₁.setTop (mkF m 13 #[.val (.int kk)] [(.int (10 : Int32))])) _
      exact ownRet X0 (v := some (.int (10 : Int32))) Bd.notSynchronized (fun h => by rw [Bd.returns] at h; cases h) (fun _ hr => retI X0 hx Bd.returns (hb hby own_p10_d13) hr) (by rw [e0]; exact ⟨(by simp [own_pow, hc1, hc8]), N0, rfl⟩) (by decide) (by decide)
    · skip
      refine ownStep (fun _ k => XS.icmpYes X0.here hx rfl (pc0 := 8) (pc' := 14) rfl (hb hby own_p10_d8) rfl (feq (hc8 : ¬ kk = (1 : Int32))).2 (by decide) (by decide) k) ?_
      refine ownStep (fun _ k => XS.iloadN X0.here hx rfl (hb hby own_p10_d14) rfl  k) ?_
      refine ownStep (fun _ k => XS.iconst X0.here hx rfl (hb hby own_p10_d15) k) ?_
      show ownGo p.tables e below (s₁.setTop (mkF m 16 #[.val (.int kk)] [(.int (2 : Int32)), (.int kk)])) _
      by_cases hc16 : kk = (2 : Int32)
      · skip
        refine ownStep (fun _ k => XS.icmpNo X0.here hx rfl (hb hby own_p10_d16) rfl (teq (hc16 : kk = (2 : Int32))).2 k) ?_
        refine ownStep (fun _ k => XS.bipush X0.here hx rfl (hb hby own_p10_d19) k) ?_
        show ownGo p.tables e below (s₁.setTop (mkF m 21 #[.val (.int kk)] [(.int (100 : Int32))])) _
        exact ownRet X0 (v := some (.int (100 : Int32))) Bd.notSynchronized (fun h => by rw [Bd.returns] at h; cases h) (fun _ hr => retI X0 hx Bd.returns (hb hby own_p10_d21) hr) (by rw [e0]; exact ⟨(by simp [own_pow, hc1, hc8, hc16]), N0, rfl⟩) (by decide) (by decide)
      · skip
        refine ownStep (fun _ k => XS.icmpYes X0.here hx rfl (pc0 := 16) (pc' := 22) rfl (hb hby own_p10_d16) rfl (feq (hc16 : ¬ kk = (2 : Int32))).2 (by decide) (by decide) k) ?_
        refine ownStep (fun _ k => XS.iloadN X0.here hx rfl (hb hby own_p10_d22) rfl  k) ?_
        refine ownStep (fun _ k => XS.iconst X0.here hx rfl (hb hby own_p10_d23) k) ?_
        show ownGo p.tables e below (s₁.setTop (mkF m 24 #[.val (.int kk)] [(.int (3 : Int32)), (.int kk)])) _
        by_cases hc24 : kk = (3 : Int32)
        · skip
          refine ownStep (fun _ k => XS.icmpNo X0.here hx rfl (hb hby own_p10_d24) rfl (teq (hc24 : kk = (3 : Int32))).2 k) ?_
          refine ownStep (fun _ k => XS.sipush X0.here hx rfl (hb hby own_p10_d27) k) ?_
          show ownGo p.tables e below (s₁.setTop (mkF m 30 #[.val (.int kk)] [(.int (1000 : Int32))])) _
          exact ownRet X0 (v := some (.int (1000 : Int32))) Bd.notSynchronized (fun h => by rw [Bd.returns] at h; cases h) (fun _ hr => retI X0 hx Bd.returns (hb hby own_p10_d30) hr) (by rw [e0]; exact ⟨(by simp [own_pow, hc1, hc8, hc16, hc24]), N0, rfl⟩) (by decide) (by decide)
        · skip
          refine ownStep (fun _ k => XS.icmpYes X0.here hx rfl (pc0 := 24) (pc' := 31) rfl (hb hby own_p10_d24) rfl (feq (hc24 : ¬ kk = (3 : Int32))).2 (by decide) (by decide) k) ?_
          refine ownStep (fun _ k => XS.iloadN X0.here hx rfl (hb hby own_p10_d31) rfl  k) ?_
          refine ownStep (fun _ k => XS.iconst X0.here hx rfl (hb hby own_p10_d32) k) ?_
          show ownGo p.tables e below (s₁.setTop (mkF m 33 #[.val (.int kk)] [(.int (4 : Int32)), (.int kk)])) _
          by_cases hc33 : kk = (4 : Int32)
          · skip
            refine ownStep (fun _ k => XS.icmpNo X0.here hx rfl (hb hby own_p10_d33) rfl (teq (hc33 : kk = (4 : Int32))).2 k) ?_
            refine ownStep (fun _ k => XS.sipush X0.here hx rfl (hb hby own_p10_d36) k) ?_
            show ownGo p.tables e below (s₁.setTop (mkF m 39 #[.val (.int kk)] [(.int (10000 : Int32))])) _
            exact ownRet X0 (v := some (.int (10000 : Int32))) Bd.notSynchronized (fun h => by rw [Bd.returns] at h; cases h) (fun _ hr => retI X0 hx Bd.returns (hb hby own_p10_d39) hr) (by rw [e0]; exact ⟨(by simp [own_pow, hc1, hc8, hc16, hc24, hc33]), N0, rfl⟩) (by decide) (by decide)
          · skip
            refine ownStep (fun _ k => XS.icmpYes X0.here hx rfl (pc0 := 33) (pc' := 40) rfl (hb hby own_p10_d33) rfl (feq (hc33 : ¬ kk = (4 : Int32))).2 (by decide) (by decide) k) ?_
            refine ownStep (fun _ k => XS.iloadN X0.here hx rfl (hb hby own_p10_d40) rfl  k) ?_
            refine ownStep (fun _ k => XS.iconst X0.here hx rfl (hb hby own_p10_d41) k) ?_
            show ownGo p.tables e below (s₁.setTop (mkF m 42 #[.val (.int kk)] [(.int (5 : Int32)), (.int kk)])) _
            by_cases hc42 : kk = (5 : Int32)
            · skip
              refine ownStep (fun _ k => XS.icmpNo X0.here hx rfl (hb hby own_p10_d42) rfl (teq (hc42 : kk = (5 : Int32))).2 k) ?_
              show ownGo p.tables e below (s₁.setTop (mkF m 45 #[.val (.int kk)] [])) _
              refine ownStep (X0.ldcInt hx hown (mvT hZ (hw _ (List.mem_of_getElem? (i := 10) rfl))) (g := (mkF m 45 #[.val (.int kk)] [])) rfl (hb hby own_p10_d45)) ?_
              show ownGo p.tables e below (s₁.setTop (mkF m 47 #[.val (.int kk)] [(.int (100000 : Int32))])) _
              exact ownRet X0 (v := some (.int (100000 : Int32))) Bd.notSynchronized (fun h => by rw [Bd.returns] at h; cases h) (fun _ hr => retI X0 hx Bd.returns (hb hby own_p10_d47) hr) (by rw [e0]; exact ⟨(by simp [own_pow, hc1, hc8, hc16, hc24, hc33, hc42]), N0, rfl⟩) (by decide) (by decide)
            · skip
              refine ownStep (fun _ k => XS.icmpYes X0.here hx rfl (pc0 := 42) (pc' := 48) rfl (hb hby own_p10_d42) rfl (feq (hc42 : ¬ kk = (5 : Int32))).2 (by decide) (by decide) k) ?_
              refine ownStep (fun _ k => XS.iloadN X0.here hx rfl (hb hby own_p10_d48) rfl  k) ?_
              refine ownStep (fun _ k => XS.bipush X0.here hx rfl (hb hby own_p10_d49) k) ?_
              show ownGo p.tables e below (s₁.setTop (mkF m 51 #[.val (.int kk)] [(.int (6 : Int32)), (.int kk)])) _
              by_cases hc51 : kk = (6 : Int32)
              · skip
                refine ownStep (fun _ k => XS.icmpNo X0.here hx rfl (hb hby own_p10_d51) rfl (teq (hc51 : kk = (6 : Int32))).2 k) ?_
                show ownGo p.tables e below (s₁.setTop (mkF m 54 #[.val (.int kk)] [])) _
                refine ownStep (X0.ldcInt hx hown (mvT hZ (hw _ (List.mem_of_getElem? (i := 73) rfl))) (g := (mkF m 54 #[.val (.int kk)] [])) rfl (hb hby own_p10_d54)) ?_
                show ownGo p.tables e below (s₁.setTop (mkF m 56 #[.val (.int kk)] [(.int (1000000 : Int32))])) _
                exact ownRet X0 (v := some (.int (1000000 : Int32))) Bd.notSynchronized (fun h => by rw [Bd.returns] at h; cases h) (fun _ hr => retI X0 hx Bd.returns (hb hby own_p10_d56) hr) (by rw [e0]; exact ⟨(by simp [own_pow, hc1, hc8, hc16, hc24, hc33, hc42, hc51]), N0, rfl⟩) (by decide) (by decide)
              · skip
                refine ownStep (fun _ k => XS.icmpYes X0.here hx rfl (pc0 := 51) (pc' := 57) rfl (hb hby own_p10_d51) rfl (feq (hc51 : ¬ kk = (6 : Int32))).2 (by decide) (by decide) k) ?_
                refine ownStep (fun _ k => XS.iloadN X0.here hx rfl (hb hby own_p10_d57) rfl  k) ?_
                refine ownStep (fun _ k => XS.bipush X0.here hx rfl (hb hby own_p10_d58) k) ?_
                show ownGo p.tables e below (s₁.setTop (mkF m 60 #[.val (.int kk)] [(.int (7 : Int32)), (.int kk)])) _
                by_cases hc60 : kk = (7 : Int32)
                · skip
                  refine ownStep (fun _ k => XS.icmpNo X0.here hx rfl (hb hby own_p10_d60) rfl (teq (hc60 : kk = (7 : Int32))).2 k) ?_
                  show ownGo p.tables e below (s₁.setTop (mkF m 63 #[.val (.int kk)] [])) _
                  refine ownStep (X0.ldcInt hx hown (mvT hZ (hw _ (List.mem_of_getElem? (i := 72) rfl))) (g := (mkF m 63 #[.val (.int kk)] [])) rfl (hb hby own_p10_d63)) ?_
                  show ownGo p.tables e below (s₁.setTop (mkF m 65 #[.val (.int kk)] [(.int (10000000 : Int32))])) _
                  exact ownRet X0 (v := some (.int (10000000 : Int32))) Bd.notSynchronized (fun h => by rw [Bd.returns] at h; cases h) (fun _ hr => retI X0 hx Bd.returns (hb hby own_p10_d65) hr) (by rw [e0]; exact ⟨(by simp [own_pow, hc1, hc8, hc16, hc24, hc33, hc42, hc51, hc60]), N0, rfl⟩) (by decide) (by decide)
                · skip
                  refine ownStep (fun _ k => XS.icmpYes X0.here hx rfl (pc0 := 60) (pc' := 66) rfl (hb hby own_p10_d60) rfl (feq (hc60 : ¬ kk = (7 : Int32))).2 (by decide) (by decide) k) ?_
                  refine ownStep (fun _ k => XS.iloadN X0.here hx rfl (hb hby own_p10_d66) rfl  k) ?_
                  refine ownStep (fun _ k => XS.bipush X0.here hx rfl (hb hby own_p10_d67) k) ?_
                  show ownGo p.tables e below (s₁.setTop (mkF m 69 #[.val (.int kk)] [(.int (8 : Int32)), (.int kk)])) _
                  by_cases hc69 : kk = (8 : Int32)
                  · skip
                    refine ownStep (fun _ k => XS.icmpNo X0.here hx rfl (hb hby own_p10_d69) rfl (teq (hc69 : kk = (8 : Int32))).2 k) ?_
                    show ownGo p.tables e below (s₁.setTop (mkF m 72 #[.val (.int kk)] [])) _
                    refine ownStep (X0.ldcInt hx hown (mvT hZ (hw _ (List.mem_of_getElem? (i := 74) rfl))) (g := (mkF m 72 #[.val (.int kk)] [])) rfl (hb hby own_p10_d72)) ?_
                    show ownGo p.tables e below (s₁.setTop (mkF m 74 #[.val (.int kk)] [(.int (100000000 : Int32))])) _
                    exact ownRet X0 (v := some (.int (100000000 : Int32))) Bd.notSynchronized (fun h => by rw [Bd.returns] at h; cases h) (fun _ hr => retI X0 hx Bd.returns (hb hby own_p10_d74) hr) (by rw [e0]; exact ⟨(by simp [own_pow, hc1, hc8, hc16, hc24, hc33, hc42, hc51, hc60, hc69]), N0, rfl⟩) (by decide) (by decide)
                  · skip
                    refine ownStep (fun _ k => XS.icmpYes X0.here hx rfl (pc0 := 69) (pc' := 75) rfl (hb hby own_p10_d69) rfl (feq (hc69 : ¬ kk = (8 : Int32))).2 (by decide) (by decide) k) ?_
                    show ownGo p.tables e below (s₁.setTop (mkF m 75 #[.val (.int kk)] [])) _
                    refine ownStep (X0.ldcInt hx hown (mvT hZ (hw _ (List.mem_of_getElem? (i := 1) rfl))) (g := (mkF m 75 #[.val (.int kk)] [])) rfl (hb hby own_p10_d75)) ?_
                    show ownGo p.tables e below (s₁.setTop (mkF m 77 #[.val (.int kk)] [(.int (1000000000 : Int32))])) _
                    exact ownRet X0 (v := some (.int (1000000000 : Int32))) Bd.notSynchronized (fun h => by rw [Bd.returns] at h; cases h) (fun _ hr => retI X0 hx Bd.returns (hb hby own_p10_d77) hr) (by rw [e0]; exact ⟨(by simp [own_pow, hc1, hc8, hc16, hc24, hc33, hc42, hc51, hc60, hc69]), N0, rfl⟩) (by decide) (by decide)
  · skip
    refine ownStep (fun _ k => XS.ifNo X0.here hx rfl (hb hby own_p10_d1) rfl ((if0 _ _).trans (flt (hc1 : ¬ (0 : Int32) < kk)).2.2.1) k) ?_
    refine ownStep (fun _ k => XS.iconst X0.here hx rfl (hb hby own_p10_d4) k) ?_
    show ownGo p.tables e below (s₁.setTop (mkF m 5 #[.val (.int kk)] [(.int (1 : Int32))])) _
    exact ownRet X0 (v := some (.int (1 : Int32))) Bd.notSynchronized (fun h => by rw [Bd.returns] at h; cases h) (fun _ hr => retI X0 hx Bd.returns (hb hby own_p10_d5) hr) (by rw [e0]; exact ⟨(by simp [own_pow, hc1]), N0, rfl⟩) (by decide) (by decide)
theorem own_ch_d0 : decode method_3_code 0 = .ok (.iload_n 1, 1) := by decide +kernel
theorem own_ch_d1 : decode method_3_code 1 = .ok (.iload_n 2, 1) := by decide +kernel
theorem own_ch_d2 : decode method_3_code 2 = .ok (.if_icmp .lt 8, 3) := by decide +kernel
theorem own_ch_d5 : decode method_3_code 5 = .ok (.iload_n 1, 1) := by decide +kernel
theorem own_ch_d6 : decode method_3_code 6 = .ok (.iload_n 3, 1) := by decide +kernel
theorem own_ch_d7 : decode method_3_code 7 = .ok (.if_icmp .lt 6, 3) := by decide +kernel
theorem own_ch_d10 : decode method_3_code 10 = .ok (.iload 4, 2) := by decide +kernel
theorem own_ch_d12 : decode method_3_code 12 = .ok (.ireturn, 1) := by decide +kernel
theorem own_ch_d13 : decode method_3_code 13 = .ok (.bipush 48, 2) := by decide +kernel
theorem own_ch_d15 : decode method_3_code 15 = .ok (.iload_n 0, 1) := by decide +kernel
theorem own_ch_d16 : decode method_3_code 16 = .ok (.bipush 8, 2) := by decide +kernel
theorem own_ch_d18 : decode method_3_code 18 = .ok (.iload_n 1, 1) := by decide +kernel
theorem own_ch_d19 : decode method_3_code 19 = .ok (.isub, 1) := by decide +kernel
theorem own_ch_d20 : decode method_3_code 20 = .ok (.invokestatic 20, 3) := by decide +kernel
theorem own_ch_d23 : decode method_3_code 23 = .ok (.idiv, 1) := by decide +kernel
theorem own_ch_d24 : decode method_3_code 24 = .ok (.bipush 10, 2) := by decide +kernel
theorem own_ch_d26 : decode method_3_code 26 = .ok (.irem, 1) := by decide +kernel
theorem own_ch_d27 : decode method_3_code 27 = .ok (.iadd, 1) := by decide +kernel
theorem own_ch_d28 : decode method_3_code 28 = .ok (.i2c, 1) := by decide +kernel
theorem own_ch_d29 : decode method_3_code 29 = .ok (.ireturn, 1) := by decide +kernel
theorem own_ch_pn : plainName "com/example/fixd/fixd/nmea/FieldsDigitsPinLaw" = true := by first | (simp [plainName, overriddenIn]; done) | decide +kernel
theorem own_ch_pd0 : parseMethodDescriptor "(I)I" = some ⟨[.int], some .int⟩ := by decide +kernel
theorem own_ch_ef (m : MethodId) (x0 : Int32) (x1 : Int32) (x2 : Int32) (x3 : Int32) (x4 : Int32) : entryFrame m #[(.int x0), (.int x1), (.int x2), (.int x3), (.int x4)] 5 = mkF m 0 #[.val (.int x0), .val (.int x1), .val (.int x2), .val (.int x3), .val (.int x4)] [] := by first | (simp [entryFrame, mkF, argsToLocals, Value.category]; done) | rfl
def own_ch_Q (Z : State) (vv : Int32) (ii : Int32) (sa : Int32) (en : Int32) (oo : Int32) (h0 : Heap) (n0 : Nat) (vv_ : Option Value) (hh_ : Heap) (LL_ : List Loc) : Prop := ∃ r : Int32, vv_ = some (.int r) ∧ Fr n0 LL_ ∧ hh_ = h0 ∧ (¬ r < (0 : Int32)) ∧ (¬ (255 : Int32) < r) ∧ ((¬ ii < sa → ii < en → r = (48 : Int32) + (vv / own_pow ((8 : Int32) - ii)) % (10 : Int32)))
set_option maxRecDepth 65536 in
set_option maxHeartbeats 40000000 in
theorem own_ch (l : Launch) (Z : State) (a0 : Array Value) (hw : ∀ d ∈ tables_1, d.before a0 Z = true) (ws : List Jvm.Cond) (vv : Int32) (ii : Int32) (sa : Int32) (en : Int32) (oo : Int32) (h0 : Heap) (n0 : Nat) (Z0 : n0 ≤ h0.size) (lv : ¬ vv < (0 : Int32)) (l_oo : ¬ oo < (0 : Int32)) (u_oo : ¬ (255 : Int32) < oo) :
    MetFree l (⟨"com/example/fixd/fixd/nmea/FieldsDigitsPinLaw", "ch", "(IIIIC)C"⟩ : MethodName) (head1 (Jvm.Cond.code (⟨"com/example/fixd/fixd/nmea/FieldsDigitsPinLaw", "ch", "(IIIIC)C"⟩ : MethodName) method_3_code 5 (some .char) :: ws) ({ frames := 1, cells := 0, slots := 0, locals := 14 } : Room)) (fun aa_ UU_ => aa_ = #[(.int vv), (.int ii), (.int sa), (.int en), (.int oo)] ∧ Z.Warmed39 UU_.vm ∧ UU_.heap = h0) (fun _ _ _ _ _ => True) (fun _ UU_ oo_ UV_ => ∃ vv_ LL_, oo_ = .returned vv_ ∧ own_ch_Q Z vv ii sa en oo h0 n0 vv_ UV_.heap LL_ ∧ FrameEnd UU_ oo_ UV_ LL_ ({ frames := 1, cells := 0, slots := 0, locals := 14 } : Room).cells ({ frames := 1, cells := 0, slots := 0, locals := 14 } : Room).slots) := by
  refine MetFree.of_bodySF (plainFor_of_name own_ch_pn) hisR ?_
  intro p e s m args below meth c s₁ Bd hml0 hP hK
  obtain ⟨rfl, hZ, hh⟩ := hP
  have hx := Bd.exec
  have hby := Bd.bytes
  have hml : c.maxLocals = 5 := hml0
  have hown : s.vm.findClass "com/example/fixd/fixd/nmea/FieldsDigitsPinLaw" = some m.cls := findClass_of_methodNamed Bd.named
  have hnm := (name_of_methodNamed Bd.named Bd.method).1
  have X0 : Stand p l e ({ frames := 1, cells := 0, slots := 0, locals := 14 } : Room) s m #[(.int vv), (.int ii), (.int sa), (.int en), (.int oo)] below meth c s₁ [] 0 0 := Stand.of_body Bd
  have e0 : s₁.heap = h0 := by rw [← hh, Bd.state]; rfl
  have N0 := Fr.nil n0
  have KP0 : Keep h0 h0 [] := Keep.refl _ _
  refine ownFin (Q := own_ch_Q Z vv ii sa en oo h0 n0) ?_
  refine ownStep (fun _ k => castTop (own_ch_ef m vv ii sa en oo) k) ?_
  show ownGo p.tables e below (s₁.setTop (mkF m 0 #[.val (.int vv), .val (.int ii), .val (.int sa), .val (.int en), .val (.int oo)] [])) _
  refine ownStep (fun _ k => XS.iloadN X0.here hx rfl (hb hby own_ch_d0) rfl  k) ?_
  refine ownStep (fun _ k => XS.iloadN X0.here hx rfl (hb hby own_ch_d1) rfl  k) ?_
  show ownGo p.tables e below (s₁.setTop (mkF m 2 #[.val (.int vv), .val (.int ii), .val (.int sa), .val (.int en), .val (.int oo)] [(.int sa), (.int ii)])) _
  by_cases hc2 : ii < sa
  · skip
    refine ownStep (fun _ k => XS.icmpYes X0.here hx rfl (pc0 := 2) (pc' := 10) rfl (hb hby own_ch_d2) rfl (tlt (hc2 : ii < sa)).1 (by decide) (by decide) k) ?_
    refine ownStep (fun _ k => XS.iload X0.here hx rfl (hb hby own_ch_d10) rfl  k) ?_
    show ownGo p.tables e below (s₁.setTop (mkF m 12 #[.val (.int vv), .val (.int ii), .val (.int sa), .val (.int en), .val (.int oo)] [(.int oo)])) _
    exact ownRet X0 (v := some (.int (nar .char oo))) Bd.notSynchronized (fun h => by rw [Bd.returns] at h; cases h) (fun _ hr => retN X0 hx (t := .char) Bd.returns (by simp) (hb hby own_ch_d12) hr) (by rw [e0]; exact ⟨oo, (by rw [show nar .char oo = oo from own_nc l_oo u_oo]), N0, rfl, l_oo, u_oo, (fun q _ => absurd hc2 q)⟩) (by decide) (by decide)
  · skip
    refine ownStep (fun _ k => XS.icmpNo X0.here hx rfl (hb hby own_ch_d2) rfl (flt (hc2 : ¬ ii < sa)).1 k) ?_
    refine ownStep (fun _ k => XS.iloadN X0.here hx rfl (hb hby own_ch_d5) rfl  k) ?_
    refine ownStep (fun _ k => XS.iloadN X0.here hx rfl (hb hby own_ch_d6) rfl  k) ?_
    show ownGo p.tables e below (s₁.setTop (mkF m 7 #[.val (.int vv), .val (.int ii), .val (.int sa), .val (.int en), .val (.int oo)] [(.int en), (.int ii)])) _
    by_cases hc7 : ii < en
    · skip
      refine ownStep (fun _ k => XS.icmpYes X0.here hx rfl (pc0 := 7) (pc' := 13) rfl (hb hby own_ch_d7) rfl (tlt (hc7 : ii < en)).1 (by decide) (by decide) k) ?_
      refine ownStep (fun _ k => XS.bipush X0.here hx rfl (hb hby own_ch_d13) k) ?_
      refine ownStep (fun _ k => XS.iloadN X0.here hx rfl (hb hby own_ch_d15) rfl  k) ?_
      refine ownStep (fun _ k => XS.bipush X0.here hx rfl (hb hby own_ch_d16) k) ?_
      refine ownStep (fun _ k => XS.iloadN X0.here hx rfl (hb hby own_ch_d18) rfl  k) ?_
      show ownGo p.tables e below (s₁.setTop (mkF m 19 #[.val (.int vv), .val (.int ii), .val (.int sa), .val (.int en), .val (.int oo)] [(.int ii), (.int (8 : Int32)), (.int vv), (.int (48 : Int32))])) _
      refine ownStep (fun _ k => XS.isub X0.here hx rfl (hb hby own_ch_d19) rfl k) ?_
      show ownGo p.tables e below (s₁.setTop (mkF m 20 #[.val (.int vv), .val (.int ii), .val (.int sa), .val (.int en), .val (.int oo)] [(.int ((8 : Int32) - ii)), (.int vv), (.int (48 : Int32))])) _
      have Zs2 : n0 ≤ h0.size := Nat.le_trans Z0 KP0.1
      obtain ⟨_, _, ⟨T1, L1, k1, n1⟩, -, X1, ⟨Lc1, hQ1, l1, y1, z1⟩, st1⟩ := Jvm.LawKit.callS X0 hx (y := (⟨"com/example/fixd/fixd/nmea/FieldsDigitsPinLaw", "pow10", "(I)I"⟩ : MethodName)) hown (mvT hZ (hw _ (List.mem_of_getElem? (i := 7) rfl))) (mvT hZ (hw _ (List.mem_of_getElem? (i := 8) rfl))) (mvT hZ (hw _ (List.mem_of_getElem? (i := 5) rfl))) (mvT hZ (hw _ (List.mem_of_getElem? (i := 9) rfl))) (by decide) (backOf (W := 2) (own_p10 l Z a0 hw [] ((8 : Int32) - ii) h0 n0 Zs2 ) hZ (hw _ (List.mem_of_getElem? (i := 9) rfl)) (hw _ (List.mem_of_getElem? (i := 5) rfl)) (by decide) (by decide)) (g := (mkF m 20 #[.val (.int vv), .val (.int ii), .val (.int sa), .val (.int en), .val (.int oo)] [(.int ((8 : Int32) - ii)), (.int vv), (.int (48 : Int32))])) rfl (by rw [hml]; rfl) (argsL := [(.int ((8 : Int32) - ii))]) (rest := [(.int vv), (.int (48 : Int32))]) (lenOf own_ch_pd0 rfl) rfl (by show 2 * 0 + _ ≤ _; exact Nat.le_of_eq rfl) (hb hby own_ch_d20) (fun _ _ => ⟨rfl, e0, (by decide : 0 + 0 ≤ _), (by decide : 0 + 0 ≤ _)⟩)
      dsimp only [Pt.U, Pt.locs, Pt.cells, Pt.slots] at X1 l1 y1 z1 st1 hQ1
      obtain rfl : k1 = 0 := y1
      obtain rfl : n1 = 0 := z1
      obtain ⟨rfl, N1q, R1⟩ := hQ1
      have N1 : Fr n0 L1 := l1 ▸ Fr.app N0 N1q
      refine ownStep (fun _ k => st1 _ k) ?_
      refine ownStep (fun _ k => XS.idiv X1.here hx rfl (hb hby own_ch_d23) rfl (own_pow_ne _) k) ?_
      refine ownStep (fun _ k => XS.bipush X1.here hx rfl (hb hby own_ch_d24) k) ?_
      show ownGo p.tables e below (T1.setTop (mkF m 26 #[.val (.int vv), .val (.int ii), .val (.int sa), .val (.int en), .val (.int oo)] [(.int (10 : Int32)), (.int (vv / (own_pow ((8 : Int32) - ii)))), (.int (48 : Int32))])) _
      refine ownStep (fun _ k => iremM X1 hx rfl (hb hby own_ch_d26) rfl (by decide) k) ?_
      refine ownStep (fun _ k => XS.iadd X1.here hx rfl (hb hby own_ch_d27) rfl k) ?_
      refine ownStep (fun _ k => XS.i2c X1.here hx rfl (hb hby own_ch_d28) rfl k) ?_
      show ownGo p.tables e below (T1.setTop (mkF m 29 #[.val (.int vv), .val (.int ii), .val (.int sa), .val (.int en), .val (.int oo)] [(.int (((48 : Int32) + ((vv / (own_pow ((8 : Int32) - ii))) % (10 : Int32))).toUInt32.toUInt16.toUInt32.toInt32))])) _
      exact ownRet X1 (v := some (.int (nar .char (((48 : Int32) + ((vv / (own_pow ((8 : Int32) - ii))) % (10 : Int32))).toUInt32.toUInt16.toUInt32.toInt32)))) Bd.notSynchronized (fun h => by rw [Bd.returns] at h; cases h) (fun _ hr => retN X1 hx (t := .char) Bd.returns (by simp) (hb hby own_ch_d29) hr) (by rw [R1]; exact ⟨((48 : Int32) + (vv / own_pow ((8 : Int32) - ii)) % (10 : Int32)), (by rw [own_dg2 lv]), N1, rfl, (own_dgb lv).1, (own_dgb lv).2, (fun _ _ => rfl)⟩) (by decide) (by decide)
    · skip
      refine ownStep (fun _ k => XS.icmpNo X0.here hx rfl (hb hby own_ch_d7) rfl (flt (hc7 : ¬ ii < en)).1 k) ?_
      refine ownStep (fun _ k => XS.iload X0.here hx rfl (hb hby own_ch_d10) rfl  k) ?_
      show ownGo p.tables e below (s₁.setTop (mkF m 12 #[.val (.int vv), .val (.int ii), .val (.int sa), .val (.int en), .val (.int oo)] [(.int oo)])) _
      exact ownRet X0 (v := some (.int (nar .char oo))) Bd.notSynchronized (fun h => by rw [Bd.returns] at h; cases h) (fun _ hr => retN X0 hx (t := .char) Bd.returns (by simp) (hb hby own_ch_d12) hr) (by rw [e0]; exact ⟨oo, (by rw [show nar .char oo = oo from own_nc l_oo u_oo]), N0, rfl, l_oo, u_oo, (fun _ q => absurd q hc7)⟩) (by decide) (by decide)
theorem own_isl_d0 : decode jdk_42_method_154_code 0 = .ok (.getstatic 38, 3) := by decide +kernel
theorem own_isl_d3 : decode jdk_42_method_154_code 3 = .ok (.ifCond .eq 14, 3) := by decide +kernel
theorem own_isl_d6 : decode jdk_42_method_154_code 6 = .ok (.aload_n 0, 1) := by decide +kernel
theorem own_isl_d7 : decode jdk_42_method_154_code 7 = .ok (.getfield 15, 3) := by decide +kernel
theorem own_isl_d10 : decode jdk_42_method_154_code 10 = .ok (.ifCond .ne 7, 3) := by decide +kernel
theorem own_isl_d13 : decode jdk_42_method_154_code 13 = .ok (.iconst 1, 1) := by decide +kernel
theorem own_isl_d14 : decode jdk_42_method_154_code 14 = .ok (.goto 4, 3) := by decide +kernel
theorem own_isl_d18 : decode jdk_42_method_154_code 18 = .ok (.ireturn, 1) := by decide +kernel
theorem own_isl_pn : plainName "java/lang/String" = true := by first | (simp [plainName, overriddenIn]; done) | decide +kernel
theorem own_isl_ef (m : MethodId) (x0 : Addr) : entryFrame m #[(.ref x0)] 1 = mkF m 0 #[.val (.ref x0)] [] := by first | (simp [entryFrame, mkF, argsToLocals, Value.category]; done) | rfl
def own_isl_Q (Z : State) (zc : Int32) (a : Addr) (h0 : Heap) (n0 : Nat) (vv_ : Option Value) (hh_ : Heap) (LL_ : List Loc) : Prop := vv_ = some (.int (1 : Int32)) ∧ Fr n0 LL_ ∧ hh_ = h0
set_option maxRecDepth 65536 in
set_option maxHeartbeats 40000000 in
theorem own_isl (l : Launch) (Z : State) (a0 : Array Value) (hw : ∀ d ∈ tables_1, d.before a0 Z = true) (ws : List Jvm.Cond) (zc : Int32) (a : Addr) (h0 : Heap) (n0 : Nat) (Z0 : n0 ≤ h0.size) (hOld : Old Z n0 h0) (Scs : Sta Z Z.heap "java/lang/String" "COMPACT_STRINGS" "Z" (.int zc)) (hzc : ¬ zc = (0 : Int32)) (C : Fld Z h0 a "java/lang/String" "coder" "B" (.int (0 : Int32))) :
    MetFree l (⟨"java/lang/String", "isLatin1", "()Z"⟩ : MethodName) (head1 (Jvm.Cond.code (⟨"java/lang/String", "isLatin1", "()Z"⟩ : MethodName) jdk_42_method_154_code 1 (some .boolean) :: ws) ({ frames := 0, cells := 0, slots := 0, locals := 0 } : Room)) (fun aa_ UU_ => aa_ = #[(.ref a)] ∧ Z.Warmed39 UU_.vm ∧ UU_.heap = h0) (fun _ _ _ _ _ => True) (fun _ UU_ oo_ UV_ => ∃ vv_ LL_, oo_ = .returned vv_ ∧ own_isl_Q Z zc a h0 n0 vv_ UV_.heap LL_ ∧ FrameEnd UU_ oo_ UV_ LL_ ({ frames := 0, cells := 0, slots := 0, locals := 0 } : Room).cells ({ frames := 0, cells := 0, slots := 0, locals := 0 } : Room).slots) := by
  refine MetFree.of_bodySF (plainFor_of_name own_isl_pn) hisR ?_
  intro p e s m args below meth c s₁ Bd hml0 hP hK
  obtain ⟨rfl, hZ, hh⟩ := hP
  have hx := Bd.exec
  have hby := Bd.bytes
  have hml : c.maxLocals = 1 := hml0
  have hown : s.vm.findClass "java/lang/String" = some m.cls := findClass_of_methodNamed Bd.named
  have hnm := (name_of_methodNamed Bd.named Bd.method).1
  have X0 : Stand p l e ({ frames := 0, cells := 0, slots := 0, locals := 0 } : Room) s m #[(.ref a)] below meth c s₁ [] 0 0 := Stand.of_body Bd
  have e0 : s₁.heap = h0 := by rw [← hh, Bd.state]; rfl
  have N0 := Fr.nil n0
  have KP0 : Keep h0 h0 [] := Keep.refl _ _
  refine ownFin (Q := own_isl_Q Z zc a h0 n0) ?_
  refine ownStep (fun _ k => castTop (own_isl_ef m a) k) ?_
  show ownGo p.tables e below (s₁.setTop (mkF m 0 #[.val (.ref a)] [])) _
  have Q1 : Sta Z h0 "java/lang/String" "COMPACT_STRINGS" "Z" (.int zc) := Scs.ext hOld.2
  obtain ⟨T2, X2, e2, st2⟩ := getS2 X0 hx hZ hown (host := "") (Or.inl (hw _ (List.mem_of_getElem? (i := 24) rfl))) Via.refl e0 Q1 (g := (mkF m 0 #[.val (.ref a)] [])) rfl (hb hby own_isl_d0)
  refine ownStep st2 ?_
  refine ownStep (fun _ k => XS.ifNo X2.here hx rfl (hb hby own_isl_d3) rfl ((if0 _ _).trans (feq (hzc : ¬ zc = (0 : Int32))).1) k) ?_
  refine ownStep (fun _ k => XS.aloadN X2.here hx rfl (hb hby own_isl_d6) rfl rfl k) ?_
  show ownGo p.tables e below (T2.setTop (mkF m 7 #[.val (.ref a)] [(.ref a)])) _
  obtain ⟨T3, X3, e3, st3⟩ := getF X2 hx hZ hown (host := "") (Or.inl (hw _ (List.mem_of_getElem? (i := 36) rfl))) Via.refl e2 C (g := (mkF m 7 #[.val (.ref a)] [(.ref a)])) rfl rfl (hb hby own_isl_d7)
  refine ownStep st3 ?_
  refine ownStep (fun _ k => XS.ifNo X3.here hx rfl (hb hby own_isl_d10) rfl ((if0 _ _).trans (teq (by decide : (0 : Int32) = (0 : Int32))).2) k) ?_
  refine ownStep (fun _ k => XS.iconst X3.here hx rfl (hb hby own_isl_d13) k) ?_
  refine ownStep (fun _ k => XS.goto X3.here hx rfl (pc0 := 14) (pc' := 18) rfl (hb hby own_isl_d14) (by decide) (by decide) k) ?_
  show ownGo p.tables e below (T3.setTop (mkF m 18 #[.val (.ref a)] [(.int (1 : Int32))])) _
  exact ownRet X3 (v := some (.int (1 : Int32))) Bd.notSynchronized (fun h => by rw [Bd.returns] at h; cases h) (fun _ hr => retN X3 hx (t := .boolean) Bd.returns (by simp) (hb hby own_isl_d18) hr) (by rw [e3]; exact ⟨rfl, N0, rfl⟩) (by decide) (by decide)
theorem own_pchk_d0 : decode jdk_41_method_11_code 0 = .ok (.iload_n 0, 1) := by decide +kernel
theorem own_pchk_d1 : decode jdk_41_method_11_code 1 = .ok (.ifCond .lt 8, 3) := by decide +kernel
theorem own_pchk_d4 : decode jdk_41_method_11_code 4 = .ok (.iload_n 0, 1) := by decide +kernel
theorem own_pchk_d5 : decode jdk_41_method_11_code 5 = .ok (.iload_n 1, 1) := by decide +kernel
theorem own_pchk_d6 : decode jdk_41_method_11_code 6 = .ok (.if_icmp .lt 10, 3) := by decide +kernel
theorem own_pchk_d16 : decode jdk_41_method_11_code 16 = .ok (.iload_n 0, 1) := by decide +kernel
theorem own_pchk_d17 : decode jdk_41_method_11_code 17 = .ok (.ireturn, 1) := by decide +kernel
theorem own_pchk_pn : plainName "jdk/internal/util/Preconditions" = true := by first | (simp [plainName, overriddenIn]; done) | decide +kernel
theorem own_pchk_ef (m : MethodId) (x0 : Int32) (x1 : Int32) (x2 : Value) (hx2 : x2.isRef = true) : entryFrame m #[(.int x0), (.int x1), x2] 3 = mkF m 0 #[.val (.int x0), .val (.int x1), .val x2] [] := by rcases ref_cases hx2 with rfl | ⟨y2, rfl⟩ <;> first | (simp [entryFrame, mkF, argsToLocals, Value.category]; done) | rfl
def own_pchk_Q (Z : State) (ii : Int32) (fm : Value) (h0 : Heap) (n0 : Nat) (vv_ : Option Value) (hh_ : Heap) (LL_ : List Loc) : Prop := vv_ = some (.int ii) ∧ Fr n0 LL_ ∧ hh_ = h0
set_option maxRecDepth 65536 in
set_option maxHeartbeats 40000000 in
theorem own_pchk (l : Launch) (Z : State) (a0 : Array Value) (hw : ∀ d ∈ tables_1, d.before a0 Z = true) (ws : List Jvm.Cond) (ii : Int32) (fm : Value) (h0 : Heap) (n0 : Nat) (Z0 : n0 ≤ h0.size) (il : ¬ ii < (0 : Int32)) (iu : ii < (9 : Int32)) (hfm : fm.isRef = true) :
    MetFree l (⟨"jdk/internal/util/Preconditions", "checkIndex", "(IILjava/util/function/BiFunction;)I"⟩ : MethodName) (head1 (Jvm.Cond.code (⟨"jdk/internal/util/Preconditions", "checkIndex", "(IILjava/util/function/BiFunction;)I"⟩ : MethodName) jdk_41_method_11_code 3 (some .int) :: ws) ({ frames := 0, cells := 0, slots := 0, locals := 0 } : Room)) (fun aa_ UU_ => aa_ = #[(.int ii), (.int (9 : Int32)), fm] ∧ Z.Warmed39 UU_.vm ∧ UU_.heap = h0) (fun _ _ _ _ _ => True) (fun _ UU_ oo_ UV_ => ∃ vv_ LL_, oo_ = .returned vv_ ∧ own_pchk_Q Z ii fm h0 n0 vv_ UV_.heap LL_ ∧ FrameEnd UU_ oo_ UV_ LL_ ({ frames := 0, cells := 0, slots := 0, locals := 0 } : Room).cells ({ frames := 0, cells := 0, slots := 0, locals := 0 } : Room).slots) := by
  refine MetFree.of_bodySF (plainFor_of_name own_pchk_pn) hisR ?_
  intro p e s m args below meth c s₁ Bd hml0 hP hK
  obtain ⟨rfl, hZ, hh⟩ := hP
  have hx := Bd.exec
  have hby := Bd.bytes
  have hml : c.maxLocals = 3 := hml0
  have hown : s.vm.findClass "jdk/internal/util/Preconditions" = some m.cls := findClass_of_methodNamed Bd.named
  have hnm := (name_of_methodNamed Bd.named Bd.method).1
  have X0 : Stand p l e ({ frames := 0, cells := 0, slots := 0, locals := 0 } : Room) s m #[(.int ii), (.int (9 : Int32)), fm] below meth c s₁ [] 0 0 := Stand.of_body Bd
  have e0 : s₁.heap = h0 := by rw [← hh, Bd.state]; rfl
  have N0 := Fr.nil n0
  have KP0 : Keep h0 h0 [] := Keep.refl _ _
  refine ownFin (Q := own_pchk_Q Z ii fm h0 n0) ?_
  refine ownStep (fun _ k => castTop (own_pchk_ef m ii (9 : Int32) fm hfm) k) ?_
  show ownGo p.tables e below (s₁.setTop (mkF m 0 #[.val (.int ii), .val (.int (9 : Int32)), .val fm] [])) _
  refine ownStep (fun _ k => XS.iloadN X0.here hx rfl (hb hby own_pchk_d0) rfl  k) ?_
  refine ownStep (fun _ k => XS.ifNo X0.here hx rfl (hb hby own_pchk_d1) rfl ((if0 _ _).trans (flt (il : ¬ ii < (0 : Int32))).1) k) ?_
  refine ownStep (fun _ k => XS.iloadN X0.here hx rfl (hb hby own_pchk_d4) rfl  k) ?_
  refine ownStep (fun _ k => XS.iloadN X0.here hx rfl (hb hby own_pchk_d5) rfl  k) ?_
  refine ownStep (fun _ k => XS.icmpYes X0.here hx rfl (pc0 := 6) (pc' := 16) rfl (hb hby own_pchk_d6) rfl (tlt (iu : ii < (9 : Int32))).1 (by decide) (by decide) k) ?_
  show ownGo p.tables e below (s₁.setTop (mkF m 16 #[.val (.int ii), .val (.int (9 : Int32)), .val fm] [])) _
  refine ownStep (fun _ k => XS.iloadN X0.here hx rfl (hb hby own_pchk_d16) rfl  k) ?_
  show ownGo p.tables e below (s₁.setTop (mkF m 17 #[.val (.int ii), .val (.int (9 : Int32)), .val fm] [(.int ii)])) _
  exact ownRet X0 (v := some (.int ii)) Bd.notSynchronized (fun h => by rw [Bd.returns] at h; cases h) (fun _ hr => retI X0 hx Bd.returns (hb hby own_pchk_d17) hr) (by rw [e0]; exact ⟨rfl, N0, rfl⟩) (by decide) (by decide)
theorem own_schk_d0 : decode jdk_42_method_155_code 0 = .ok (.iload_n 0, 1) := by decide +kernel
theorem own_schk_d1 : decode jdk_42_method_155_code 1 = .ok (.iload_n 1, 1) := by decide +kernel
theorem own_schk_d2 : decode jdk_42_method_155_code 2 = .ok (.getstatic 1053, 3) := by decide +kernel
theorem own_schk_d5 : decode jdk_42_method_155_code 5 = .ok (.invokestatic 1059, 3) := by decide +kernel
theorem own_schk_d8 : decode jdk_42_method_155_code 8 = .ok (.pop, 1) := by decide +kernel
theorem own_schk_d9 : decode jdk_42_method_155_code 9 = .ok (.return_, 1) := by decide +kernel
theorem own_schk_pn : plainName "java/lang/String" = true := by first | (simp [plainName, overriddenIn]; done) | decide +kernel
theorem own_schk_pd0 : parseMethodDescriptor "(IILjava/util/function/BiFunction;)I" = some ⟨[.int, .int, (.object "java/util/function/BiFunction")], some .int⟩ := by decide +kernel
theorem own_schk_ef (m : MethodId) (x0 : Int32) (x1 : Int32) : entryFrame m #[(.int x0), (.int x1)] 2 = mkF m 0 #[.val (.int x0), .val (.int x1)] [] := by first | (simp [entryFrame, mkF, argsToLocals, Value.category]; done) | rfl
def own_schk_Q (Z : State) (ii : Int32) (fm : Value) (h0 : Heap) (n0 : Nat) (vv_ : Option Value) (hh_ : Heap) (LL_ : List Loc) : Prop := vv_ = none ∧ Fr n0 LL_ ∧ hh_ = h0
set_option maxRecDepth 65536 in
set_option maxHeartbeats 40000000 in
theorem own_schk (l : Launch) (Z : State) (a0 : Array Value) (hw : ∀ d ∈ tables_1, d.before a0 Z = true) (ws : List Jvm.Cond) (ii : Int32) (fm : Value) (h0 : Heap) (n0 : Nat) (Z0 : n0 ≤ h0.size) (hOld : Old Z n0 h0) (Sfm : Sta Z Z.heap "jdk/internal/util/Preconditions" "SIOOBE_FORMATTER" "Ljava/util/function/BiFunction;" fm) (hfm : fm.isRef = true) (il : ¬ ii < (0 : Int32)) (iu : ii < (9 : Int32)) :
    MetFree l (⟨"java/lang/String", "checkIndex", "(II)V"⟩ : MethodName) (head1 (Jvm.Cond.code (⟨"java/lang/String", "checkIndex", "(II)V"⟩ : MethodName) jdk_42_method_155_code 2 none :: ws) ({ frames := 1, cells := 0, slots := 0, locals := 14 } : Room)) (fun aa_ UU_ => aa_ = #[(.int ii), (.int (9 : Int32))] ∧ Z.Warmed39 UU_.vm ∧ UU_.heap = h0) (fun _ _ _ _ _ => True) (fun _ UU_ oo_ UV_ => ∃ vv_ LL_, oo_ = .returned vv_ ∧ own_schk_Q Z ii fm h0 n0 vv_ UV_.heap LL_ ∧ FrameEnd UU_ oo_ UV_ LL_ ({ frames := 1, cells := 0, slots := 0, locals := 14 } : Room).cells ({ frames := 1, cells := 0, slots := 0, locals := 14 } : Room).slots) := by
  refine MetFree.of_bodySF (plainFor_of_name own_schk_pn) hisR ?_
  intro p e s m args below meth c s₁ Bd hml0 hP hK
  obtain ⟨rfl, hZ, hh⟩ := hP
  have hx := Bd.exec
  have hby := Bd.bytes
  have hml : c.maxLocals = 2 := hml0
  have hown : s.vm.findClass "java/lang/String" = some m.cls := findClass_of_methodNamed Bd.named
  have hnm := (name_of_methodNamed Bd.named Bd.method).1
  have X0 : Stand p l e ({ frames := 1, cells := 0, slots := 0, locals := 14 } : Room) s m #[(.int ii), (.int (9 : Int32))] below meth c s₁ [] 0 0 := Stand.of_body Bd
  have e0 : s₁.heap = h0 := by rw [← hh, Bd.state]; rfl
  have N0 := Fr.nil n0
  have KP0 : Keep h0 h0 [] := Keep.refl _ _
  refine ownFin (Q := own_schk_Q Z ii fm h0 n0) ?_
  refine ownStep (fun _ k => castTop (own_schk_ef m ii (9 : Int32)) k) ?_
  show ownGo p.tables e below (s₁.setTop (mkF m 0 #[.val (.int ii), .val (.int (9 : Int32))] [])) _
  refine ownStep (fun _ k => XS.iloadN X0.here hx rfl (hb hby own_schk_d0) rfl  k) ?_
  refine ownStep (fun _ k => XS.iloadN X0.here hx rfl (hb hby own_schk_d1) rfl  k) ?_
  show ownGo p.tables e below (s₁.setTop (mkF m 2 #[.val (.int ii), .val (.int (9 : Int32))] [(.int (9 : Int32)), (.int ii)])) _
  have Q1 : Sta Z h0 "jdk/internal/util/Preconditions" "SIOOBE_FORMATTER" "Ljava/util/function/BiFunction;" fm := Sfm.ext hOld.2
  obtain ⟨T2, X2, e2, st2⟩ := getS2 X0 hx hZ hown (host := "") (Or.inl (hw _ (List.mem_of_getElem? (i := 67) rfl))) Via.refl e0 Q1 (g := (mkF m 2 #[.val (.int ii), .val (.int (9 : Int32))] [(.int (9 : Int32)), (.int ii)])) rfl (hb hby own_schk_d2)
  refine ownStep st2 ?_
  show ownGo p.tables e below (T2.setTop (mkF m 5 #[.val (.int ii), .val (.int (9 : Int32))] [fm, (.int (9 : Int32)), (.int ii)])) _
  have Zs4 : n0 ≤ h0.size := Nat.le_trans Z0 KP0.1
  obtain ⟨_, _, ⟨T3, L3, k3, n3⟩, -, X3, ⟨Lc3, hQ3, l3, y3, z3⟩, st3⟩ := Jvm.LawKit.callS X2 hx (y := (⟨"jdk/internal/util/Preconditions", "checkIndex", "(IILjava/util/function/BiFunction;)I"⟩ : MethodName)) hown (mvT hZ (hw _ (List.mem_of_getElem? (i := 69) rfl))) (mvT hZ (hw _ (List.mem_of_getElem? (i := 70) rfl))) (mvT hZ (hw _ (List.mem_of_getElem? (i := 68) rfl))) (mvT hZ (hw _ (List.mem_of_getElem? (i := 71) rfl))) (by decide) (backOf (W := 0) (own_pchk l Z a0 hw [] ii fm h0 n0 Zs4 il iu hfm) hZ (hw _ (List.mem_of_getElem? (i := 71) rfl)) (hw _ (List.mem_of_getElem? (i := 68) rfl)) (by decide) (by decide)) (g := (mkF m 5 #[.val (.int ii), .val (.int (9 : Int32))] [fm, (.int (9 : Int32)), (.int ii)])) rfl (by rw [hml]; rfl) (argsL := [(.int ii), (.int (9 : Int32)), fm]) (rest := []) (lenOf own_schk_pd0 rfl) rfl (by show 2 * 0 + _ ≤ _; exact Nat.le_of_eq rfl) (hb hby own_schk_d5) (fun _ _ => ⟨rfl, e2, (by decide : 0 + 0 ≤ _), (by decide : 0 + 0 ≤ _)⟩)
  dsimp only [Pt.U, Pt.locs, Pt.cells, Pt.slots] at X3 l3 y3 z3 st3 hQ3
  obtain rfl : k3 = 0 := y3
  obtain rfl : n3 = 0 := z3
  obtain ⟨rfl, N3q, R3⟩ := hQ3
  have N3 : Fr n0 L3 := l3 ▸ Fr.app N0 N3q
  refine ownStep (fun _ k => st3 _ k) ?_
  refine ownStep (fun _ k => XS.pop X3.here hx rfl (hb hby own_schk_d8) rfl rfl k) ?_
  show ownGo p.tables e below (T3.setTop (mkF m 9 #[.val (.int ii), .val (.int (9 : Int32))] [])) _
  exact ownRet X3 (v := none) Bd.notSynchronized (fun _ => rfl) (fun _ hr => X3.returnOut hx Bd.returns (hb hby own_schk_d9) hr) (by rw [R3]; exact ⟨rfl, N3, rfl⟩) (by decide) (by decide)
theorem own_lca_d0 : decode jdk_43_method_2_code 0 = .ok (.iload_n 1, 1) := by decide +kernel
theorem own_lca_d1 : decode jdk_43_method_2_code 1 = .ok (.aload_n 0, 1) := by decide +kernel
theorem own_lca_d2 : decode jdk_43_method_2_code 2 = .ok (.arraylength, 1) := by decide +kernel
theorem own_lca_d3 : decode jdk_43_method_2_code 3 = .ok (.invokestatic 9, 3) := by decide +kernel
theorem own_lca_d6 : decode jdk_43_method_2_code 6 = .ok (.aload_n 0, 1) := by decide +kernel
theorem own_lca_d7 : decode jdk_43_method_2_code 7 = .ok (.iload_n 1, 1) := by decide +kernel
theorem own_lca_d8 : decode jdk_43_method_2_code 8 = .ok (.baload, 1) := by decide +kernel
theorem own_lca_d9 : decode jdk_43_method_2_code 9 = .ok (.sipush 255, 3) := by decide +kernel
theorem own_lca_d12 : decode jdk_43_method_2_code 12 = .ok (.iand, 1) := by decide +kernel
theorem own_lca_d13 : decode jdk_43_method_2_code 13 = .ok (.i2c, 1) := by decide +kernel
theorem own_lca_d14 : decode jdk_43_method_2_code 14 = .ok (.ireturn, 1) := by decide +kernel
theorem own_lca_pn : plainName "java/lang/StringLatin1" = true := by first | (simp [plainName, overriddenIn]; done) | decide +kernel
theorem own_lca_pd0 : parseMethodDescriptor "(II)V" = some ⟨[.int, .int], none⟩ := by decide +kernel
theorem own_lca_ef (m : MethodId) (x0 : Addr) (x1 : Int32) : entryFrame m #[(.ref x0), (.int x1)] 2 = mkF m 0 #[.val (.ref x0), .val (.int x1)] [] := by first | (simp [entryFrame, mkF, argsToLocals, Value.category]; done) | rfl
def own_lca_Q (Z : State) (fm : Value) (tb : Addr) (kb : ClassId) (r0 : Int32) (r1 : Int32) (r2 : Int32) (r3 : Int32) (r4 : Int32) (r5 : Int32) (r6 : Int32) (r7 : Int32) (r8 : Int32) (ii : Int32) (h0 : Heap) (n0 : Nat) (vv_ : Option Value) (hh_ : Heap) (LL_ : List Loc) : Prop := vv_ = some (.int (own_sel9 r0 r1 r2 r3 r4 r5 r6 r7 r8 ii)) ∧ Fr n0 LL_ ∧ hh_ = h0
set_option maxRecDepth 65536 in
set_option maxHeartbeats 40000000 in
theorem own_lca (l : Launch) (Z : State) (a0 : Array Value) (hw : ∀ d ∈ tables_1, d.before a0 Z = true) (ws : List Jvm.Cond) (fm : Value) (tb : Addr) (kb : ClassId) (r0 : Int32) (r1 : Int32) (r2 : Int32) (r3 : Int32) (r4 : Int32) (r5 : Int32) (r6 : Int32) (r7 : Int32) (r8 : Int32) (ii : Int32) (h0 : Heap) (n0 : Nat) (Z0 : n0 ≤ h0.size) (hOld : Old Z n0 h0) (Sfm : Sta Z Z.heap "jdk/internal/util/Preconditions" "SIOOBE_FORMATTER" "Ljava/util/function/BiFunction;" fm) (hfm : fm.isRef = true) (B : Arv Z h0 tb kb .byte (9 : Int32) [(.int r0.toInt8.toInt32), (.int r1.toInt8.toInt32), (.int r2.toInt8.toInt32), (.int r3.toInt8.toInt32), (.int r4.toInt8.toInt32), (.int r5.toInt8.toInt32), (.int r6.toInt8.toInt32), (.int r7.toInt8.toInt32), (.int r8.toInt8.toInt32)] (.int (0 : Int32))) (l_r0 : ¬ r0 < (0 : Int32)) (u_r0 : ¬ (255 : Int32) < r0) (l_r1 : ¬ r1 < (0 : Int32)) (u_r1 : ¬ (255 : Int32) < r1) (l_r2 : ¬ r2 < (0 : Int32)) (u_r2 : ¬ (255 : Int32) < r2) (l_r3 : ¬ r3 < (0 : Int32)) (u_r3 : ¬ (255 : Int32) < r3) (l_r4 : ¬ r4 < (0 : Int32)) (u_r4 : ¬ (255 : Int32) < r4) (l_r5 : ¬ r5 < (0 : Int32)) (u_r5 : ¬ (255 : Int32) < r5) (l_r6 : ¬ r6 < (0 : Int32)) (u_r6 : ¬ (255 : Int32) < r6) (l_r7 : ¬ r7 < (0 : Int32)) (u_r7 : ¬ (255 : Int32) < r7) (l_r8 : ¬ r8 < (0 : Int32)) (u_r8 : ¬ (255 : Int32) < r8) (il : ¬ ii < (0 : Int32)) (iu : ii < (9 : Int32)) :
    MetFree l (⟨"java/lang/StringLatin1", "charAt", "([BI)C"⟩ : MethodName) (head1 (Jvm.Cond.code (⟨"java/lang/StringLatin1", "charAt", "([BI)C"⟩ : MethodName) jdk_43_method_2_code 2 (some .char) :: ws) ({ frames := 2, cells := 0, slots := 0, locals := 27 } : Room)) (fun aa_ UU_ => aa_ = #[(.ref tb), (.int ii)] ∧ Z.Warmed39 UU_.vm ∧ UU_.heap = h0) (fun _ _ _ _ _ => True) (fun _ UU_ oo_ UV_ => ∃ vv_ LL_, oo_ = .returned vv_ ∧ own_lca_Q Z fm tb kb r0 r1 r2 r3 r4 r5 r6 r7 r8 ii h0 n0 vv_ UV_.heap LL_ ∧ FrameEnd UU_ oo_ UV_ LL_ ({ frames := 2, cells := 0, slots := 0, locals := 27 } : Room).cells ({ frames := 2, cells := 0, slots := 0, locals := 27 } : Room).slots) := by
  refine MetFree.of_bodySF (plainFor_of_name own_lca_pn) hisR ?_
  intro p e s m args below meth c s₁ Bd hml0 hP hK
  obtain ⟨rfl, hZ, hh⟩ := hP
  have hx := Bd.exec
  have hby := Bd.bytes
  have hml : c.maxLocals = 2 := hml0
  have hown : s.vm.findClass "java/lang/StringLatin1" = some m.cls := findClass_of_methodNamed Bd.named
  have hnm := (name_of_methodNamed Bd.named Bd.method).1
  have X0 : Stand p l e ({ frames := 2, cells := 0, slots := 0, locals := 27 } : Room) s m #[(.ref tb), (.int ii)] below meth c s₁ [] 0 0 := Stand.of_body Bd
  have e0 : s₁.heap = h0 := by rw [← hh, Bd.state]; rfl
  have N0 := Fr.nil n0
  have KP0 : Keep h0 h0 [] := Keep.refl _ _
  refine ownFin (Q := own_lca_Q Z fm tb kb r0 r1 r2 r3 r4 r5 r6 r7 r8 ii h0 n0) ?_
  refine ownStep (fun _ k => castTop (own_lca_ef m tb ii) k) ?_
  show ownGo p.tables e below (s₁.setTop (mkF m 0 #[.val (.ref tb), .val (.int ii)] [])) _
  refine ownStep (fun _ k => XS.iloadN X0.here hx rfl (hb hby own_lca_d0) rfl  k) ?_
  refine ownStep (fun _ k => XS.aloadN X0.here hx rfl (hb hby own_lca_d1) rfl rfl k) ?_
  show ownGo p.tables e below (s₁.setTop (mkF m 2 #[.val (.ref tb), .val (.int ii)] [(.ref tb), (.int ii)])) _
  have Vo1 := B
  obtain ⟨cl1, Ar1, q1, S1, N1, H1, G1⟩ := Vo1
  refine ownStep (X0.arraylength hx (by rw [e0]; exact Ar1.1) (State.isArrayOf_alike hZ.alike Ar1.2.1) (g := (mkF m 2 #[.val (.ref tb), .val (.int ii)] [(.ref tb), (.int ii)])) rfl rfl (hb hby own_lca_d2)) ?_
  rw [len_of S1 N1]
  show ownGo p.tables e below (s₁.setTop (mkF m 3 #[.val (.ref tb), .val (.int ii)] [(.int (9 : Int32)), (.int ii)])) _
  have Zs3 : n0 ≤ h0.size := Nat.le_trans Z0 KP0.1
  obtain ⟨_, _, ⟨T2, L2, k2, n2⟩, -, X2, ⟨Lc2, hQ2, l2, y2, z2⟩, st2⟩ := Jvm.LawKit.callS X0 hx (y := (⟨"java/lang/String", "checkIndex", "(II)V"⟩ : MethodName)) hown (mvT hZ (hw _ (List.mem_of_getElem? (i := 64) rfl))) (mvT hZ (hw _ (List.mem_of_getElem? (i := 65) rfl))) (mvT hZ (hw _ (List.mem_of_getElem? (i := 13) rfl))) (mvT hZ (hw _ (List.mem_of_getElem? (i := 66) rfl))) (by decide) (backOf (W := 0) (own_schk l Z a0 hw [] ii fm h0 n0 Zs3 hOld Sfm hfm il iu) hZ (hw _ (List.mem_of_getElem? (i := 66) rfl)) (hw _ (List.mem_of_getElem? (i := 13) rfl)) (by decide) (by decide)) (g := (mkF m 3 #[.val (.ref tb), .val (.int ii)] [(.int (9 : Int32)), (.int ii)])) rfl (by rw [hml]; rfl) (argsL := [(.int ii), (.int (9 : Int32))]) (rest := []) (lenOf own_lca_pd0 rfl) rfl (by show 2 * 0 + _ ≤ _; exact Nat.le_of_eq rfl) (hb hby own_lca_d3) (fun _ _ => ⟨rfl, e0, (by decide : 0 + 0 ≤ _), (by decide : 0 + 0 ≤ _)⟩)
  dsimp only [Pt.U, Pt.locs, Pt.cells, Pt.slots] at X2 l2 y2 z2 st2 hQ2
  obtain rfl : k2 = 0 := y2
  obtain rfl : n2 = 0 := z2
  obtain ⟨rfl, N2q, R2⟩ := hQ2
  have N2 : Fr n0 L2 := l2 ▸ Fr.app N0 N2q
  refine ownStep (fun _ k => st2 _ k) ?_
  refine ownStep (fun _ k => XS.aloadN X2.here hx rfl (hb hby own_lca_d6) rfl rfl k) ?_
  refine ownStep (fun _ k => XS.iloadN X2.here hx rfl (hb hby own_lca_d7) rfl  k) ?_
  show ownGo p.tables e below (T2.setTop (mkF m 8 #[.val (.ref tb), .val (.int ii)] [(.int ii), (.ref tb)])) _
  have Vo4 := B
  obtain ⟨cl4, Ar4, q4, S4, N4, H4, G4⟩ := Vo4
  have hin4 : ¬ (ii < 0 ∨ cl4.slots.size ≤ ii.toNatClampNeg) := inb_of S4 ⟨il, iu⟩
  refine ownStep (X2.baloadBytes hx (j := ii) (v := (.int (own_sel9 r0 r1 r2 r3 r4 r5 r6 r7 r8 ii).toInt8.toInt32)) (by rw [R2]; exact Ar4.1) (State.isArrayOf_alike hZ.alike Ar4.2.1) Ar4.2.2 hin4 (H4.at hin4 (own_sel9_at il iu)) (g := (mkF m 8 #[.val (.ref tb), .val (.int ii)] [(.int ii), (.ref tb)])) rfl rfl (hb hby own_lca_d8)) ?_
  refine ownStep (fun _ k => XS.sipush X2.here hx rfl (hb hby own_lca_d9) k) ?_
  refine ownStep (fun _ k => XS.iand X2.here hx rfl (hb hby own_lca_d12) rfl k) ?_
  refine ownStep (fun _ k => XS.i2c X2.here hx rfl (hb hby own_lca_d13) rfl k) ?_
  show ownGo p.tables e below (T2.setTop (mkF m 14 #[.val (.ref tb), .val (.int ii)] [(.int (((own_sel9 r0 r1 r2 r3 r4 r5 r6 r7 r8 ii).toInt8.toInt32 &&& (255 : Int32)).toUInt32.toUInt16.toUInt32.toInt32))])) _
  exact ownRet X2 (v := some (.int (nar .char (((own_sel9 r0 r1 r2 r3 r4 r5 r6 r7 r8 ii).toInt8.toInt32 &&& (255 : Int32)).toUInt32.toUInt16.toUInt32.toInt32)))) Bd.notSynchronized (fun h => by rw [Bd.returns] at h; cases h) (fun _ hr => retN X2 hx (t := .char) Bd.returns (by simp) (hb hby own_lca_d14) hr) (by rw [R2]; exact ⟨(by rw [own_lat (own_sel9_l l_r0 l_r1 l_r2 l_r3 l_r4 l_r5 l_r6 l_r7 l_r8) (own_sel9_u u_r0 u_r1 u_r2 u_r3 u_r4 u_r5 u_r6 u_r7 u_r8)]), N2, rfl⟩) (by decide) (by decide)
theorem own_ca_d0 : decode jdk_42_method_56_code 0 = .ok (.aload_n 0, 1) := by decide +kernel
theorem own_ca_d1 : decode jdk_42_method_56_code 1 = .ok (.invokevirtual 492, 3) := by decide +kernel
theorem own_ca_d4 : decode jdk_42_method_56_code 4 = .ok (.ifCond .eq 12, 3) := by decide +kernel
theorem own_ca_d7 : decode jdk_42_method_56_code 7 = .ok (.aload_n 0, 1) := by decide +kernel
theorem own_ca_d8 : decode jdk_42_method_56_code 8 = .ok (.getfield 9, 3) := by decide +kernel
theorem own_ca_d11 : decode jdk_42_method_56_code 11 = .ok (.iload_n 1, 1) := by decide +kernel
theorem own_ca_d12 : decode jdk_42_method_56_code 12 = .ok (.invokestatic 495, 3) := by decide +kernel
theorem own_ca_d15 : decode jdk_42_method_56_code 15 = .ok (.ireturn, 1) := by decide +kernel
theorem own_ca_pn : plainName "java/lang/String" = true := by first | (simp [plainName, overriddenIn]; done) | decide +kernel
theorem own_ca_pd0 : parseMethodDescriptor "()Z" = some ⟨[], some .boolean⟩ := by decide +kernel
theorem own_ca_pd1 : parseMethodDescriptor "([BI)C" = some ⟨[(.array .byte), .int], some .char⟩ := by decide +kernel
theorem own_ca_ef (m : MethodId) (x0 : Addr) (x1 : Int32) : entryFrame m #[(.ref x0), (.int x1)] 2 = mkF m 0 #[.val (.ref x0), .val (.int x1)] [] := by first | (simp [entryFrame, mkF, argsToLocals, Value.category]; done) | rfl
def own_ca_Q (Z : State) (zc : Int32) (fm : Value) (a : Addr) (tb : Addr) (kb : ClassId) (r0 : Int32) (r1 : Int32) (r2 : Int32) (r3 : Int32) (r4 : Int32) (r5 : Int32) (r6 : Int32) (r7 : Int32) (r8 : Int32) (ii : Int32) (h0 : Heap) (n0 : Nat) (vv_ : Option Value) (hh_ : Heap) (LL_ : List Loc) : Prop := vv_ = some (.int (own_sel9 r0 r1 r2 r3 r4 r5 r6 r7 r8 ii)) ∧ Fr n0 LL_ ∧ hh_ = h0
set_option maxRecDepth 65536 in
set_option maxHeartbeats 40000000 in
theorem own_ca (l : Launch) (Z : State) (a0 : Array Value) (hw : ∀ d ∈ tables_1, d.before a0 Z = true) (ws : List Jvm.Cond) (zc : Int32) (fm : Value) (a : Addr) (tb : Addr) (kb : ClassId) (r0 : Int32) (r1 : Int32) (r2 : Int32) (r3 : Int32) (r4 : Int32) (r5 : Int32) (r6 : Int32) (r7 : Int32) (r8 : Int32) (ii : Int32) (h0 : Heap) (n0 : Nat) (Z0 : n0 ≤ h0.size) (hOld : Old Z n0 h0) (Scs : Sta Z Z.heap "java/lang/String" "COMPACT_STRINGS" "Z" (.int zc)) (hzc : ¬ zc = (0 : Int32)) (Sfm : Sta Z Z.heap "jdk/internal/util/Preconditions" "SIOOBE_FORMATTER" "Ljava/util/function/BiFunction;" fm) (hfm : fm.isRef = true) (E : Exa Z h0 a "java/lang/String") (C : Fld Z h0 a "java/lang/String" "coder" "B" (.int (0 : Int32))) (Vl : Fld Z h0 a "java/lang/String" "value" "[B" (.ref tb)) (B : Arv Z h0 tb kb .byte (9 : Int32) [(.int r0.toInt8.toInt32), (.int r1.toInt8.toInt32), (.int r2.toInt8.toInt32), (.int r3.toInt8.toInt32), (.int r4.toInt8.toInt32), (.int r5.toInt8.toInt32), (.int r6.toInt8.toInt32), (.int r7.toInt8.toInt32), (.int r8.toInt8.toInt32)] (.int (0 : Int32))) (l_r0 : ¬ r0 < (0 : Int32)) (u_r0 : ¬ (255 : Int32) < r0) (l_r1 : ¬ r1 < (0 : Int32)) (u_r1 : ¬ (255 : Int32) < r1) (l_r2 : ¬ r2 < (0 : Int32)) (u_r2 : ¬ (255 : Int32) < r2) (l_r3 : ¬ r3 < (0 : Int32)) (u_r3 : ¬ (255 : Int32) < r3) (l_r4 : ¬ r4 < (0 : Int32)) (u_r4 : ¬ (255 : Int32) < r4) (l_r5 : ¬ r5 < (0 : Int32)) (u_r5 : ¬ (255 : Int32) < r5) (l_r6 : ¬ r6 < (0 : Int32)) (u_r6 : ¬ (255 : Int32) < r6) (l_r7 : ¬ r7 < (0 : Int32)) (u_r7 : ¬ (255 : Int32) < r7) (l_r8 : ¬ r8 < (0 : Int32)) (u_r8 : ¬ (255 : Int32) < r8) (il : ¬ ii < (0 : Int32)) (iu : ii < (9 : Int32)) :
    MetFree l (⟨"java/lang/String", "charAt", "(I)C"⟩ : MethodName) (head1 (Jvm.Cond.code (⟨"java/lang/String", "charAt", "(I)C"⟩ : MethodName) jdk_42_method_56_code 2 (some .char) :: ws) ({ frames := 3, cells := 0, slots := 0, locals := 40 } : Room)) (fun aa_ UU_ => aa_ = #[(.ref a), (.int ii)] ∧ Z.Warmed39 UU_.vm ∧ UU_.heap = h0) (fun _ _ _ _ _ => True) (fun _ UU_ oo_ UV_ => ∃ vv_ LL_, oo_ = .returned vv_ ∧ own_ca_Q Z zc fm a tb kb r0 r1 r2 r3 r4 r5 r6 r7 r8 ii h0 n0 vv_ UV_.heap LL_ ∧ FrameEnd UU_ oo_ UV_ LL_ ({ frames := 3, cells := 0, slots := 0, locals := 40 } : Room).cells ({ frames := 3, cells := 0, slots := 0, locals := 40 } : Room).slots) := by
  refine MetFree.of_bodySF (plainFor_of_name own_ca_pn) hisR ?_
  intro p e s m args below meth c s₁ Bd hml0 hP hK
  obtain ⟨rfl, hZ, hh⟩ := hP
  have hx := Bd.exec
  have hby := Bd.bytes
  have hml : c.maxLocals = 2 := hml0
  have hown : s.vm.findClass "java/lang/String" = some m.cls := findClass_of_methodNamed Bd.named
  have hnm := (name_of_methodNamed Bd.named Bd.method).1
  have X0 : Stand p l e ({ frames := 3, cells := 0, slots := 0, locals := 40 } : Room) s m #[(.ref a), (.int ii)] below meth c s₁ [] 0 0 := Stand.of_body Bd
  have e0 : s₁.heap = h0 := by rw [← hh, Bd.state]; rfl
  have N0 := Fr.nil n0
  have KP0 : Keep h0 h0 [] := Keep.refl _ _
  refine ownFin (Q := own_ca_Q Z zc fm a tb kb r0 r1 r2 r3 r4 r5 r6 r7 r8 ii h0 n0) ?_
  refine ownStep (fun _ k => castTop (own_ca_ef m a ii) k) ?_
  show ownGo p.tables e below (s₁.setTop (mkF m 0 #[.val (.ref a), .val (.int ii)] [])) _
  refine ownStep (fun _ k => XS.aloadN X0.here hx rfl (hb hby own_ca_d0) rfl rfl k) ?_
  show ownGo p.tables e below (s₁.setTop (mkF m 1 #[.val (.ref a), .val (.int ii)] [(.ref a)])) _
  have Zs2 : n0 ≤ h0.size := Nat.le_trans Z0 KP0.1
  obtain ⟨cq1, kq1, q1a, q1b, q1c⟩ := isOf hZ e0 E
  obtain ⟨_, _, ⟨T1, L1, k1, n1⟩, -, X1, ⟨Lc1, hQ1, l1, y1, z1⟩, st1⟩ := X0.virtualBack hx (y := (⟨"java/lang/String", "isLatin1", "()Z"⟩ : MethodName)) (z := (⟨"java/lang/String", "isLatin1", "()Z"⟩ : MethodName)) hown (mvT hZ (hw _ (List.mem_of_getElem? (i := 55) rfl))) (mvT hZ (hw _ (List.mem_of_getElem? (i := 56) rfl))) (notFace_of_selects (args := #[]) (mvT hZ (hw _ (List.mem_of_getElem? (i := 58) rfl)))) (mvT hZ (hw _ (List.mem_of_getElem? (i := 58) rfl))) (mvT hZ (hw _ (List.mem_of_getElem? (i := 57) rfl))) (by decide) (backOf (W := 0) (own_isl l Z a0 hw [] zc a h0 n0 Zs2 hOld Scs hzc C) hZ (hw _ (List.mem_of_getElem? (i := 59) rfl)) (hw _ (List.mem_of_getElem? (i := 13) rfl)) (by decide) (by decide)) q1a q1c (g := (mkF m 1 #[.val (.ref a), .val (.int ii)] [(.ref a)])) rfl (by rw [hml]; rfl) (Steps.refl _) (argsL := []) (rest := []) (lenOf own_ca_pd0 rfl) rfl (by show 2 * 0 + _ ≤ _; exact Nat.le_of_eq rfl) (hb hby own_ca_d1) (fun _ _ => ⟨rfl, e0, (by decide : 0 + 0 ≤ _), (by decide : 0 + 0 ≤ _)⟩)
  dsimp only [Pt.U, Pt.locs, Pt.cells, Pt.slots] at X1 l1 y1 z1 st1 hQ1
  obtain rfl : k1 = 0 := y1
  obtain rfl : n1 = 0 := z1
  obtain ⟨rfl, N1q, R1⟩ := hQ1
  have N1 : Fr n0 L1 := l1 ▸ Fr.app N0 N1q
  refine ownStep (fun _ k => st1.trans k) ?_
  refine ownStep (fun _ k => XS.ifNo X1.here hx rfl (hb hby own_ca_d4) rfl ((if0 _ _).trans (feq (by decide : ¬ (1 : Int32) = (0 : Int32))).1) k) ?_
  refine ownStep (fun _ k => XS.aloadN X1.here hx rfl (hb hby own_ca_d7) rfl rfl k) ?_
  show ownGo p.tables e below (T1.setTop (mkF m 8 #[.val (.ref a), .val (.int ii)] [(.ref a)])) _
  obtain ⟨T3, X3, e3, st3⟩ := getF X1 hx hZ hown (host := "") (Or.inl (hw _ (List.mem_of_getElem? (i := 38) rfl))) Via.refl R1 Vl (g := (mkF m 8 #[.val (.ref a), .val (.int ii)] [(.ref a)])) rfl rfl (hb hby own_ca_d8)
  refine ownStep st3 ?_
  refine ownStep (fun _ k => XS.iloadN X3.here hx rfl (hb hby own_ca_d11) rfl  k) ?_
  show ownGo p.tables e below (T3.setTop (mkF m 12 #[.val (.ref a), .val (.int ii)] [(.int ii), (.ref tb)])) _
  have Zs5 : n0 ≤ h0.size := Nat.le_trans Z0 KP0.1
  obtain ⟨_, _, ⟨T4, L4, k4, n4⟩, -, X4, ⟨Lc4, hQ4, l4, y4, z4⟩, st4⟩ := Jvm.LawKit.callS X3 hx (y := (⟨"java/lang/StringLatin1", "charAt", "([BI)C"⟩ : MethodName)) hown (mvT hZ (hw _ (List.mem_of_getElem? (i := 60) rfl))) (mvT hZ (hw _ (List.mem_of_getElem? (i := 61) rfl))) (mvT hZ (hw _ (List.mem_of_getElem? (i := 62) rfl))) (mvT hZ (hw _ (List.mem_of_getElem? (i := 63) rfl))) (by decide) (backOf (W := 0) (own_lca l Z a0 hw [] fm tb kb r0 r1 r2 r3 r4 r5 r6 r7 r8 ii h0 n0 Zs5 hOld Sfm hfm B l_r0 u_r0 l_r1 u_r1 l_r2 u_r2 l_r3 u_r3 l_r4 u_r4 l_r5 u_r5 l_r6 u_r6 l_r7 u_r7 l_r8 u_r8 il iu) hZ (hw _ (List.mem_of_getElem? (i := 63) rfl)) (hw _ (List.mem_of_getElem? (i := 62) rfl)) (by decide) (by decide)) (g := (mkF m 12 #[.val (.ref a), .val (.int ii)] [(.int ii), (.ref tb)])) rfl (by rw [hml]; rfl) (argsL := [(.ref tb), (.int ii)]) (rest := []) (lenOf own_ca_pd1 rfl) rfl (by show 2 * 0 + _ ≤ _; exact Nat.le_of_eq rfl) (hb hby own_ca_d12) (fun _ _ => ⟨rfl, e3, (by decide : 0 + 0 ≤ _), (by decide : 0 + 0 ≤ _)⟩)
  dsimp only [Pt.U, Pt.locs, Pt.cells, Pt.slots] at X4 l4 y4 z4 st4 hQ4
  obtain rfl : k4 = 0 := y4
  obtain rfl : n4 = 0 := z4
  obtain ⟨rfl, N4q, R4⟩ := hQ4
  have N4 : Fr n0 L4 := l4 ▸ Fr.app N1 N4q
  refine ownStep (fun _ k => st4 _ k) ?_
  show ownGo p.tables e below (T4.setTop (mkF m 15 #[.val (.ref a), .val (.int ii)] [(.int (own_sel9 r0 r1 r2 r3 r4 r5 r6 r7 r8 ii))])) _
  exact ownRet X4 (v := some (.int (nar .char (own_sel9 r0 r1 r2 r3 r4 r5 r6 r7 r8 ii)))) Bd.notSynchronized (fun h => by rw [Bd.returns] at h; cases h) (fun _ hr => retN X4 hx (t := .char) Bd.returns (by simp) (hb hby own_ca_d15) hr) (by rw [R4]; exact ⟨(by rw [show nar .char (own_sel9 r0 r1 r2 r3 r4 r5 r6 r7 r8 ii) = (own_sel9 r0 r1 r2 r3 r4 r5 r6 r7 r8 ii) from own_nc (own_sel9_l l_r0 l_r1 l_r2 l_r3 l_r4 l_r5 l_r6 l_r7 l_r8) (own_sel9_u u_r0 u_r1 u_r2 u_r3 u_r4 u_r5 u_r6 u_r7 u_r8)]), N4, rfl⟩) (by decide) (by decide)
theorem own_digit_d0 : decode prog_33_method_17_code 0 = .ok (.aload_n 0, 1) := by decide +kernel
theorem own_digit_d1 : decode prog_33_method_17_code 1 = .ok (.iload_n 1, 1) := by decide +kernel
theorem own_digit_d2 : decode prog_33_method_17_code 2 = .ok (.invokevirtual 65, 3) := by decide +kernel
theorem own_digit_d5 : decode prog_33_method_17_code 5 = .ok (.istore_n 2, 1) := by decide +kernel
theorem own_digit_d6 : decode prog_33_method_17_code 6 = .ok (.iload_n 2, 1) := by decide +kernel
theorem own_digit_d7 : decode prog_33_method_17_code 7 = .ok (.bipush 48, 2) := by decide +kernel
theorem own_digit_d9 : decode prog_33_method_17_code 9 = .ok (.if_icmp .lt 9, 3) := by decide +kernel
theorem own_digit_d12 : decode prog_33_method_17_code 12 = .ok (.iload_n 2, 1) := by decide +kernel
theorem own_digit_d13 : decode prog_33_method_17_code 13 = .ok (.bipush 57, 2) := by decide +kernel
theorem own_digit_d15 : decode prog_33_method_17_code 15 = .ok (.if_icmp .le 11, 3) := by decide +kernel
theorem own_digit_d26 : decode prog_33_method_17_code 26 = .ok (.iload_n 2, 1) := by decide +kernel
theorem own_digit_d27 : decode prog_33_method_17_code 27 = .ok (.bipush 48, 2) := by decide +kernel
theorem own_digit_d29 : decode prog_33_method_17_code 29 = .ok (.isub, 1) := by decide +kernel
theorem own_digit_d30 : decode prog_33_method_17_code 30 = .ok (.ireturn, 1) := by decide +kernel
theorem own_digit_pn : plainName "com/example/fixd/fixd/nmea/Fields" = true := by first | (simp [plainName, overriddenIn]; done) | decide +kernel
theorem own_digit_pd0 : parseMethodDescriptor "(I)C" = some ⟨[.int], some .char⟩ := by decide +kernel
theorem own_digit_ef (m : MethodId) (x0 : Addr) (x1 : Int32) : entryFrame m #[(.ref x0), (.int x1)] 3 = mkF m 0 #[.val (.ref x0), .val (.int x1), .unset] [] := by first | (simp [entryFrame, mkF, argsToLocals, Value.category]; done) | rfl
def own_digit_Q (Z : State) (zc : Int32) (fm : Value) (a : Addr) (tb : Addr) (kb : ClassId) (r0 : Int32) (r1 : Int32) (r2 : Int32) (r3 : Int32) (r4 : Int32) (r5 : Int32) (r6 : Int32) (r7 : Int32) (r8 : Int32) (ii : Int32) (h0 : Heap) (n0 : Nat) (vv_ : Option Value) (hh_ : Heap) (LL_ : List Loc) : Prop := vv_ = some (.int ((own_sel9 r0 r1 r2 r3 r4 r5 r6 r7 r8 ii) - (48 : Int32))) ∧ Fr n0 LL_ ∧ hh_ = h0
set_option maxRecDepth 65536 in
set_option maxHeartbeats 40000000 in
theorem own_digit (l : Launch) (Z : State) (a0 : Array Value) (hw : ∀ d ∈ tables_1, d.before a0 Z = true) (ws : List Jvm.Cond) (zc : Int32) (fm : Value) (a : Addr) (tb : Addr) (kb : ClassId) (r0 : Int32) (r1 : Int32) (r2 : Int32) (r3 : Int32) (r4 : Int32) (r5 : Int32) (r6 : Int32) (r7 : Int32) (r8 : Int32) (ii : Int32) (h0 : Heap) (n0 : Nat) (Z0 : n0 ≤ h0.size) (hOld : Old Z n0 h0) (Scs : Sta Z Z.heap "java/lang/String" "COMPACT_STRINGS" "Z" (.int zc)) (hzc : ¬ zc = (0 : Int32)) (Sfm : Sta Z Z.heap "jdk/internal/util/Preconditions" "SIOOBE_FORMATTER" "Ljava/util/function/BiFunction;" fm) (hfm : fm.isRef = true) (E : Exa Z h0 a "java/lang/String") (C : Fld Z h0 a "java/lang/String" "coder" "B" (.int (0 : Int32))) (Vl : Fld Z h0 a "java/lang/String" "value" "[B" (.ref tb)) (B : Arv Z h0 tb kb .byte (9 : Int32) [(.int r0.toInt8.toInt32), (.int r1.toInt8.toInt32), (.int r2.toInt8.toInt32), (.int r3.toInt8.toInt32), (.int r4.toInt8.toInt32), (.int r5.toInt8.toInt32), (.int r6.toInt8.toInt32), (.int r7.toInt8.toInt32), (.int r8.toInt8.toInt32)] (.int (0 : Int32))) (l_r0 : ¬ r0 < (0 : Int32)) (u_r0 : ¬ (255 : Int32) < r0) (l_r1 : ¬ r1 < (0 : Int32)) (u_r1 : ¬ (255 : Int32) < r1) (l_r2 : ¬ r2 < (0 : Int32)) (u_r2 : ¬ (255 : Int32) < r2) (l_r3 : ¬ r3 < (0 : Int32)) (u_r3 : ¬ (255 : Int32) < r3) (l_r4 : ¬ r4 < (0 : Int32)) (u_r4 : ¬ (255 : Int32) < r4) (l_r5 : ¬ r5 < (0 : Int32)) (u_r5 : ¬ (255 : Int32) < r5) (l_r6 : ¬ r6 < (0 : Int32)) (u_r6 : ¬ (255 : Int32) < r6) (l_r7 : ¬ r7 < (0 : Int32)) (u_r7 : ¬ (255 : Int32) < r7) (l_r8 : ¬ r8 < (0 : Int32)) (u_r8 : ¬ (255 : Int32) < r8) (il : ¬ ii < (0 : Int32)) (iu : ii < (9 : Int32)) (dl : ¬ (own_sel9 r0 r1 r2 r3 r4 r5 r6 r7 r8 ii) < (48 : Int32)) (du : ¬ (57 : Int32) < (own_sel9 r0 r1 r2 r3 r4 r5 r6 r7 r8 ii)) :
    MetFree l (⟨"com/example/fixd/fixd/nmea/Fields", "digit", "(Ljava/lang/String;I)I"⟩ : MethodName) (head1 (Jvm.Cond.code (⟨"com/example/fixd/fixd/nmea/Fields", "digit", "(Ljava/lang/String;I)I"⟩ : MethodName) prog_33_method_17_code 3 (some .int) :: ws) ({ frames := 4, cells := 0, slots := 0, locals := 53 } : Room)) (fun aa_ UU_ => aa_ = #[(.ref a), (.int ii)] ∧ Z.Warmed39 UU_.vm ∧ UU_.heap = h0) (fun _ _ _ _ _ => True) (fun _ UU_ oo_ UV_ => ∃ vv_ LL_, oo_ = .returned vv_ ∧ own_digit_Q Z zc fm a tb kb r0 r1 r2 r3 r4 r5 r6 r7 r8 ii h0 n0 vv_ UV_.heap LL_ ∧ FrameEnd UU_ oo_ UV_ LL_ ({ frames := 4, cells := 0, slots := 0, locals := 53 } : Room).cells ({ frames := 4, cells := 0, slots := 0, locals := 53 } : Room).slots) := by
  refine MetFree.of_bodySF (plainFor_of_name own_digit_pn) hisR ?_
  intro p e s m args below meth c s₁ Bd hml0 hP hK
  obtain ⟨rfl, hZ, hh⟩ := hP
  have hx := Bd.exec
  have hby := Bd.bytes
  have hml : c.maxLocals = 3 := hml0
  have hown : s.vm.findClass "com/example/fixd/fixd/nmea/Fields" = some m.cls := findClass_of_methodNamed Bd.named
  have hnm := (name_of_methodNamed Bd.named Bd.method).1
  have X0 : Stand p l e ({ frames := 4, cells := 0, slots := 0, locals := 53 } : Room) s m #[(.ref a), (.int ii)] below meth c s₁ [] 0 0 := Stand.of_body Bd
  have e0 : s₁.heap = h0 := by rw [← hh, Bd.state]; rfl
  have N0 := Fr.nil n0
  have KP0 : Keep h0 h0 [] := Keep.refl _ _
  refine ownFin (Q := own_digit_Q Z zc fm a tb kb r0 r1 r2 r3 r4 r5 r6 r7 r8 ii h0 n0) ?_
  refine ownStep (fun _ k => castTop (own_digit_ef m a ii) k) ?_
  show ownGo p.tables e below (s₁.setTop (mkF m 0 #[.val (.ref a), .val (.int ii), .unset] [])) _
  refine ownStep (fun _ k => XS.aloadN X0.here hx rfl (hb hby own_digit_d0) rfl rfl k) ?_
  refine ownStep (fun _ k => XS.iloadN X0.here hx rfl (hb hby own_digit_d1) rfl  k) ?_
  show ownGo p.tables e below (s₁.setTop (mkF m 2 #[.val (.ref a), .val (.int ii), .unset] [(.int ii), (.ref a)])) _
  have Zs2 : n0 ≤ h0.size := Nat.le_trans Z0 KP0.1
  obtain ⟨cq1, kq1, q1a, q1b, q1c⟩ := isOf hZ e0 E
  obtain ⟨_, _, ⟨T1, L1, k1, n1⟩, -, X1, ⟨Lc1, hQ1, l1, y1, z1⟩, st1⟩ := X0.virtualBack hx (y := (⟨"java/lang/String", "charAt", "(I)C"⟩ : MethodName)) (z := (⟨"java/lang/String", "charAt", "(I)C"⟩ : MethodName)) hown (mvT hZ (hw _ (List.mem_of_getElem? (i := 50) rfl))) (mvT hZ (hw _ (List.mem_of_getElem? (i := 51) rfl))) (notFace_of_selects (args := #[]) (mvT hZ (hw _ (List.mem_of_getElem? (i := 53) rfl)))) (mvT hZ (hw _ (List.mem_of_getElem? (i := 53) rfl))) (mvT hZ (hw _ (List.mem_of_getElem? (i := 52) rfl))) (by decide) (backOf (W := 0) (own_ca l Z a0 hw [] zc fm a tb kb r0 r1 r2 r3 r4 r5 r6 r7 r8 ii h0 n0 Zs2 hOld Scs hzc Sfm hfm E C Vl B l_r0 u_r0 l_r1 u_r1 l_r2 u_r2 l_r3 u_r3 l_r4 u_r4 l_r5 u_r5 l_r6 u_r6 l_r7 u_r7 l_r8 u_r8 il iu) hZ (hw _ (List.mem_of_getElem? (i := 54) rfl)) (hw _ (List.mem_of_getElem? (i := 13) rfl)) (by decide) (by decide)) q1a q1c (g := (mkF m 2 #[.val (.ref a), .val (.int ii), .unset] [(.int ii), (.ref a)])) rfl (by rw [hml]; rfl) (Steps.refl _) (argsL := [(.int ii)]) (rest := []) (lenOf own_digit_pd0 rfl) rfl (by show 2 * 0 + _ ≤ _; exact Nat.le_of_eq rfl) (hb hby own_digit_d2) (fun _ _ => ⟨rfl, e0, (by decide : 0 + 0 ≤ _), (by decide : 0 + 0 ≤ _)⟩)
  dsimp only [Pt.U, Pt.locs, Pt.cells, Pt.slots] at X1 l1 y1 z1 st1 hQ1
  obtain rfl : k1 = 0 := y1
  obtain rfl : n1 = 0 := z1
  obtain ⟨rfl, N1q, R1⟩ := hQ1
  have N1 : Fr n0 L1 := l1 ▸ Fr.app N0 N1q
  refine ownStep (fun _ k => st1.trans k) ?_
  refine ownStep (fun _ k => XS.istoreN X1.here hx rfl (hb hby own_digit_d5) rfl (l' := #[.val (.ref a), .val (.int ii), .val (.int (own_sel9 r0 r1 r2 r3 r4 r5 r6 r7 r8 ii))]) rfl k) ?_
  refine ownStep (fun _ k => XS.iloadN X1.here hx rfl (hb hby own_digit_d6) rfl  k) ?_
  refine ownStep (fun _ k => XS.bipush X1.here hx rfl (hb hby own_digit_d7) k) ?_
  refine ownStep (fun _ k => XS.icmpNo X1.here hx rfl (hb hby own_digit_d9) rfl (flt (dl : ¬ (own_sel9 r0 r1 r2 r3 r4 r5 r6 r7 r8 ii) < (48 : Int32))).1 k) ?_
  show ownGo p.tables e below (T1.setTop (mkF m 12 #[.val (.ref a), .val (.int ii), .val (.int (own_sel9 r0 r1 r2 r3 r4 r5 r6 r7 r8 ii))] [])) _
  refine ownStep (fun _ k => XS.iloadN X1.here hx rfl (hb hby own_digit_d12) rfl  k) ?_
  refine ownStep (fun _ k => XS.bipush X1.here hx rfl (hb hby own_digit_d13) k) ?_
  refine ownStep (fun _ k => XS.icmpYes X1.here hx rfl (pc0 := 15) (pc' := 26) rfl (hb hby own_digit_d15) rfl (flt (du : ¬ (57 : Int32) < (own_sel9 r0 r1 r2 r3 r4 r5 r6 r7 r8 ii))).2.2.2 (by decide) (by decide) k) ?_
  refine ownStep (fun _ k => XS.iloadN X1.here hx rfl (hb hby own_digit_d26) rfl  k) ?_
  refine ownStep (fun _ k => XS.bipush X1.here hx rfl (hb hby own_digit_d27) k) ?_
  show ownGo p.tables e below (T1.setTop (mkF m 29 #[.val (.ref a), .val (.int ii), .val (.int (own_sel9 r0 r1 r2 r3 r4 r5 r6 r7 r8 ii))] [(.int (48 : Int32)), (.int (own_sel9 r0 r1 r2 r3 r4 r5 r6 r7 r8 ii))])) _
  refine ownStep (fun _ k => XS.isub X1.here hx rfl (hb hby own_digit_d29) rfl k) ?_
  show ownGo p.tables e below (T1.setTop (mkF m 30 #[.val (.ref a), .val (.int ii), .val (.int (own_sel9 r0 r1 r2 r3 r4 r5 r6 r7 r8 ii))] [(.int ((own_sel9 r0 r1 r2 r3 r4 r5 r6 r7 r8 ii) - (48 : Int32)))])) _
  exact ownRet X1 (v := some (.int ((own_sel9 r0 r1 r2 r3 r4 r5 r6 r7 r8 ii) - (48 : Int32)))) Bd.notSynchronized (fun h => by rw [Bd.returns] at h; cases h) (fun _ hr => retI X1 hx Bd.returns (hb hby own_digit_d30) hr) (by rw [R1]; exact ⟨rfl, N1, rfl⟩) (by decide) (by decide)
theorem own_req_d0 : decode prog_33_method_16_code 0 = .ok (.iload_n 1, 1) := by decide +kernel
theorem own_req_d1 : decode prog_33_method_16_code 1 = .ok (.iload_n 2, 1) := by decide +kernel
theorem own_req_d2 : decode prog_33_method_16_code 2 = .ok (.if_icmp .lt 11, 3) := by decide +kernel
theorem own_req_d13 : decode prog_33_method_16_code 13 = .ok (.iload_n 1, 1) := by decide +kernel
theorem own_req_d14 : decode prog_33_method_16_code 14 = .ok (.istore_n 3, 1) := by decide +kernel
theorem own_req_d15 : decode prog_33_method_16_code 15 = .ok (.iload_n 3, 1) := by decide +kernel
theorem own_req_d16 : decode prog_33_method_16_code 16 = .ok (.iload_n 2, 1) := by decide +kernel
theorem own_req_d17 : decode prog_33_method_16_code 17 = .ok (.if_icmp .ge 15, 3) := by decide +kernel
theorem own_req_d20 : decode prog_33_method_16_code 20 = .ok (.aload_n 0, 1) := by decide +kernel
theorem own_req_d21 : decode prog_33_method_16_code 21 = .ok (.iload_n 3, 1) := by decide +kernel
theorem own_req_d22 : decode prog_33_method_16_code 22 = .ok (.invokestatic 20, 3) := by decide +kernel
theorem own_req_d25 : decode prog_33_method_16_code 25 = .ok (.pop, 1) := by decide +kernel
theorem own_req_d26 : decode prog_33_method_16_code 26 = .ok (.iinc 3 1, 3) := by decide +kernel
theorem own_req_d29 : decode prog_33_method_16_code 29 = .ok (.goto (-14), 3) := by decide +kernel
theorem own_req_d32 : decode prog_33_method_16_code 32 = .ok (.return_, 1) := by decide +kernel
theorem own_req_pn : plainName "com/example/fixd/fixd/nmea/Fields" = true := by first | (simp [plainName, overriddenIn]; done) | decide +kernel
theorem own_req_pd0 : parseMethodDescriptor "(Ljava/lang/String;I)I" = some ⟨[(.object "java/lang/String"), .int], some .int⟩ := by decide +kernel
theorem own_req_ef (m : MethodId) (x0 : Addr) (x1 : Int32) (x2 : Int32) : entryFrame m #[(.ref x0), (.int x1), (.int x2)] 4 = mkF m 0 #[.val (.ref x0), .val (.int x1), .val (.int x2), .unset] [] := by first | (simp [entryFrame, mkF, argsToLocals, Value.category]; done) | rfl
def own_req_Q (Z : State) (zc : Int32) (fm : Value) (a : Addr) (tb : Addr) (kb : ClassId) (r0 : Int32) (r1 : Int32) (r2 : Int32) (r3 : Int32) (r4 : Int32) (r5 : Int32) (r6 : Int32) (r7 : Int32) (r8 : Int32) (sa : Int32) (en : Int32) (h0 : Heap) (n0 : Nat) (vv_ : Option Value) (hh_ : Heap) (LL_ : List Loc) : Prop := vv_ = none ∧ Fr n0 LL_ ∧ hh_ = h0
set_option maxRecDepth 65536 in
set_option maxHeartbeats 40000000 in
theorem own_req (l : Launch) (Z : State) (a0 : Array Value) (hw : ∀ d ∈ tables_1, d.before a0 Z = true) (ws : List Jvm.Cond) (zc : Int32) (fm : Value) (a : Addr) (tb : Addr) (kb : ClassId) (r0 : Int32) (r1 : Int32) (r2 : Int32) (r3 : Int32) (r4 : Int32) (r5 : Int32) (r6 : Int32) (r7 : Int32) (r8 : Int32) (sa : Int32) (en : Int32) (h0 : Heap) (n0 : Nat) (Z0 : n0 ≤ h0.size) (hOld : Old Z n0 h0) (Scs : Sta Z Z.heap "java/lang/String" "COMPACT_STRINGS" "Z" (.int zc)) (hzc : ¬ zc = (0 : Int32)) (Sfm : Sta Z Z.heap "jdk/internal/util/Preconditions" "SIOOBE_FORMATTER" "Ljava/util/function/BiFunction;" fm) (hfm : fm.isRef = true) (E : Exa Z h0 a "java/lang/String") (C : Fld Z h0 a "java/lang/String" "coder" "B" (.int (0 : Int32))) (Vl : Fld Z h0 a "java/lang/String" "value" "[B" (.ref tb)) (B : Arv Z h0 tb kb .byte (9 : Int32) [(.int r0.toInt8.toInt32), (.int r1.toInt8.toInt32), (.int r2.toInt8.toInt32), (.int r3.toInt8.toInt32), (.int r4.toInt8.toInt32), (.int r5.toInt8.toInt32), (.int r6.toInt8.toInt32), (.int r7.toInt8.toInt32), (.int r8.toInt8.toInt32)] (.int (0 : Int32))) (l_r0 : ¬ r0 < (0 : Int32)) (u_r0 : ¬ (255 : Int32) < r0) (l_r1 : ¬ r1 < (0 : Int32)) (u_r1 : ¬ (255 : Int32) < r1) (l_r2 : ¬ r2 < (0 : Int32)) (u_r2 : ¬ (255 : Int32) < r2) (l_r3 : ¬ r3 < (0 : Int32)) (u_r3 : ¬ (255 : Int32) < r3) (l_r4 : ¬ r4 < (0 : Int32)) (u_r4 : ¬ (255 : Int32) < r4) (l_r5 : ¬ r5 < (0 : Int32)) (u_r5 : ¬ (255 : Int32) < r5) (l_r6 : ¬ r6 < (0 : Int32)) (u_r6 : ¬ (255 : Int32) < r6) (l_r7 : ¬ r7 < (0 : Int32)) (u_r7 : ¬ (255 : Int32) < r7) (l_r8 : ¬ r8 < (0 : Int32)) (u_r8 : ¬ (255 : Int32) < r8) (hse : sa < en) (hall : ∀ i : Int32, ¬ i < sa → i < en → ¬ i < (0 : Int32) ∧ i < (9 : Int32) ∧ ¬ (own_sel9 r0 r1 r2 r3 r4 r5 r6 r7 r8 i) < (48 : Int32) ∧ ¬ (57 : Int32) < (own_sel9 r0 r1 r2 r3 r4 r5 r6 r7 r8 i)) :
    MetFree l (⟨"com/example/fixd/fixd/nmea/Fields", "requireDigits", "(Ljava/lang/String;II)V"⟩ : MethodName) (head1 (Jvm.Cond.code (⟨"com/example/fixd/fixd/nmea/Fields", "requireDigits", "(Ljava/lang/String;II)V"⟩ : MethodName) prog_33_method_16_code 4 none :: ws) ({ frames := 5, cells := 0, slots := 0, locals := 67 } : Room)) (fun aa_ UU_ => aa_ = #[(.ref a), (.int sa), (.int en)] ∧ Z.Warmed39 UU_.vm ∧ UU_.heap = h0) (fun _ _ _ _ _ => True) (fun _ UU_ oo_ UV_ => ∃ vv_ LL_, oo_ = .returned vv_ ∧ own_req_Q Z zc fm a tb kb r0 r1 r2 r3 r4 r5 r6 r7 r8 sa en h0 n0 vv_ UV_.heap LL_ ∧ FrameEnd UU_ oo_ UV_ LL_ ({ frames := 5, cells := 0, slots := 0, locals := 67 } : Room).cells ({ frames := 5, cells := 0, slots := 0, locals := 67 } : Room).slots) := by
  refine MetFree.of_bodySF (plainFor_of_name own_req_pn) hisR ?_
  intro p e s m args below meth c s₁ Bd hml0 hP hK
  obtain ⟨rfl, hZ, hh⟩ := hP
  have hx := Bd.exec
  have hby := Bd.bytes
  have hml : c.maxLocals = 4 := hml0
  have hown : s.vm.findClass "com/example/fixd/fixd/nmea/Fields" = some m.cls := findClass_of_methodNamed Bd.named
  have hnm := (name_of_methodNamed Bd.named Bd.method).1
  have X0 : Stand p l e ({ frames := 5, cells := 0, slots := 0, locals := 67 } : Room) s m #[(.ref a), (.int sa), (.int en)] below meth c s₁ [] 0 0 := Stand.of_body Bd
  have e0 : s₁.heap = h0 := by rw [← hh, Bd.state]; rfl
  have N0 := Fr.nil n0
  have KP0 : Keep h0 h0 [] := Keep.refl _ _
  refine ownFin (Q := own_req_Q Z zc fm a tb kb r0 r1 r2 r3 r4 r5 r6 r7 r8 sa en h0 n0) ?_
  refine ownStep (fun _ k => castTop (own_req_ef m a sa en) k) ?_
  show ownGo p.tables e below (s₁.setTop (mkF m 0 #[.val (.ref a), .val (.int sa), .val (.int en), .unset] [])) _
  refine ownStep (fun _ k => XS.iloadN X0.here hx rfl (hb hby own_req_d0) rfl  k) ?_
  refine ownStep (fun _ k => XS.iloadN X0.here hx rfl (hb hby own_req_d1) rfl  k) ?_
  refine ownStep (fun _ k => XS.icmpYes X0.here hx rfl (pc0 := 2) (pc' := 13) rfl (hb hby own_req_d2) rfl (tlt (hse : sa < en)).1 (by decide) (by decide) k) ?_
  refine ownStep (fun _ k => XS.iloadN X0.here hx rfl (hb hby own_req_d13) rfl  k) ?_
  refine ownStep (fun _ k => XS.istoreN X0.here hx rfl (hb hby own_req_d14) rfl (l' := #[.val (.ref a), .val (.int sa), .val (.int en), .val (.int sa)]) rfl k) ?_
  show ownGo p.tables e below (s₁.setTop (mkF m 15 #[.val (.ref a), .val (.int sa), .val (.int en), .val (.int sa)] [])) _
  have J : ∀ (k : Nat) (Tj : State) (Lj : List Loc) (Xj : Stand p l e ({ frames := 5, cells := 0, slots := 0, locals := 67 } : Room) s m #[(.ref a), (.int sa), (.int en)] below meth c Tj Lj 0 0) (ej : Tj.heap = h0) (Nj : Fr n0 Lj) (i : Int32) (hk : i.toInt + k = en.toInt) (hge : ¬ i < sa), ownGo p.tables e below (Tj.setTop (mkF m 15 #[.val (.ref a), .val (.int sa), .val (.int en), .val (.int i)] [])) (ownEnd below s (own_req_Q Z zc fm a tb kb r0 r1 r2 r3 r4 r5 r6 r7 r8 sa en h0 n0) ({ frames := 5, cells := 0, slots := 0, locals := 67 } : Room).cells ({ frames := 5, cells := 0, slots := 0, locals := 67 } : Room).slots) := by
    intro k
    induction k with
    | zero =>
      intro Tj Lj Xj ej Nj i hk hge
      refine ownStep (fun _ k => XS.iloadN Xj.here hx rfl (hb hby own_req_d15) rfl  k) ?_
      refine ownStep (fun _ k => XS.iloadN Xj.here hx rfl (hb hby own_req_d16) rfl  k) ?_
      refine ownStep (fun _ k => XS.icmpYes Xj.here hx rfl (pc0 := 17) (pc' := 32) rfl (hb hby own_req_d17) rfl (flt ((own_knl hk) : ¬ i < en)).2.1 (by decide) (by decide) k) ?_
      show ownGo p.tables e below (Tj.setTop (mkF m 32 #[.val (.ref a), .val (.int sa), .val (.int en), .val (.int i)] [])) _
      exact ownRet Xj (v := none) Bd.notSynchronized (fun _ => rfl) (fun _ hr => Xj.returnOut hx Bd.returns (hb hby own_req_d32) hr) (by rw [ej]; exact ⟨rfl, Nj, rfl⟩) (by decide) (by decide)
    | succ k ih =>
      intro Tj Lj Xj ej Nj i hk hge
      have hlt : i < en := own_klt hk
      have hd := hall i hge hlt
      refine ownStep (fun _ k => XS.iloadN Xj.here hx rfl (hb hby own_req_d15) rfl  k) ?_
      refine ownStep (fun _ k => XS.iloadN Xj.here hx rfl (hb hby own_req_d16) rfl  k) ?_
      refine ownStep (fun _ k => XS.icmpNo Xj.here hx rfl (hb hby own_req_d17) rfl (tlt (hlt : i < en)).2.1 k) ?_
      refine ownStep (fun _ k => XS.aloadN Xj.here hx rfl (hb hby own_req_d20) rfl rfl k) ?_
      show ownGo p.tables e below (Tj.setTop (mkF m 21 #[.val (.ref a), .val (.int sa), .val (.int en), .val (.int i)] [(.ref a)])) _
      refine ownStep (fun _ k => XS.iloadN Xj.here hx rfl (hb hby own_req_d21) rfl  k) ?_
      show ownGo p.tables e below (Tj.setTop (mkF m 22 #[.val (.ref a), .val (.int sa), .val (.int en), .val (.int i)] [(.int i), (.ref a)])) _
      have Zs2 : n0 ≤ h0.size := Nat.le_trans Z0 KP0.1
      obtain ⟨_, _, ⟨T1, L1, k1, n1⟩, -, X1, ⟨Lc1, hQ1, l1, y1, z1⟩, st1⟩ := Jvm.LawKit.callS Xj hx (y := (⟨"com/example/fixd/fixd/nmea/Fields", "digit", "(Ljava/lang/String;I)I"⟩ : MethodName)) hown (mvT hZ (hw _ (List.mem_of_getElem? (i := 47) rfl))) (mvT hZ (hw _ (List.mem_of_getElem? (i := 48) rfl))) (mvT hZ (hw _ (List.mem_of_getElem? (i := 42) rfl))) (mvT hZ (hw _ (List.mem_of_getElem? (i := 49) rfl))) (by decide) (backOf (W := 0) (own_digit l Z a0 hw [] zc fm a tb kb r0 r1 r2 r3 r4 r5 r6 r7 r8 i h0 n0 Zs2 hOld Scs hzc Sfm hfm E C Vl B l_r0 u_r0 l_r1 u_r1 l_r2 u_r2 l_r3 u_r3 l_r4 u_r4 l_r5 u_r5 l_r6 u_r6 l_r7 u_r7 l_r8 u_r8 hd.1 hd.2.1 hd.2.2.1 hd.2.2.2) hZ (hw _ (List.mem_of_getElem? (i := 49) rfl)) (hw _ (List.mem_of_getElem? (i := 42) rfl)) (by decide) (by decide)) (g := (mkF m 22 #[.val (.ref a), .val (.int sa), .val (.int en), .val (.int i)] [(.int i), (.ref a)])) rfl (by rw [hml]; rfl) (argsL := [(.ref a), (.int i)]) (rest := []) (lenOf own_req_pd0 rfl) rfl (by show 2 * 0 + _ ≤ _; exact Nat.le_of_eq rfl) (hb hby own_req_d22) (fun _ _ => ⟨rfl, ej, (by decide : 0 + 0 ≤ _), (by decide : 0 + 0 ≤ _)⟩)
      dsimp only [Pt.U, Pt.locs, Pt.cells, Pt.slots] at X1 l1 y1 z1 st1 hQ1
      obtain rfl : k1 = 0 := y1
      obtain rfl : n1 = 0 := z1
      obtain ⟨rfl, N1q, R1⟩ := hQ1
      have N1 : Fr n0 L1 := l1 ▸ Fr.app Nj N1q
      refine ownStep (fun _ k => st1 _ k) ?_
      refine ownStep (fun _ k => XS.pop X1.here hx rfl (hb hby own_req_d25) rfl rfl k) ?_
      refine ownStep (fun _ k => XS.iinc X1.here hx rfl (hb hby own_req_d26) rfl (l' := #[.val (.ref a), .val (.int sa), .val (.int en), .val (.int (i + (1 : Int32)))]) rfl k) ?_
      refine ownStep (fun _ k => XS.goto X1.here hx rfl (pc0 := 29) (pc' := 15) rfl (hb hby own_req_d29) (by decide) (by decide) k) ?_
      show ownGo p.tables e below (T1.setTop (mkF m 15 #[.val (.ref a), .val (.int sa), .val (.int en), .val (.int (i + (1 : Int32)))] [])) _
      exact ih _ _ X1 R1 N1 _ (own_up hk hlt) (own_ge hge hlt)
  show ownGo p.tables e below (s₁.setTop (mkF m 15 #[.val (.ref a), .val (.int sa), .val (.int en), .val (.int sa)] [])) _
  exact J (en.toInt - sa.toInt).toNat _ _ X0 e0 N0 sa (own_k0 hse) (own_irr sa)
theorem own_digits_d0 : decode prog_33_method_8_code 0 = .ok (.aload_n 0, 1) := by decide +kernel
theorem own_digits_d1 : decode prog_33_method_8_code 1 = .ok (.iload_n 1, 1) := by decide +kernel
theorem own_digits_d2 : decode prog_33_method_8_code 2 = .ok (.iload_n 2, 1) := by decide +kernel
theorem own_digits_d3 : decode prog_33_method_8_code 3 = .ok (.invokestatic 62, 3) := by decide +kernel
theorem own_digits_d6 : decode prog_33_method_8_code 6 = .ok (.iconst 0, 1) := by decide +kernel
theorem own_digits_d7 : decode prog_33_method_8_code 7 = .ok (.istore_n 3, 1) := by decide +kernel
theorem own_digits_d8 : decode prog_33_method_8_code 8 = .ok (.iload_n 1, 1) := by decide +kernel
theorem own_digits_d9 : decode prog_33_method_8_code 9 = .ok (.istore 4, 2) := by decide +kernel
theorem own_digits_d11 : decode prog_33_method_8_code 11 = .ok (.iload 4, 2) := by decide +kernel
theorem own_digits_d13 : decode prog_33_method_8_code 13 = .ok (.iload_n 2, 1) := by decide +kernel
theorem own_digits_d14 : decode prog_33_method_8_code 14 = .ok (.if_icmp .ge 21, 3) := by decide +kernel
theorem own_digits_d17 : decode prog_33_method_8_code 17 = .ok (.iload_n 3, 1) := by decide +kernel
theorem own_digits_d18 : decode prog_33_method_8_code 18 = .ok (.bipush 10, 2) := by decide +kernel
theorem own_digits_d20 : decode prog_33_method_8_code 20 = .ok (.imul, 1) := by decide +kernel
theorem own_digits_d21 : decode prog_33_method_8_code 21 = .ok (.aload_n 0, 1) := by decide +kernel
theorem own_digits_d22 : decode prog_33_method_8_code 22 = .ok (.iload 4, 2) := by decide +kernel
theorem own_digits_d24 : decode prog_33_method_8_code 24 = .ok (.invokestatic 20, 3) := by decide +kernel
theorem own_digits_d27 : decode prog_33_method_8_code 27 = .ok (.iadd, 1) := by decide +kernel
theorem own_digits_d28 : decode prog_33_method_8_code 28 = .ok (.istore_n 3, 1) := by decide +kernel
theorem own_digits_d29 : decode prog_33_method_8_code 29 = .ok (.iinc 4 1, 3) := by decide +kernel
theorem own_digits_d32 : decode prog_33_method_8_code 32 = .ok (.goto (-21), 3) := by decide +kernel
theorem own_digits_d35 : decode prog_33_method_8_code 35 = .ok (.iload_n 3, 1) := by decide +kernel
theorem own_digits_d36 : decode prog_33_method_8_code 36 = .ok (.ireturn, 1) := by decide +kernel
theorem own_digits_pn : plainName "com/example/fixd/fixd/nmea/Fields" = true := by first | (simp [plainName, overriddenIn]; done) | decide +kernel
theorem own_digits_pd0 : parseMethodDescriptor "(Ljava/lang/String;II)V" = some ⟨[(.object "java/lang/String"), .int, .int], none⟩ := by decide +kernel
theorem own_digits_pd1 : parseMethodDescriptor "(Ljava/lang/String;I)I" = some ⟨[(.object "java/lang/String"), .int], some .int⟩ := by decide +kernel
theorem own_digits_ef (m : MethodId) (x0 : Addr) (x1 : Int32) (x2 : Int32) : entryFrame m #[(.ref x0), (.int x1), (.int x2)] 5 = mkF m 0 #[.val (.ref x0), .val (.int x1), .val (.int x2), .unset, .unset] [] := by first | (simp [entryFrame, mkF, argsToLocals, Value.category]; done) | rfl
def own_digits_Q (Z : State) (zc : Int32) (fm : Value) (a : Addr) (tb : Addr) (kb : ClassId) (r0 : Int32) (r1 : Int32) (r2 : Int32) (r3 : Int32) (r4 : Int32) (r5 : Int32) (r6 : Int32) (r7 : Int32) (r8 : Int32) (sa : Int32) (en : Int32) (vv : Int32) (h0 : Heap) (n0 : Nat) (vv_ : Option Value) (hh_ : Heap) (LL_ : List Loc) : Prop := ∃ wo : Int32, vv_ = some (.int wo) ∧ Fr n0 LL_ ∧ hh_ = h0 ∧ (own_inv vv sa en wo)
set_option maxRecDepth 65536 in
set_option maxHeartbeats 40000000 in
theorem own_digits (l : Launch) (Z : State) (a0 : Array Value) (hw : ∀ d ∈ tables_1, d.before a0 Z = true) (ws : List Jvm.Cond) (zc : Int32) (fm : Value) (a : Addr) (tb : Addr) (kb : ClassId) (r0 : Int32) (r1 : Int32) (r2 : Int32) (r3 : Int32) (r4 : Int32) (r5 : Int32) (r6 : Int32) (r7 : Int32) (r8 : Int32) (sa : Int32) (en : Int32) (vv : Int32) (h0 : Heap) (n0 : Nat) (Z0 : n0 ≤ h0.size) (hOld : Old Z n0 h0) (Scs : Sta Z Z.heap "java/lang/String" "COMPACT_STRINGS" "Z" (.int zc)) (hzc : ¬ zc = (0 : Int32)) (Sfm : Sta Z Z.heap "jdk/internal/util/Preconditions" "SIOOBE_FORMATTER" "Ljava/util/function/BiFunction;" fm) (hfm : fm.isRef = true) (E : Exa Z h0 a "java/lang/String") (C : Fld Z h0 a "java/lang/String" "coder" "B" (.int (0 : Int32))) (Vl : Fld Z h0 a "java/lang/String" "value" "[B" (.ref tb)) (B : Arv Z h0 tb kb .byte (9 : Int32) [(.int r0.toInt8.toInt32), (.int r1.toInt8.toInt32), (.int r2.toInt8.toInt32), (.int r3.toInt8.toInt32), (.int r4.toInt8.toInt32), (.int r5.toInt8.toInt32), (.int r6.toInt8.toInt32), (.int r7.toInt8.toInt32), (.int r8.toInt8.toInt32)] (.int (0 : Int32))) (l_r0 : ¬ r0 < (0 : Int32)) (u_r0 : ¬ (255 : Int32) < r0) (l_r1 : ¬ r1 < (0 : Int32)) (u_r1 : ¬ (255 : Int32) < r1) (l_r2 : ¬ r2 < (0 : Int32)) (u_r2 : ¬ (255 : Int32) < r2) (l_r3 : ¬ r3 < (0 : Int32)) (u_r3 : ¬ (255 : Int32) < r3) (l_r4 : ¬ r4 < (0 : Int32)) (u_r4 : ¬ (255 : Int32) < r4) (l_r5 : ¬ r5 < (0 : Int32)) (u_r5 : ¬ (255 : Int32) < r5) (l_r6 : ¬ r6 < (0 : Int32)) (u_r6 : ¬ (255 : Int32) < r6) (l_r7 : ¬ r7 < (0 : Int32)) (u_r7 : ¬ (255 : Int32) < r7) (l_r8 : ¬ r8 < (0 : Int32)) (u_r8 : ¬ (255 : Int32) < r8) (hse : sa < en) (hall : ∀ i : Int32, ¬ i < sa → i < en → ¬ i < (0 : Int32) ∧ i < (9 : Int32) ∧ ¬ (own_sel9 r0 r1 r2 r3 r4 r5 r6 r7 r8 i) < (48 : Int32) ∧ ¬ (57 : Int32) < (own_sel9 r0 r1 r2 r3 r4 r5 r6 r7 r8 i)) (hsel : ∀ i : Int32, ¬ i < sa → i < en → (own_sel9 r0 r1 r2 r3 r4 r5 r6 r7 r8 i) = (48 : Int32) + (vv / own_pow ((8 : Int32) - i)) % (10 : Int32)) (lv : ¬ vv < (0 : Int32)) (ls : ¬ sa < (0 : Int32)) (hen : ¬ (9 : Int32) < en) :
    MetFree l (⟨"com/example/fixd/fixd/nmea/Fields", "digits", "(Ljava/lang/String;II)I"⟩ : MethodName) (head1 (Jvm.Cond.code (⟨"com/example/fixd/fixd/nmea/Fields", "digits", "(Ljava/lang/String;II)I"⟩ : MethodName) prog_33_method_8_code 5 (some .int) :: ws) ({ frames := 6, cells := 0, slots := 0, locals := 82 } : Room)) (fun aa_ UU_ => aa_ = #[(.ref a), (.int sa), (.int en)] ∧ Z.Warmed39 UU_.vm ∧ UU_.heap = h0) (fun _ _ _ _ _ => True) (fun _ UU_ oo_ UV_ => ∃ vv_ LL_, oo_ = .returned vv_ ∧ own_digits_Q Z zc fm a tb kb r0 r1 r2 r3 r4 r5 r6 r7 r8 sa en vv h0 n0 vv_ UV_.heap LL_ ∧ FrameEnd UU_ oo_ UV_ LL_ ({ frames := 6, cells := 0, slots := 0, locals := 82 } : Room).cells ({ frames := 6, cells := 0, slots := 0, locals := 82 } : Room).slots) := by
  refine MetFree.of_bodySF (plainFor_of_name own_digits_pn) hisR ?_
  intro p e s m args below meth c s₁ Bd hml0 hP hK
  obtain ⟨rfl, hZ, hh⟩ := hP
  have hx := Bd.exec
  have hby := Bd.bytes
  have hml : c.maxLocals = 5 := hml0
  have hown : s.vm.findClass "com/example/fixd/fixd/nmea/Fields" = some m.cls := findClass_of_methodNamed Bd.named
  have hnm := (name_of_methodNamed Bd.named Bd.method).1
  have X0 : Stand p l e ({ frames := 6, cells := 0, slots := 0, locals := 82 } : Room) s m #[(.ref a), (.int sa), (.int en)] below meth c s₁ [] 0 0 := Stand.of_body Bd
  have e0 : s₁.heap = h0 := by rw [← hh, Bd.state]; rfl
  have N0 := Fr.nil n0
  have KP0 : Keep h0 h0 [] := Keep.refl _ _
  refine ownFin (Q := own_digits_Q Z zc fm a tb kb r0 r1 r2 r3 r4 r5 r6 r7 r8 sa en vv h0 n0) ?_
  refine ownStep (fun _ k => castTop (own_digits_ef m a sa en) k) ?_
  show ownGo p.tables e below (s₁.setTop (mkF m 0 #[.val (.ref a), .val (.int sa), .val (.int en), .unset, .unset] [])) _
  refine ownStep (fun _ k => XS.aloadN X0.here hx rfl (hb hby own_digits_d0) rfl rfl k) ?_
  refine ownStep (fun _ k => XS.iloadN X0.here hx rfl (hb hby own_digits_d1) rfl  k) ?_
  refine ownStep (fun _ k => XS.iloadN X0.here hx rfl (hb hby own_digits_d2) rfl  k) ?_
  show ownGo p.tables e below (s₁.setTop (mkF m 3 #[.val (.ref a), .val (.int sa), .val (.int en), .unset, .unset] [(.int en), (.int sa), (.ref a)])) _
  have Zs2 : n0 ≤ h0.size := Nat.le_trans Z0 KP0.1
  obtain ⟨_, _, ⟨T1, L1, k1, n1⟩, -, X1, ⟨Lc1, hQ1, l1, y1, z1⟩, st1⟩ := Jvm.LawKit.callS X0 hx (y := (⟨"com/example/fixd/fixd/nmea/Fields", "requireDigits", "(Ljava/lang/String;II)V"⟩ : MethodName)) hown (mvT hZ (hw _ (List.mem_of_getElem? (i := 44) rfl))) (mvT hZ (hw _ (List.mem_of_getElem? (i := 45) rfl))) (mvT hZ (hw _ (List.mem_of_getElem? (i := 42) rfl))) (mvT hZ (hw _ (List.mem_of_getElem? (i := 46) rfl))) (by decide) (backOf (W := 0) (own_req l Z a0 hw [] zc fm a tb kb r0 r1 r2 r3 r4 r5 r6 r7 r8 sa en h0 n0 Zs2 hOld Scs hzc Sfm hfm E C Vl B l_r0 u_r0 l_r1 u_r1 l_r2 u_r2 l_r3 u_r3 l_r4 u_r4 l_r5 u_r5 l_r6 u_r6 l_r7 u_r7 l_r8 u_r8 hse hall) hZ (hw _ (List.mem_of_getElem? (i := 46) rfl)) (hw _ (List.mem_of_getElem? (i := 42) rfl)) (by decide) (by decide)) (g := (mkF m 3 #[.val (.ref a), .val (.int sa), .val (.int en), .unset, .unset] [(.int en), (.int sa), (.ref a)])) rfl (by rw [hml]; rfl) (argsL := [(.ref a), (.int sa), (.int en)]) (rest := []) (lenOf own_digits_pd0 rfl) rfl (by show 2 * 0 + _ ≤ _; exact Nat.le_of_eq rfl) (hb hby own_digits_d3) (fun _ _ => ⟨rfl, e0, (by decide : 0 + 0 ≤ _), (by decide : 0 + 0 ≤ _)⟩)
  dsimp only [Pt.U, Pt.locs, Pt.cells, Pt.slots] at X1 l1 y1 z1 st1 hQ1
  obtain rfl : k1 = 0 := y1
  obtain rfl : n1 = 0 := z1
  obtain ⟨rfl, N1q, R1⟩ := hQ1
  have N1 : Fr n0 L1 := l1 ▸ Fr.app N0 N1q
  refine ownStep (fun _ k => st1 _ k) ?_
  refine ownStep (fun _ k => XS.iconst X1.here hx rfl (hb hby own_digits_d6) k) ?_
  refine ownStep (fun _ k => XS.istoreN X1.here hx rfl (hb hby own_digits_d7) rfl (l' := #[.val (.ref a), .val (.int sa), .val (.int en), .val (.int (0 : Int32)), .unset]) rfl k) ?_
  refine ownStep (fun _ k => XS.iloadN X1.here hx rfl (hb hby own_digits_d8) rfl  k) ?_
  refine ownStep (fun _ k => XS.istore X1.here hx rfl (hb hby own_digits_d9) rfl (l' := #[.val (.ref a), .val (.int sa), .val (.int en), .val (.int (0 : Int32)), .val (.int sa)]) rfl k) ?_
  show ownGo p.tables e below (T1.setTop (mkF m 11 #[.val (.ref a), .val (.int sa), .val (.int en), .val (.int (0 : Int32)), .val (.int sa)] [])) _
  have J : ∀ (k : Nat) (Tj : State) (Lj : List Loc) (Xj : Stand p l e ({ frames := 6, cells := 0, slots := 0, locals := 82 } : Room) s m #[(.ref a), (.int sa), (.int en)] below meth c Tj Lj 0 0) (ej : Tj.heap = h0) (Nj : Fr n0 Lj) (i w : Int32) (hk : i.toInt + k = en.toInt) (hge : ¬ i < sa) (hiv : own_inv vv sa i w), ownGo p.tables e below (Tj.setTop (mkF m 11 #[.val (.ref a), .val (.int sa), .val (.int en), .val (.int w), .val (.int i)] [])) (ownEnd below s (own_digits_Q Z zc fm a tb kb r0 r1 r2 r3 r4 r5 r6 r7 r8 sa en vv h0 n0) ({ frames := 6, cells := 0, slots := 0, locals := 82 } : Room).cells ({ frames := 6, cells := 0, slots := 0, locals := 82 } : Room).slots) := by
    intro k
    induction k with
    | zero =>
      intro Tj Lj Xj ej Nj i w hk hge hiv
      refine ownStep (fun _ k => XS.iload Xj.here hx rfl (hb hby own_digits_d11) rfl  k) ?_
      refine ownStep (fun _ k => XS.iloadN Xj.here hx rfl (hb hby own_digits_d13) rfl  k) ?_
      refine ownStep (fun _ k => XS.icmpYes Xj.here hx rfl (pc0 := 14) (pc' := 35) rfl (hb hby own_digits_d14) rfl (flt ((own_knl hk) : ¬ i < en)).2.1 (by decide) (by decide) k) ?_
      refine ownStep (fun _ k => XS.iloadN Xj.here hx rfl (hb hby own_digits_d35) rfl  k) ?_
      show ownGo p.tables e below (Tj.setTop (mkF m 36 #[.val (.ref a), .val (.int sa), .val (.int en), .val (.int w), .val (.int i)] [(.int w)])) _
      exact ownRet Xj (v := some (.int w)) Bd.notSynchronized (fun h => by rw [Bd.returns] at h; cases h) (fun _ hr => retI Xj hx Bd.returns (hb hby own_digits_d36) hr) (by rw [ej]; exact ⟨w, rfl, Nj, rfl, (own_invz hk hiv)⟩) (by decide) (by decide)
    | succ k ih =>
      intro Tj Lj Xj ej Nj i w hk hge hiv
      have hlt : i < en := own_klt hk
      have hd := hall i hge hlt
      refine ownStep (fun _ k => XS.iload Xj.here hx rfl (hb hby own_digits_d11) rfl  k) ?_
      refine ownStep (fun _ k => XS.iloadN Xj.here hx rfl (hb hby own_digits_d13) rfl  k) ?_
      refine ownStep (fun _ k => XS.icmpNo Xj.here hx rfl (hb hby own_digits_d14) rfl (tlt (hlt : i < en)).2.1 k) ?_
      refine ownStep (fun _ k => XS.iloadN Xj.here hx rfl (hb hby own_digits_d17) rfl  k) ?_
      show ownGo p.tables e below (Tj.setTop (mkF m 18 #[.val (.ref a), .val (.int sa), .val (.int en), .val (.int w), .val (.int i)] [(.int w)])) _
      refine ownStep (fun _ k => XS.bipush Xj.here hx rfl (hb hby own_digits_d18) k) ?_
      refine ownStep (fun _ k => XS.imul Xj.here hx rfl (hb hby own_digits_d20) rfl k) ?_
      refine ownStep (fun _ k => XS.aloadN Xj.here hx rfl (hb hby own_digits_d21) rfl rfl k) ?_
      refine ownStep (fun _ k => XS.iload Xj.here hx rfl (hb hby own_digits_d22) rfl  k) ?_
      show ownGo p.tables e below (Tj.setTop (mkF m 24 #[.val (.ref a), .val (.int sa), .val (.int en), .val (.int w), .val (.int i)] [(.int i), (.ref a), (.int (w * (10 : Int32)))])) _
      have Zs4 : n0 ≤ h0.size := Nat.le_trans Z0 KP0.1
      obtain ⟨_, _, ⟨T3, L3, k3, n3⟩, -, X3, ⟨Lc3, hQ3, l3, y3, z3⟩, st3⟩ := Jvm.LawKit.callS Xj hx (y := (⟨"com/example/fixd/fixd/nmea/Fields", "digit", "(Ljava/lang/String;I)I"⟩ : MethodName)) hown (mvT hZ (hw _ (List.mem_of_getElem? (i := 47) rfl))) (mvT hZ (hw _ (List.mem_of_getElem? (i := 48) rfl))) (mvT hZ (hw _ (List.mem_of_getElem? (i := 42) rfl))) (mvT hZ (hw _ (List.mem_of_getElem? (i := 49) rfl))) (by decide) (backOf (W := 1) (own_digit l Z a0 hw [] zc fm a tb kb r0 r1 r2 r3 r4 r5 r6 r7 r8 i h0 n0 Zs4 hOld Scs hzc Sfm hfm E C Vl B l_r0 u_r0 l_r1 u_r1 l_r2 u_r2 l_r3 u_r3 l_r4 u_r4 l_r5 u_r5 l_r6 u_r6 l_r7 u_r7 l_r8 u_r8 hd.1 hd.2.1 hd.2.2.1 hd.2.2.2) hZ (hw _ (List.mem_of_getElem? (i := 49) rfl)) (hw _ (List.mem_of_getElem? (i := 42) rfl)) (by decide) (by decide)) (g := (mkF m 24 #[.val (.ref a), .val (.int sa), .val (.int en), .val (.int w), .val (.int i)] [(.int i), (.ref a), (.int (w * (10 : Int32)))])) rfl (by rw [hml]; rfl) (argsL := [(.ref a), (.int i)]) (rest := [(.int (w * (10 : Int32)))]) (lenOf own_digits_pd1 rfl) rfl (by show 2 * 0 + _ ≤ _; exact Nat.le_of_eq rfl) (hb hby own_digits_d24) (fun _ _ => ⟨rfl, ej, (by decide : 0 + 0 ≤ _), (by decide : 0 + 0 ≤ _)⟩)
      dsimp only [Pt.U, Pt.locs, Pt.cells, Pt.slots] at X3 l3 y3 z3 st3 hQ3
      obtain rfl : k3 = 0 := y3
      obtain rfl : n3 = 0 := z3
      obtain ⟨rfl, N3q, R3⟩ := hQ3
      have N3 : Fr n0 L3 := l3 ▸ Fr.app Nj N3q
      refine ownStep (fun _ k => st3 _ k) ?_
      refine ownStep (fun _ k => XS.iadd X3.here hx rfl (hb hby own_digits_d27) rfl k) ?_
      refine ownStep (fun _ k => XS.istoreN X3.here hx rfl (hb hby own_digits_d28) rfl (l' := #[.val (.ref a), .val (.int sa), .val (.int en), .val (.int ((w * (10 : Int32)) + ((own_sel9 r0 r1 r2 r3 r4 r5 r6 r7 r8 i) - (48 : Int32)))), .val (.int i)]) rfl k) ?_
      refine ownStep (fun _ k => XS.iinc X3.here hx rfl (hb hby own_digits_d29) rfl (l' := #[.val (.ref a), .val (.int sa), .val (.int en), .val (.int ((w * (10 : Int32)) + ((own_sel9 r0 r1 r2 r3 r4 r5 r6 r7 r8 i) - (48 : Int32)))), .val (.int (i + (1 : Int32)))]) rfl k) ?_
      refine ownStep (fun _ k => XS.goto X3.here hx rfl (pc0 := 32) (pc' := 11) rfl (hb hby own_digits_d32) (by decide) (by decide) k) ?_
      show ownGo p.tables e below (T3.setTop (mkF m 11 #[.val (.ref a), .val (.int sa), .val (.int en), .val (.int ((w * (10 : Int32)) + ((own_sel9 r0 r1 r2 r3 r4 r5 r6 r7 r8 i) - (48 : Int32)))), .val (.int (i + (1 : Int32)))] [])) _
      exact ih _ _ X3 R3 N3 _ _ (own_up hk hlt) (own_ge hge hlt) (own_inv_step lv ls hen hge hlt (hsel i hge hlt) hiv)
  show ownGo p.tables e below (T1.setTop (mkF m 11 #[.val (.ref a), .val (.int sa), .val (.int en), .val (.int (0 : Int32)), .val (.int sa)] [])) _
  exact J (en.toInt - sa.toInt).toNat _ _ X1 R1 N1 sa _ (own_k0 hse) (own_irr sa) (own_inv0 vv sa)
theorem own_law_pn : plainName "com/example/fixd/fixd/nmea/FieldsDigitsPinLaw" = true := by first | (simp [plainName, overriddenIn]; done) | decide +kernel
theorem own_law_pd0 : parseMethodDescriptor "(IIIIC)C" = some ⟨[.int, .int, .int, .int, .char], some .char⟩ := by decide +kernel
theorem own_law_pd1 : parseMethodDescriptor "([C)V" = some ⟨[(.array .char)], none⟩ := by decide +kernel
theorem own_law_pd2 : parseMethodDescriptor "(I)I" = some ⟨[.int], some .int⟩ := by decide +kernel
theorem own_law_pd3 : parseMethodDescriptor "(Ljava/lang/String;II)I" = some ⟨[(.object "java/lang/String"), .int, .int], some .int⟩ := by decide +kernel
theorem own_law_ef (m : MethodId) (x0 : Int32) (x1 : Int32) (x2 : Int32) (x3 : Int32) : entryFrame m #[(.int x0), (.int x1), (.int x2), (.int x3)] maxLocals = mkF m 0 #[.val (.int x0), .val (.int x1), .val (.int x2), .val (.int x3), .unset, .unset, .unset, .unset, .unset, .unset, .unset, .unset] [] := by first | (simp [entryFrame, mkF, argsToLocals, Value.category, maxLocals]; done) | rfl
def own_law_Q (Z : State) (pa : Int32) (pb : Int32) (pc_ : Int32) (pd_ : Int32) (zc : Int32) (fm : Value) (h0 : Heap) (n0 : Nat) (vv_ : Option Value) (hh_ : Heap) (LL_ : List Loc) : Prop := vv_ = some (.int (1 : Int32)) ∧ Fr n0 LL_ ∧ Ext h0 hh_
set_option maxRecDepth 65536 in
set_option maxHeartbeats 40000000 in
theorem own_law (l : Launch) (Z : State) (a0 : Array Value) (hw : ∀ d ∈ tables_1, d.before a0 Z = true) (ws : List Jvm.Cond) (pa : Int32) (pb : Int32) (pc_ : Int32) (pd_ : Int32) (zc : Int32) (fm : Value) (h0 : Heap) (n0 : Nat) (Z0 : n0 ≤ h0.size) (hOld : Old Z n0 h0) (Scs : Sta Z Z.heap "java/lang/String" "COMPACT_STRINGS" "Z" (.int zc)) (hzc : ¬ zc = (0 : Int32)) (Sfm : Sta Z Z.heap "jdk/internal/util/Preconditions" "SIOOBE_FORMATTER" "Ljava/util/function/BiFunction;" fm) (hfm : fm.isRef = true) :
    MetFree l x (head1 (Jvm.Cond.code x code maxLocals ret :: ws) room_1) (fun aa_ UU_ => aa_ = #[(.int pa), (.int pb), (.int pc_), (.int pd_)] ∧ Z.Warmed39 UU_.vm ∧ UU_.heap = h0) (fun _ _ _ _ _ => True) (fun _ UU_ oo_ UV_ => ∃ vv_ LL_, oo_ = .returned vv_ ∧ own_law_Q Z pa pb pc_ pd_ zc fm h0 n0 vv_ UV_.heap LL_ ∧ FrameEnd UU_ oo_ UV_ LL_ room_1.cells room_1.slots) := by
  refine MetFree.of_bodySF (plainFor_of_name own_law_pn) hisR ?_
  intro p e s m args below meth c s₁ Bd hml0 hP hK
  obtain ⟨rfl, hZ, hh⟩ := hP
  have hx := Bd.exec
  have hby := Bd.bytes
  have hml : c.maxLocals = 12 := hml0
  have hown : s.vm.findClass "com/example/fixd/fixd/nmea/FieldsDigitsPinLaw" = some m.cls := findClass_of_methodNamed Bd.named
  have hnm := (name_of_methodNamed Bd.named Bd.method).1
  have X0 : Stand p l e room_1 s m #[(.int pa), (.int pb), (.int pc_), (.int pd_)] below meth c s₁ [] 0 0 := Stand.of_body Bd
  have e0 : s₁.heap = h0 := by rw [← hh, Bd.state]; rfl
  have N0 := Fr.nil n0
  have KP0 : Keep h0 h0 [] := Keep.refl _ _
  refine ownFin (Q := own_law_Q Z pa pb pc_ pd_ zc fm h0 n0) ?_
  refine ownStep (fun _ k => castTop (own_law_ef m pa pb pc_ pd_) k) ?_
  show ownGo p.tables e below (s₁.setTop (mkF m 0 #[.val (.int pa), .val (.int pb), .val (.int pc_), .val (.int pd_), .unset, .unset, .unset, .unset, .unset, .unset, .unset, .unset] [])) _
  refine ownStep (fun _ k => XS.iloadN X0.here hx rfl (hb hby at_0) rfl  k) ?_
  show ownGo p.tables e below (s₁.setTop (mkF m 1 #[.val (.int pa), .val (.int pb), .val (.int pc_), .val (.int pd_), .unset, .unset, .unset, .unset, .unset, .unset, .unset, .unset] [(.int pa)])) _
  refine ownStep (X0.ldcInt hx hown (mvT hZ (hw _ (List.mem_of_getElem? (i := 0) rfl))) (g := (mkF m 1 #[.val (.int pa), .val (.int pb), .val (.int pc_), .val (.int pd_), .unset, .unset, .unset, .unset, .unset, .unset, .unset, .unset] [(.int pa)])) rfl (hb hby at_1)) ?_
  refine ownStep (fun _ k => XS.iand X0.here hx rfl (hb hby at_3) rfl k) ?_
  show ownGo p.tables e below (s₁.setTop (mkF m 4 #[.val (.int pa), .val (.int pb), .val (.int pc_), .val (.int pd_), .unset, .unset, .unset, .unset, .unset, .unset, .unset, .unset] [(.int (pa &&& (2147483647 : Int32)))])) _
  refine ownStep (X0.ldcInt hx hown (mvT hZ (hw _ (List.mem_of_getElem? (i := 1) rfl))) (g := (mkF m 4 #[.val (.int pa), .val (.int pb), .val (.int pc_), .val (.int pd_), .unset, .unset, .unset, .unset, .unset, .unset, .unset, .unset] [(.int (pa &&& (2147483647 : Int32)))])) rfl (hb hby at_4)) ?_
  show ownGo p.tables e below (s₁.setTop (mkF m 6 #[.val (.int pa), .val (.int pb), .val (.int pc_), .val (.int pd_), .unset, .unset, .unset, .unset, .unset, .unset, .unset, .unset] [(.int (1000000000 : Int32)), (.int (pa &&& (2147483647 : Int32)))])) _
  refine ownStep (fun _ k => iremM X0 hx rfl (hb hby at_6) rfl (by decide) k) ?_
  show ownGo p.tables e below (s₁.setTop (mkF m 7 #[.val (.int pa), .val (.int pb), .val (.int pc_), .val (.int pd_), .unset, .unset, .unset, .unset, .unset, .unset, .unset, .unset] [(.int ((pa &&& (2147483647 : Int32)) % (1000000000 : Int32)))])) _
  obtain ⟨vv, h_vv, lv⟩ : ∃ z, ((pa &&& (2147483647 : Int32)) % (1000000000 : Int32)) = z ∧ ¬ z < (0 : Int32) := own_v pa
  rw [h_vv]
  refine ownStep (fun _ k => XS.istore X0.here hx rfl (hb hby at_7) rfl (l' := #[.val (.int pa), .val (.int pb), .val (.int pc_), .val (.int pd_), .val (.int vv), .unset, .unset, .unset, .unset, .unset, .unset, .unset]) rfl k) ?_
  refine ownStep (fun _ k => XS.iloadN X0.here hx rfl (hb hby at_9) rfl  k) ?_
  show ownGo p.tables e below (s₁.setTop (mkF m 10 #[.val (.int pa), .val (.int pb), .val (.int pc_), .val (.int pd_), .val (.int vv), .unset, .unset, .unset, .unset, .unset, .unset, .unset] [(.int pb)])) _
  refine ownStep (X0.ldcInt hx hown (mvT hZ (hw _ (List.mem_of_getElem? (i := 0) rfl))) (g := (mkF m 10 #[.val (.int pa), .val (.int pb), .val (.int pc_), .val (.int pd_), .val (.int vv), .unset, .unset, .unset, .unset, .unset, .unset, .unset] [(.int pb)])) rfl (hb hby at_10)) ?_
  refine ownStep (fun _ k => XS.iand X0.here hx rfl (hb hby at_12) rfl k) ?_
  refine ownStep (fun _ k => XS.bipush X0.here hx rfl (hb hby at_13) k) ?_
  show ownGo p.tables e below (s₁.setTop (mkF m 15 #[.val (.int pa), .val (.int pb), .val (.int pc_), .val (.int pd_), .val (.int vv), .unset, .unset, .unset, .unset, .unset, .unset, .unset] [(.int (9 : Int32)), (.int (pb &&& (2147483647 : Int32)))])) _
  refine ownStep (fun _ k => iremM X0 hx rfl (hb hby at_15) rfl (by decide) k) ?_
  show ownGo p.tables e below (s₁.setTop (mkF m 16 #[.val (.int pa), .val (.int pb), .val (.int pc_), .val (.int pd_), .val (.int vv), .unset, .unset, .unset, .unset, .unset, .unset, .unset] [(.int ((pb &&& (2147483647 : Int32)) % (9 : Int32)))])) _
  obtain ⟨sa, h_sa, ls, us⟩ : ∃ z, ((pb &&& (2147483647 : Int32)) % (9 : Int32)) = z ∧ ¬ z < (0 : Int32) ∧ z < (9 : Int32) := own_s pb
  rw [h_sa]
  refine ownStep (fun _ k => XS.istore X0.here hx rfl (hb hby at_16) rfl (l' := #[.val (.int pa), .val (.int pb), .val (.int pc_), .val (.int pd_), .val (.int vv), .val (.int sa), .unset, .unset, .unset, .unset, .unset, .unset]) rfl k) ?_
  refine ownStep (fun _ k => XS.iconst X0.here hx rfl (hb hby at_18) k) ?_
  refine ownStep (fun _ k => XS.iloadN X0.here hx rfl (hb hby at_19) rfl  k) ?_
  show ownGo p.tables e below (s₁.setTop (mkF m 20 #[.val (.int pa), .val (.int pb), .val (.int pc_), .val (.int pd_), .val (.int vv), .val (.int sa), .unset, .unset, .unset, .unset, .unset, .unset] [(.int pc_), (.int (1 : Int32))])) _
  refine ownStep (X0.ldcInt hx hown (mvT hZ (hw _ (List.mem_of_getElem? (i := 0) rfl))) (g := (mkF m 20 #[.val (.int pa), .val (.int pb), .val (.int pc_), .val (.int pd_), .val (.int vv), .val (.int sa), .unset, .unset, .unset, .unset, .unset, .unset] [(.int pc_), (.int (1 : Int32))])) rfl (hb hby at_20)) ?_
  refine ownStep (fun _ k => XS.iand X0.here hx rfl (hb hby at_22) rfl k) ?_
  refine ownStep (fun _ k => XS.bipush X0.here hx rfl (hb hby at_23) k) ?_
  refine ownStep (fun _ k => XS.iload X0.here hx rfl (hb hby at_25) rfl  k) ?_
  refine ownStep (fun _ k => XS.isub X0.here hx rfl (hb hby at_27) rfl k) ?_
  show ownGo p.tables e below (s₁.setTop (mkF m 28 #[.val (.int pa), .val (.int pb), .val (.int pc_), .val (.int pd_), .val (.int vv), .val (.int sa), .unset, .unset, .unset, .unset, .unset, .unset] [(.int ((9 : Int32) - sa)), (.int (pc_ &&& (2147483647 : Int32))), (.int (1 : Int32))])) _
  refine ownStep (fun _ k => iremM X0 hx rfl (hb hby at_28) rfl (own_sub9_ne ls us) k) ?_
  refine ownStep (fun _ k => XS.iadd X0.here hx rfl (hb hby at_29) rfl k) ?_
  show ownGo p.tables e below (s₁.setTop (mkF m 30 #[.val (.int pa), .val (.int pb), .val (.int pc_), .val (.int pd_), .val (.int vv), .val (.int sa), .unset, .unset, .unset, .unset, .unset, .unset] [(.int ((1 : Int32) + ((pc_ &&& (2147483647 : Int32)) % ((9 : Int32) - sa))))])) _
  obtain ⟨ln, h_ln, l1, l2⟩ : ∃ z, ((1 : Int32) + ((pc_ &&& (2147483647 : Int32)) % ((9 : Int32) - sa))) = z ∧ 1 ≤ z.toInt ∧ z.toInt ≤ 9 - sa.toInt := own_l pc_ ls us
  rw [h_ln]
  refine ownStep (fun _ k => XS.istore X0.here hx rfl (hb hby at_30) rfl (l' := #[.val (.int pa), .val (.int pb), .val (.int pc_), .val (.int pd_), .val (.int vv), .val (.int sa), .val (.int ln), .unset, .unset, .unset, .unset, .unset]) rfl k) ?_
  refine ownStep (fun _ k => XS.iload X0.here hx rfl (hb hby at_32) rfl  k) ?_
  refine ownStep (fun _ k => XS.iload X0.here hx rfl (hb hby at_34) rfl  k) ?_
  refine ownStep (fun _ k => XS.iadd X0.here hx rfl (hb hby at_36) rfl k) ?_
  show ownGo p.tables e below (s₁.setTop (mkF m 37 #[.val (.int pa), .val (.int pb), .val (.int pc_), .val (.int pd_), .val (.int vv), .val (.int sa), .val (.int ln), .unset, .unset, .unset, .unset, .unset] [(.int (sa + ln))])) _
  obtain ⟨en, h_en, he, hen, hse⟩ : ∃ z, (sa + ln) = z ∧ z.toInt = sa.toInt + ln.toInt ∧ ¬ (9 : Int32) < z ∧ sa < z := own_e ls us l1 l2
  rw [h_en]
  refine ownStep (fun _ k => XS.istore X0.here hx rfl (hb hby at_37) rfl (l' := #[.val (.int pa), .val (.int pb), .val (.int pc_), .val (.int pd_), .val (.int vv), .val (.int sa), .val (.int ln), .val (.int en), .unset, .unset, .unset, .unset]) rfl k) ?_
  refine ownStep (fun _ k => XS.iloadN X0.here hx rfl (hb hby at_39) rfl  k) ?_
  refine ownStep (fun _ k => XS.sipush X0.here hx rfl (hb hby at_40) k) ?_
  refine ownStep (fun _ k => XS.iand X0.here hx rfl (hb hby at_43) rfl k) ?_
  show ownGo p.tables e below (s₁.setTop (mkF m 44 #[.val (.int pa), .val (.int pb), .val (.int pc_), .val (.int pd_), .val (.int vv), .val (.int sa), .val (.int ln), .val (.int en), .unset, .unset, .unset, .unset] [(.int (pd_ &&& (255 : Int32)))])) _
  refine ownStep (fun _ k => XS.i2c X0.here hx rfl (hb hby at_44) rfl k) ?_
  show ownGo p.tables e below (s₁.setTop (mkF m 45 #[.val (.int pa), .val (.int pb), .val (.int pc_), .val (.int pd_), .val (.int vv), .val (.int sa), .val (.int ln), .val (.int en), .unset, .unset, .unset, .unset] [(.int ((pd_ &&& (255 : Int32)).toUInt32.toUInt16.toUInt32.toInt32))])) _
  obtain ⟨oo, h_oo, l_oo, u_oo⟩ : ∃ z, ((pd_ &&& (255 : Int32)).toUInt32.toUInt16.toUInt32.toInt32) = z ∧ ¬ z < (0 : Int32) ∧ ¬ (255 : Int32) < z := own_char pd_
  rw [h_oo]
  refine ownStep (fun _ k => XS.istore X0.here hx rfl (hb hby at_45) rfl (l' := #[.val (.int pa), .val (.int pb), .val (.int pc_), .val (.int pd_), .val (.int vv), .val (.int sa), .val (.int ln), .val (.int en), .val (.int oo), .unset, .unset, .unset]) rfl k) ?_
  refine ownStep (fun _ k => XS.bipush X0.here hx rfl (hb hby at_47) k) ?_
  show ownGo p.tables e below (s₁.setTop (mkF m 49 #[.val (.int pa), .val (.int pb), .val (.int pc_), .val (.int pd_), .val (.int vv), .val (.int sa), .val (.int ln), .val (.int en), .val (.int oo), .unset, .unset, .unset] [(.int (9 : Int32))])) _
  obtain ⟨T1, h1, k1, X1, e1, E1, A1, st1⟩ := newP X0 hx hZ (hw _ (List.mem_of_getElem? (i := 2) rfl)) e0 (g := (mkF m 49 #[.val (.int pa), .val (.int pb), .val (.int pc_), .val (.int pd_), .val (.int vv), .val (.int sa), .val (.int ln), .val (.int en), .val (.int oo), .unset, .unset, .unset] [(.int (9 : Int32))])) rfl (hb hby at_49) rfl (by decide) (cap := 9) (by decide) (by decide) (by decide) (by decide)
  obtain ⟨b1, g1⟩ : ∃ z, z = h0.size := ⟨_, rfl⟩
  rw [← g1] at A1 st1
  have gh_b1 : h0.size ≤ b1 := Nat.le_trans KP0.1 (Nat.le_of_eq g1.symm)
  have gn_b1 : n0 ≤ b1 := Nat.le_trans Z0 gh_b1
  have KP2 : Keep h0 h1 [] := KP0.ext E1
  have V1 : Arv Z h1 b1 k1 .char (9 : Int32) [(.int (0 : Int32)), (.int (0 : Int32)), (.int (0 : Int32)), (.int (0 : Int32)), (.int (0 : Int32)), (.int (0 : Int32)), (.int (0 : Int32)), (.int (0 : Int32)), (.int (0 : Int32))] (.int (0 : Int32)) := (Arv.new A1 (by decide)).pad (pad_rep [] (.int (0 : Int32)) 9)
  refine ownStep st1 ?_
  refine ownStep (fun _ k => XS.astore X1.here hx rfl (hb hby at_51) rfl rfl (l' := #[.val (.int pa), .val (.int pb), .val (.int pc_), .val (.int pd_), .val (.int vv), .val (.int sa), .val (.int ln), .val (.int en), .val (.int oo), .val (.ref b1), .unset, .unset]) rfl k) ?_
  refine ownStep (fun _ k => XS.aload X1.here hx rfl (hb hby at_53) rfl rfl k) ?_
  refine ownStep (fun _ k => XS.iconst X1.here hx rfl (hb hby at_55) k) ?_
  refine ownStep (fun _ k => XS.iload X1.here hx rfl (hb hby at_56) rfl  k) ?_
  show ownGo p.tables e below (T1.setTop (mkF m 58 #[.val (.int pa), .val (.int pb), .val (.int pc_), .val (.int pd_), .val (.int vv), .val (.int sa), .val (.int ln), .val (.int en), .val (.int oo), .val (.ref b1), .unset, .unset] [(.int vv), (.int (0 : Int32)), (.ref b1)])) _
  refine ownStep (fun _ k => XS.iconst X1.here hx rfl (hb hby at_58) k) ?_
  refine ownStep (fun _ k => XS.iload X1.here hx rfl (hb hby at_59) rfl  k) ?_
  refine ownStep (fun _ k => XS.iload X1.here hx rfl (hb hby at_61) rfl  k) ?_
  refine ownStep (fun _ k => XS.iload X1.here hx rfl (hb hby at_63) rfl  k) ?_
  show ownGo p.tables e below (T1.setTop (mkF m 65 #[.val (.int pa), .val (.int pb), .val (.int pc_), .val (.int pd_), .val (.int vv), .val (.int sa), .val (.int ln), .val (.int en), .val (.int oo), .val (.ref b1), .unset, .unset] [(.int oo), (.int en), (.int sa), (.int (0 : Int32)), (.int vv), (.int (0 : Int32)), (.ref b1)])) _
  have Zs4 : n0 ≤ h1.size := Nat.le_trans Z0 KP2.1
  obtain ⟨_, _, ⟨T3, L3, k3, n3⟩, -, X3, ⟨Lc3, hQ3, l3, y3, z3⟩, st3⟩ := Jvm.LawKit.callS X1 hx (y := (⟨"com/example/fixd/fixd/nmea/FieldsDigitsPinLaw", "ch", "(IIIIC)C"⟩ : MethodName)) hown (mvT hZ (hw _ (List.mem_of_getElem? (i := 3) rfl))) (mvT hZ (hw _ (List.mem_of_getElem? (i := 4) rfl))) (mvT hZ (hw _ (List.mem_of_getElem? (i := 5) rfl))) (mvT hZ (hw _ (List.mem_of_getElem? (i := 6) rfl))) (by decide) (backOf (W := 2) (own_ch l Z a0 hw [] vv (0 : Int32) sa en oo h1 n0 Zs4 lv l_oo u_oo) hZ (hw _ (List.mem_of_getElem? (i := 6) rfl)) (hw _ (List.mem_of_getElem? (i := 5) rfl)) (by decide) (by decide)) (g := (mkF m 65 #[.val (.int pa), .val (.int pb), .val (.int pc_), .val (.int pd_), .val (.int vv), .val (.int sa), .val (.int ln), .val (.int en), .val (.int oo), .val (.ref b1), .unset, .unset] [(.int oo), (.int en), (.int sa), (.int (0 : Int32)), (.int vv), (.int (0 : Int32)), (.ref b1)])) rfl (by rw [hml]; rfl) (argsL := [(.int vv), (.int (0 : Int32)), (.int sa), (.int en), (.int oo)]) (rest := [(.int (0 : Int32)), (.ref b1)]) (lenOf own_law_pd0 rfl) rfl (by show 2 * 0 + _ ≤ _; exact Nat.le_of_eq rfl) (hb hby at_65) (fun _ _ => ⟨rfl, e1, (by decide : 1 + 0 ≤ _), (by decide : 9 + 0 ≤ _)⟩)
  dsimp only [Pt.U, Pt.locs, Pt.cells, Pt.slots] at X3 l3 y3 z3 st3 hQ3
  obtain rfl : k3 = 1 := y3
  obtain rfl : n3 = 9 := z3
  obtain ⟨rr0, rfl, N3q, R3, P5, P6, P7⟩ := hQ3
  have N3 : Fr n0 L3 := l3 ▸ Fr.app N0 N3q
  refine ownStep (fun _ k => st3 _ k) ?_
  show ownGo p.tables e below (T3.setTop (mkF m 68 #[.val (.int pa), .val (.int pb), .val (.int pc_), .val (.int pd_), .val (.int vv), .val (.int sa), .val (.int ln), .val (.int en), .val (.int oo), .val (.ref b1), .unset, .unset] [(.int rr0), (.int (0 : Int32)), (.ref b1)])) _
  have Vo8 := V1
  obtain ⟨cl8, Ar8, q8, S8, N8, H8, G8⟩ := Vo8
  have hin8 : ¬ ((0 : Int32) < 0 ∨ cl8.slots.size ≤ ((0 : Int32)).toNatClampNeg) := inb_of S8 ⟨by decide, by decide⟩
  obtain ⟨T9, h9, X9, e9, W9, st9⟩ := stC X3 hx hZ R3 Ar8 (j := (0 : Int32)) hin8 (g := (mkF m 68 #[.val (.int pa), .val (.int pb), .val (.int pc_), .val (.int pd_), .val (.int vv), .val (.int sa), .val (.int ln), .val (.int en), .val (.int oo), .val (.ref b1), .unset, .unset] [(.int rr0), (.int (0 : Int32)), (.ref b1)])) rfl rfl (hb hby at_68)
  have N10 := Fr.snoc X9 N3 gn_b1
  have KP11 : Keep h0 h9 [] := KP2.wr W9 (Or.inr gh_b1)
  have V12 : Arv Z h9 b1 k1 .char (9 : Int32) [(.int rr0.toUInt32.toUInt16.toUInt32.toInt32), (.int (0 : Int32)), (.int (0 : Int32)), (.int (0 : Int32)), (.int (0 : Int32)), (.int (0 : Int32)), (.int (0 : Int32)), (.int (0 : Int32)), (.int (0 : Int32))] (.int (0 : Int32)) := Arv.set Ar8 q8 S8 N8 H8 G8 (fits_nar_char _) W9 0 rfl (Nat.le_of_ble_eq_true rfl)
  refine ownStep st9 ?_
  refine ownStep (fun _ k => XS.aload X9.here hx rfl (hb hby at_69) rfl rfl k) ?_
  refine ownStep (fun _ k => XS.iconst X9.here hx rfl (hb hby at_71) k) ?_
  refine ownStep (fun _ k => XS.iload X9.here hx rfl (hb hby at_72) rfl  k) ?_
  refine ownStep (fun _ k => XS.iconst X9.here hx rfl (hb hby at_74) k) ?_
  show ownGo p.tables e below (T9.setTop (mkF m 75 #[.val (.int pa), .val (.int pb), .val (.int pc_), .val (.int pd_), .val (.int vv), .val (.int sa), .val (.int ln), .val (.int en), .val (.int oo), .val (.ref b1), .unset, .unset] [(.int (1 : Int32)), (.int vv), (.int (1 : Int32)), (.ref b1)])) _
  refine ownStep (fun _ k => XS.iload X9.here hx rfl (hb hby at_75) rfl  k) ?_
  refine ownStep (fun _ k => XS.iload X9.here hx rfl (hb hby at_77) rfl  k) ?_
  refine ownStep (fun _ k => XS.iload X9.here hx rfl (hb hby at_79) rfl  k) ?_
  show ownGo p.tables e below (T9.setTop (mkF m 81 #[.val (.int pa), .val (.int pb), .val (.int pc_), .val (.int pd_), .val (.int vv), .val (.int sa), .val (.int ln), .val (.int en), .val (.int oo), .val (.ref b1), .unset, .unset] [(.int oo), (.int en), (.int sa), (.int (1 : Int32)), (.int vv), (.int (1 : Int32)), (.ref b1)])) _
  have Zs14 : n0 ≤ h9.size := Nat.le_trans Z0 KP11.1
  obtain ⟨_, _, ⟨T13, L13, k13, n13⟩, -, X13, ⟨Lc13, hQ13, l13, y13, z13⟩, st13⟩ := Jvm.LawKit.callS X9 hx (y := (⟨"com/example/fixd/fixd/nmea/FieldsDigitsPinLaw", "ch", "(IIIIC)C"⟩ : MethodName)) hown (mvT hZ (hw _ (List.mem_of_getElem? (i := 3) rfl))) (mvT hZ (hw _ (List.mem_of_getElem? (i := 4) rfl))) (mvT hZ (hw _ (List.mem_of_getElem? (i := 5) rfl))) (mvT hZ (hw _ (List.mem_of_getElem? (i := 6) rfl))) (by decide) (backOf (W := 2) (own_ch l Z a0 hw [] vv (1 : Int32) sa en oo h9 n0 Zs14 lv l_oo u_oo) hZ (hw _ (List.mem_of_getElem? (i := 6) rfl)) (hw _ (List.mem_of_getElem? (i := 5) rfl)) (by decide) (by decide)) (g := (mkF m 81 #[.val (.int pa), .val (.int pb), .val (.int pc_), .val (.int pd_), .val (.int vv), .val (.int sa), .val (.int ln), .val (.int en), .val (.int oo), .val (.ref b1), .unset, .unset] [(.int oo), (.int en), (.int sa), (.int (1 : Int32)), (.int vv), (.int (1 : Int32)), (.ref b1)])) rfl (by rw [hml]; rfl) (argsL := [(.int vv), (.int (1 : Int32)), (.int sa), (.int en), (.int oo)]) (rest := [(.int (1 : Int32)), (.ref b1)]) (lenOf own_law_pd0 rfl) rfl (by show 2 * 0 + _ ≤ _; exact Nat.le_of_eq rfl) (hb hby at_81) (fun _ _ => ⟨rfl, e9, (by decide : 1 + 0 ≤ _), (by decide : 9 + 0 ≤ _)⟩)
  dsimp only [Pt.U, Pt.locs, Pt.cells, Pt.slots] at X13 l13 y13 z13 st13 hQ13
  obtain rfl : k13 = 1 := y13
  obtain rfl : n13 = 9 := z13
  obtain ⟨rr1, rfl, N13q, R13, P15, P16, P17⟩ := hQ13
  have N13 : Fr n0 L13 := l13 ▸ Fr.app N10 N13q
  refine ownStep (fun _ k => st13 _ k) ?_
  show ownGo p.tables e below (T13.setTop (mkF m 84 #[.val (.int pa), .val (.int pb), .val (.int pc_), .val (.int pd_), .val (.int vv), .val (.int sa), .val (.int ln), .val (.int en), .val (.int oo), .val (.ref b1), .unset, .unset] [(.int rr1), (.int (1 : Int32)), (.ref b1)])) _
  have Vo18 := V12
  obtain ⟨cl18, Ar18, q18, S18, N18, H18, G18⟩ := Vo18
  have hin18 : ¬ ((1 : Int32) < 0 ∨ cl18.slots.size ≤ ((1 : Int32)).toNatClampNeg) := inb_of S18 ⟨by decide, by decide⟩
  obtain ⟨T19, h19, X19, e19, W19, st19⟩ := stC X13 hx hZ R13 Ar18 (j := (1 : Int32)) hin18 (g := (mkF m 84 #[.val (.int pa), .val (.int pb), .val (.int pc_), .val (.int pd_), .val (.int vv), .val (.int sa), .val (.int ln), .val (.int en), .val (.int oo), .val (.ref b1), .unset, .unset] [(.int rr1), (.int (1 : Int32)), (.ref b1)])) rfl rfl (hb hby at_84)
  have N20 := Fr.snoc X19 N13 gn_b1
  have KP21 : Keep h0 h19 [] := KP11.wr W19 (Or.inr gh_b1)
  have V22 : Arv Z h19 b1 k1 .char (9 : Int32) [(.int rr0.toUInt32.toUInt16.toUInt32.toInt32), (.int rr1.toUInt32.toUInt16.toUInt32.toInt32), (.int (0 : Int32)), (.int (0 : Int32)), (.int (0 : Int32)), (.int (0 : Int32)), (.int (0 : Int32)), (.int (0 : Int32)), (.int (0 : Int32))] (.int (0 : Int32)) := Arv.set Ar18 q18 S18 N18 H18 G18 (fits_nar_char _) W19 1 rfl (Nat.le_of_ble_eq_true rfl)
  refine ownStep st19 ?_
  refine ownStep (fun _ k => XS.aload X19.here hx rfl (hb hby at_85) rfl rfl k) ?_
  refine ownStep (fun _ k => XS.iconst X19.here hx rfl (hb hby at_87) k) ?_
  refine ownStep (fun _ k => XS.iload X19.here hx rfl (hb hby at_88) rfl  k) ?_
  refine ownStep (fun _ k => XS.iconst X19.here hx rfl (hb hby at_90) k) ?_
  show ownGo p.tables e below (T19.setTop (mkF m 91 #[.val (.int pa), .val (.int pb), .val (.int pc_), .val (.int pd_), .val (.int vv), .val (.int sa), .val (.int ln), .val (.int en), .val (.int oo), .val (.ref b1), .unset, .unset] [(.int (2 : Int32)), (.int vv), (.int (2 : Int32)), (.ref b1)])) _
  refine ownStep (fun _ k => XS.iload X19.here hx rfl (hb hby at_91) rfl  k) ?_
  refine ownStep (fun _ k => XS.iload X19.here hx rfl (hb hby at_93) rfl  k) ?_
  refine ownStep (fun _ k => XS.iload X19.here hx rfl (hb hby at_95) rfl  k) ?_
  show ownGo p.tables e below (T19.setTop (mkF m 97 #[.val (.int pa), .val (.int pb), .val (.int pc_), .val (.int pd_), .val (.int vv), .val (.int sa), .val (.int ln), .val (.int en), .val (.int oo), .val (.ref b1), .unset, .unset] [(.int oo), (.int en), (.int sa), (.int (2 : Int32)), (.int vv), (.int (2 : Int32)), (.ref b1)])) _
  have Zs24 : n0 ≤ h19.size := Nat.le_trans Z0 KP21.1
  obtain ⟨_, _, ⟨T23, L23, k23, n23⟩, -, X23, ⟨Lc23, hQ23, l23, y23, z23⟩, st23⟩ := Jvm.LawKit.callS X19 hx (y := (⟨"com/example/fixd/fixd/nmea/FieldsDigitsPinLaw", "ch", "(IIIIC)C"⟩ : MethodName)) hown (mvT hZ (hw _ (List.mem_of_getElem? (i := 3) rfl))) (mvT hZ (hw _ (List.mem_of_getElem? (i := 4) rfl))) (mvT hZ (hw _ (List.mem_of_getElem? (i := 5) rfl))) (mvT hZ (hw _ (List.mem_of_getElem? (i := 6) rfl))) (by decide) (backOf (W := 2) (own_ch l Z a0 hw [] vv (2 : Int32) sa en oo h19 n0 Zs24 lv l_oo u_oo) hZ (hw _ (List.mem_of_getElem? (i := 6) rfl)) (hw _ (List.mem_of_getElem? (i := 5) rfl)) (by decide) (by decide)) (g := (mkF m 97 #[.val (.int pa), .val (.int pb), .val (.int pc_), .val (.int pd_), .val (.int vv), .val (.int sa), .val (.int ln), .val (.int en), .val (.int oo), .val (.ref b1), .unset, .unset] [(.int oo), (.int en), (.int sa), (.int (2 : Int32)), (.int vv), (.int (2 : Int32)), (.ref b1)])) rfl (by rw [hml]; rfl) (argsL := [(.int vv), (.int (2 : Int32)), (.int sa), (.int en), (.int oo)]) (rest := [(.int (2 : Int32)), (.ref b1)]) (lenOf own_law_pd0 rfl) rfl (by show 2 * 0 + _ ≤ _; exact Nat.le_of_eq rfl) (hb hby at_97) (fun _ _ => ⟨rfl, e19, (by decide : 1 + 0 ≤ _), (by decide : 9 + 0 ≤ _)⟩)
  dsimp only [Pt.U, Pt.locs, Pt.cells, Pt.slots] at X23 l23 y23 z23 st23 hQ23
  obtain rfl : k23 = 1 := y23
  obtain rfl : n23 = 9 := z23
  obtain ⟨rr2, rfl, N23q, R23, P25, P26, P27⟩ := hQ23
  have N23 : Fr n0 L23 := l23 ▸ Fr.app N20 N23q
  refine ownStep (fun _ k => st23 _ k) ?_
  show ownGo p.tables e below (T23.setTop (mkF m 100 #[.val (.int pa), .val (.int pb), .val (.int pc_), .val (.int pd_), .val (.int vv), .val (.int sa), .val (.int ln), .val (.int en), .val (.int oo), .val (.ref b1), .unset, .unset] [(.int rr2), (.int (2 : Int32)), (.ref b1)])) _
  have Vo28 := V22
  obtain ⟨cl28, Ar28, q28, S28, N28, H28, G28⟩ := Vo28
  have hin28 : ¬ ((2 : Int32) < 0 ∨ cl28.slots.size ≤ ((2 : Int32)).toNatClampNeg) := inb_of S28 ⟨by decide, by decide⟩
  obtain ⟨T29, h29, X29, e29, W29, st29⟩ := stC X23 hx hZ R23 Ar28 (j := (2 : Int32)) hin28 (g := (mkF m 100 #[.val (.int pa), .val (.int pb), .val (.int pc_), .val (.int pd_), .val (.int vv), .val (.int sa), .val (.int ln), .val (.int en), .val (.int oo), .val (.ref b1), .unset, .unset] [(.int rr2), (.int (2 : Int32)), (.ref b1)])) rfl rfl (hb hby at_100)
  have N30 := Fr.snoc X29 N23 gn_b1
  have KP31 : Keep h0 h29 [] := KP21.wr W29 (Or.inr gh_b1)
  have V32 : Arv Z h29 b1 k1 .char (9 : Int32) [(.int rr0.toUInt32.toUInt16.toUInt32.toInt32), (.int rr1.toUInt32.toUInt16.toUInt32.toInt32), (.int rr2.toUInt32.toUInt16.toUInt32.toInt32), (.int (0 : Int32)), (.int (0 : Int32)), (.int (0 : Int32)), (.int (0 : Int32)), (.int (0 : Int32)), (.int (0 : Int32))] (.int (0 : Int32)) := Arv.set Ar28 q28 S28 N28 H28 G28 (fits_nar_char _) W29 2 rfl (Nat.le_of_ble_eq_true rfl)
  refine ownStep st29 ?_
  refine ownStep (fun _ k => XS.aload X29.here hx rfl (hb hby at_101) rfl rfl k) ?_
  refine ownStep (fun _ k => XS.iconst X29.here hx rfl (hb hby at_103) k) ?_
  refine ownStep (fun _ k => XS.iload X29.here hx rfl (hb hby at_104) rfl  k) ?_
  refine ownStep (fun _ k => XS.iconst X29.here hx rfl (hb hby at_106) k) ?_
  show ownGo p.tables e below (T29.setTop (mkF m 107 #[.val (.int pa), .val (.int pb), .val (.int pc_), .val (.int pd_), .val (.int vv), .val (.int sa), .val (.int ln), .val (.int en), .val (.int oo), .val (.ref b1), .unset, .unset] [(.int (3 : Int32)), (.int vv), (.int (3 : Int32)), (.ref b1)])) _
  refine ownStep (fun _ k => XS.iload X29.here hx rfl (hb hby at_107) rfl  k) ?_
  refine ownStep (fun _ k => XS.iload X29.here hx rfl (hb hby at_109) rfl  k) ?_
  refine ownStep (fun _ k => XS.iload X29.here hx rfl (hb hby at_111) rfl  k) ?_
  show ownGo p.tables e below (T29.setTop (mkF m 113 #[.val (.int pa), .val (.int pb), .val (.int pc_), .val (.int pd_), .val (.int vv), .val (.int sa), .val (.int ln), .val (.int en), .val (.int oo), .val (.ref b1), .unset, .unset] [(.int oo), (.int en), (.int sa), (.int (3 : Int32)), (.int vv), (.int (3 : Int32)), (.ref b1)])) _
  have Zs34 : n0 ≤ h29.size := Nat.le_trans Z0 KP31.1
  obtain ⟨_, _, ⟨T33, L33, k33, n33⟩, -, X33, ⟨Lc33, hQ33, l33, y33, z33⟩, st33⟩ := Jvm.LawKit.callS X29 hx (y := (⟨"com/example/fixd/fixd/nmea/FieldsDigitsPinLaw", "ch", "(IIIIC)C"⟩ : MethodName)) hown (mvT hZ (hw _ (List.mem_of_getElem? (i := 3) rfl))) (mvT hZ (hw _ (List.mem_of_getElem? (i := 4) rfl))) (mvT hZ (hw _ (List.mem_of_getElem? (i := 5) rfl))) (mvT hZ (hw _ (List.mem_of_getElem? (i := 6) rfl))) (by decide) (backOf (W := 2) (own_ch l Z a0 hw [] vv (3 : Int32) sa en oo h29 n0 Zs34 lv l_oo u_oo) hZ (hw _ (List.mem_of_getElem? (i := 6) rfl)) (hw _ (List.mem_of_getElem? (i := 5) rfl)) (by decide) (by decide)) (g := (mkF m 113 #[.val (.int pa), .val (.int pb), .val (.int pc_), .val (.int pd_), .val (.int vv), .val (.int sa), .val (.int ln), .val (.int en), .val (.int oo), .val (.ref b1), .unset, .unset] [(.int oo), (.int en), (.int sa), (.int (3 : Int32)), (.int vv), (.int (3 : Int32)), (.ref b1)])) rfl (by rw [hml]; rfl) (argsL := [(.int vv), (.int (3 : Int32)), (.int sa), (.int en), (.int oo)]) (rest := [(.int (3 : Int32)), (.ref b1)]) (lenOf own_law_pd0 rfl) rfl (by show 2 * 0 + _ ≤ _; exact Nat.le_of_eq rfl) (hb hby at_113) (fun _ _ => ⟨rfl, e29, (by decide : 1 + 0 ≤ _), (by decide : 9 + 0 ≤ _)⟩)
  dsimp only [Pt.U, Pt.locs, Pt.cells, Pt.slots] at X33 l33 y33 z33 st33 hQ33
  obtain rfl : k33 = 1 := y33
  obtain rfl : n33 = 9 := z33
  obtain ⟨rr3, rfl, N33q, R33, P35, P36, P37⟩ := hQ33
  have N33 : Fr n0 L33 := l33 ▸ Fr.app N30 N33q
  refine ownStep (fun _ k => st33 _ k) ?_
  show ownGo p.tables e below (T33.setTop (mkF m 116 #[.val (.int pa), .val (.int pb), .val (.int pc_), .val (.int pd_), .val (.int vv), .val (.int sa), .val (.int ln), .val (.int en), .val (.int oo), .val (.ref b1), .unset, .unset] [(.int rr3), (.int (3 : Int32)), (.ref b1)])) _
  have Vo38 := V32
  obtain ⟨cl38, Ar38, q38, S38, N38, H38, G38⟩ := Vo38
  have hin38 : ¬ ((3 : Int32) < 0 ∨ cl38.slots.size ≤ ((3 : Int32)).toNatClampNeg) := inb_of S38 ⟨by decide, by decide⟩
  obtain ⟨T39, h39, X39, e39, W39, st39⟩ := stC X33 hx hZ R33 Ar38 (j := (3 : Int32)) hin38 (g := (mkF m 116 #[.val (.int pa), .val (.int pb), .val (.int pc_), .val (.int pd_), .val (.int vv), .val (.int sa), .val (.int ln), .val (.int en), .val (.int oo), .val (.ref b1), .unset, .unset] [(.int rr3), (.int (3 : Int32)), (.ref b1)])) rfl rfl (hb hby at_116)
  have N40 := Fr.snoc X39 N33 gn_b1
  have KP41 : Keep h0 h39 [] := KP31.wr W39 (Or.inr gh_b1)
  have V42 : Arv Z h39 b1 k1 .char (9 : Int32) [(.int rr0.toUInt32.toUInt16.toUInt32.toInt32), (.int rr1.toUInt32.toUInt16.toUInt32.toInt32), (.int rr2.toUInt32.toUInt16.toUInt32.toInt32), (.int rr3.toUInt32.toUInt16.toUInt32.toInt32), (.int (0 : Int32)), (.int (0 : Int32)), (.int (0 : Int32)), (.int (0 : Int32)), (.int (0 : Int32))] (.int (0 : Int32)) := Arv.set Ar38 q38 S38 N38 H38 G38 (fits_nar_char _) W39 3 rfl (Nat.le_of_ble_eq_true rfl)
  refine ownStep st39 ?_
  refine ownStep (fun _ k => XS.aload X39.here hx rfl (hb hby at_117) rfl rfl k) ?_
  refine ownStep (fun _ k => XS.iconst X39.here hx rfl (hb hby at_119) k) ?_
  refine ownStep (fun _ k => XS.iload X39.here hx rfl (hb hby at_120) rfl  k) ?_
  refine ownStep (fun _ k => XS.iconst X39.here hx rfl (hb hby at_122) k) ?_
  show ownGo p.tables e below (T39.setTop (mkF m 123 #[.val (.int pa), .val (.int pb), .val (.int pc_), .val (.int pd_), .val (.int vv), .val (.int sa), .val (.int ln), .val (.int en), .val (.int oo), .val (.ref b1), .unset, .unset] [(.int (4 : Int32)), (.int vv), (.int (4 : Int32)), (.ref b1)])) _
  refine ownStep (fun _ k => XS.iload X39.here hx rfl (hb hby at_123) rfl  k) ?_
  refine ownStep (fun _ k => XS.iload X39.here hx rfl (hb hby at_125) rfl  k) ?_
  refine ownStep (fun _ k => XS.iload X39.here hx rfl (hb hby at_127) rfl  k) ?_
  show ownGo p.tables e below (T39.setTop (mkF m 129 #[.val (.int pa), .val (.int pb), .val (.int pc_), .val (.int pd_), .val (.int vv), .val (.int sa), .val (.int ln), .val (.int en), .val (.int oo), .val (.ref b1), .unset, .unset] [(.int oo), (.int en), (.int sa), (.int (4 : Int32)), (.int vv), (.int (4 : Int32)), (.ref b1)])) _
  have Zs44 : n0 ≤ h39.size := Nat.le_trans Z0 KP41.1
  obtain ⟨_, _, ⟨T43, L43, k43, n43⟩, -, X43, ⟨Lc43, hQ43, l43, y43, z43⟩, st43⟩ := Jvm.LawKit.callS X39 hx (y := (⟨"com/example/fixd/fixd/nmea/FieldsDigitsPinLaw", "ch", "(IIIIC)C"⟩ : MethodName)) hown (mvT hZ (hw _ (List.mem_of_getElem? (i := 3) rfl))) (mvT hZ (hw _ (List.mem_of_getElem? (i := 4) rfl))) (mvT hZ (hw _ (List.mem_of_getElem? (i := 5) rfl))) (mvT hZ (hw _ (List.mem_of_getElem? (i := 6) rfl))) (by decide) (backOf (W := 2) (own_ch l Z a0 hw [] vv (4 : Int32) sa en oo h39 n0 Zs44 lv l_oo u_oo) hZ (hw _ (List.mem_of_getElem? (i := 6) rfl)) (hw _ (List.mem_of_getElem? (i := 5) rfl)) (by decide) (by decide)) (g := (mkF m 129 #[.val (.int pa), .val (.int pb), .val (.int pc_), .val (.int pd_), .val (.int vv), .val (.int sa), .val (.int ln), .val (.int en), .val (.int oo), .val (.ref b1), .unset, .unset] [(.int oo), (.int en), (.int sa), (.int (4 : Int32)), (.int vv), (.int (4 : Int32)), (.ref b1)])) rfl (by rw [hml]; rfl) (argsL := [(.int vv), (.int (4 : Int32)), (.int sa), (.int en), (.int oo)]) (rest := [(.int (4 : Int32)), (.ref b1)]) (lenOf own_law_pd0 rfl) rfl (by show 2 * 0 + _ ≤ _; exact Nat.le_of_eq rfl) (hb hby at_129) (fun _ _ => ⟨rfl, e39, (by decide : 1 + 0 ≤ _), (by decide : 9 + 0 ≤ _)⟩)
  dsimp only [Pt.U, Pt.locs, Pt.cells, Pt.slots] at X43 l43 y43 z43 st43 hQ43
  obtain rfl : k43 = 1 := y43
  obtain rfl : n43 = 9 := z43
  obtain ⟨rr4, rfl, N43q, R43, P45, P46, P47⟩ := hQ43
  have N43 : Fr n0 L43 := l43 ▸ Fr.app N40 N43q
  refine ownStep (fun _ k => st43 _ k) ?_
  show ownGo p.tables e below (T43.setTop (mkF m 132 #[.val (.int pa), .val (.int pb), .val (.int pc_), .val (.int pd_), .val (.int vv), .val (.int sa), .val (.int ln), .val (.int en), .val (.int oo), .val (.ref b1), .unset, .unset] [(.int rr4), (.int (4 : Int32)), (.ref b1)])) _
  have Vo48 := V42
  obtain ⟨cl48, Ar48, q48, S48, N48, H48, G48⟩ := Vo48
  have hin48 : ¬ ((4 : Int32) < 0 ∨ cl48.slots.size ≤ ((4 : Int32)).toNatClampNeg) := inb_of S48 ⟨by decide, by decide⟩
  obtain ⟨T49, h49, X49, e49, W49, st49⟩ := stC X43 hx hZ R43 Ar48 (j := (4 : Int32)) hin48 (g := (mkF m 132 #[.val (.int pa), .val (.int pb), .val (.int pc_), .val (.int pd_), .val (.int vv), .val (.int sa), .val (.int ln), .val (.int en), .val (.int oo), .val (.ref b1), .unset, .unset] [(.int rr4), (.int (4 : Int32)), (.ref b1)])) rfl rfl (hb hby at_132)
  have N50 := Fr.snoc X49 N43 gn_b1
  have KP51 : Keep h0 h49 [] := KP41.wr W49 (Or.inr gh_b1)
  have V52 : Arv Z h49 b1 k1 .char (9 : Int32) [(.int rr0.toUInt32.toUInt16.toUInt32.toInt32), (.int rr1.toUInt32.toUInt16.toUInt32.toInt32), (.int rr2.toUInt32.toUInt16.toUInt32.toInt32), (.int rr3.toUInt32.toUInt16.toUInt32.toInt32), (.int rr4.toUInt32.toUInt16.toUInt32.toInt32), (.int (0 : Int32)), (.int (0 : Int32)), (.int (0 : Int32)), (.int (0 : Int32))] (.int (0 : Int32)) := Arv.set Ar48 q48 S48 N48 H48 G48 (fits_nar_char _) W49 4 rfl (Nat.le_of_ble_eq_true rfl)
  refine ownStep st49 ?_
  refine ownStep (fun _ k => XS.aload X49.here hx rfl (hb hby at_133) rfl rfl k) ?_
  refine ownStep (fun _ k => XS.iconst X49.here hx rfl (hb hby at_135) k) ?_
  refine ownStep (fun _ k => XS.iload X49.here hx rfl (hb hby at_136) rfl  k) ?_
  refine ownStep (fun _ k => XS.iconst X49.here hx rfl (hb hby at_138) k) ?_
  show ownGo p.tables e below (T49.setTop (mkF m 139 #[.val (.int pa), .val (.int pb), .val (.int pc_), .val (.int pd_), .val (.int vv), .val (.int sa), .val (.int ln), .val (.int en), .val (.int oo), .val (.ref b1), .unset, .unset] [(.int (5 : Int32)), (.int vv), (.int (5 : Int32)), (.ref b1)])) _
  refine ownStep (fun _ k => XS.iload X49.here hx rfl (hb hby at_139) rfl  k) ?_
  refine ownStep (fun _ k => XS.iload X49.here hx rfl (hb hby at_141) rfl  k) ?_
  refine ownStep (fun _ k => XS.iload X49.here hx rfl (hb hby at_143) rfl  k) ?_
  show ownGo p.tables e below (T49.setTop (mkF m 145 #[.val (.int pa), .val (.int pb), .val (.int pc_), .val (.int pd_), .val (.int vv), .val (.int sa), .val (.int ln), .val (.int en), .val (.int oo), .val (.ref b1), .unset, .unset] [(.int oo), (.int en), (.int sa), (.int (5 : Int32)), (.int vv), (.int (5 : Int32)), (.ref b1)])) _
  have Zs54 : n0 ≤ h49.size := Nat.le_trans Z0 KP51.1
  obtain ⟨_, _, ⟨T53, L53, k53, n53⟩, -, X53, ⟨Lc53, hQ53, l53, y53, z53⟩, st53⟩ := Jvm.LawKit.callS X49 hx (y := (⟨"com/example/fixd/fixd/nmea/FieldsDigitsPinLaw", "ch", "(IIIIC)C"⟩ : MethodName)) hown (mvT hZ (hw _ (List.mem_of_getElem? (i := 3) rfl))) (mvT hZ (hw _ (List.mem_of_getElem? (i := 4) rfl))) (mvT hZ (hw _ (List.mem_of_getElem? (i := 5) rfl))) (mvT hZ (hw _ (List.mem_of_getElem? (i := 6) rfl))) (by decide) (backOf (W := 2) (own_ch l Z a0 hw [] vv (5 : Int32) sa en oo h49 n0 Zs54 lv l_oo u_oo) hZ (hw _ (List.mem_of_getElem? (i := 6) rfl)) (hw _ (List.mem_of_getElem? (i := 5) rfl)) (by decide) (by decide)) (g := (mkF m 145 #[.val (.int pa), .val (.int pb), .val (.int pc_), .val (.int pd_), .val (.int vv), .val (.int sa), .val (.int ln), .val (.int en), .val (.int oo), .val (.ref b1), .unset, .unset] [(.int oo), (.int en), (.int sa), (.int (5 : Int32)), (.int vv), (.int (5 : Int32)), (.ref b1)])) rfl (by rw [hml]; rfl) (argsL := [(.int vv), (.int (5 : Int32)), (.int sa), (.int en), (.int oo)]) (rest := [(.int (5 : Int32)), (.ref b1)]) (lenOf own_law_pd0 rfl) rfl (by show 2 * 0 + _ ≤ _; exact Nat.le_of_eq rfl) (hb hby at_145) (fun _ _ => ⟨rfl, e49, (by decide : 1 + 0 ≤ _), (by decide : 9 + 0 ≤ _)⟩)
  dsimp only [Pt.U, Pt.locs, Pt.cells, Pt.slots] at X53 l53 y53 z53 st53 hQ53
  obtain rfl : k53 = 1 := y53
  obtain rfl : n53 = 9 := z53
  obtain ⟨rr5, rfl, N53q, R53, P55, P56, P57⟩ := hQ53
  have N53 : Fr n0 L53 := l53 ▸ Fr.app N50 N53q
  refine ownStep (fun _ k => st53 _ k) ?_
  show ownGo p.tables e below (T53.setTop (mkF m 148 #[.val (.int pa), .val (.int pb), .val (.int pc_), .val (.int pd_), .val (.int vv), .val (.int sa), .val (.int ln), .val (.int en), .val (.int oo), .val (.ref b1), .unset, .unset] [(.int rr5), (.int (5 : Int32)), (.ref b1)])) _
  have Vo58 := V52
  obtain ⟨cl58, Ar58, q58, S58, N58, H58, G58⟩ := Vo58
  have hin58 : ¬ ((5 : Int32) < 0 ∨ cl58.slots.size ≤ ((5 : Int32)).toNatClampNeg) := inb_of S58 ⟨by decide, by decide⟩
  obtain ⟨T59, h59, X59, e59, W59, st59⟩ := stC X53 hx hZ R53 Ar58 (j := (5 : Int32)) hin58 (g := (mkF m 148 #[.val (.int pa), .val (.int pb), .val (.int pc_), .val (.int pd_), .val (.int vv), .val (.int sa), .val (.int ln), .val (.int en), .val (.int oo), .val (.ref b1), .unset, .unset] [(.int rr5), (.int (5 : Int32)), (.ref b1)])) rfl rfl (hb hby at_148)
  have N60 := Fr.snoc X59 N53 gn_b1
  have KP61 : Keep h0 h59 [] := KP51.wr W59 (Or.inr gh_b1)
  have V62 : Arv Z h59 b1 k1 .char (9 : Int32) [(.int rr0.toUInt32.toUInt16.toUInt32.toInt32), (.int rr1.toUInt32.toUInt16.toUInt32.toInt32), (.int rr2.toUInt32.toUInt16.toUInt32.toInt32), (.int rr3.toUInt32.toUInt16.toUInt32.toInt32), (.int rr4.toUInt32.toUInt16.toUInt32.toInt32), (.int rr5.toUInt32.toUInt16.toUInt32.toInt32), (.int (0 : Int32)), (.int (0 : Int32)), (.int (0 : Int32))] (.int (0 : Int32)) := Arv.set Ar58 q58 S58 N58 H58 G58 (fits_nar_char _) W59 5 rfl (Nat.le_of_ble_eq_true rfl)
  refine ownStep st59 ?_
  refine ownStep (fun _ k => XS.aload X59.here hx rfl (hb hby at_149) rfl rfl k) ?_
  refine ownStep (fun _ k => XS.bipush X59.here hx rfl (hb hby at_151) k) ?_
  refine ownStep (fun _ k => XS.iload X59.here hx rfl (hb hby at_153) rfl  k) ?_
  refine ownStep (fun _ k => XS.bipush X59.here hx rfl (hb hby at_155) k) ?_
  show ownGo p.tables e below (T59.setTop (mkF m 157 #[.val (.int pa), .val (.int pb), .val (.int pc_), .val (.int pd_), .val (.int vv), .val (.int sa), .val (.int ln), .val (.int en), .val (.int oo), .val (.ref b1), .unset, .unset] [(.int (6 : Int32)), (.int vv), (.int (6 : Int32)), (.ref b1)])) _
  refine ownStep (fun _ k => XS.iload X59.here hx rfl (hb hby at_157) rfl  k) ?_
  refine ownStep (fun _ k => XS.iload X59.here hx rfl (hb hby at_159) rfl  k) ?_
  refine ownStep (fun _ k => XS.iload X59.here hx rfl (hb hby at_161) rfl  k) ?_
  show ownGo p.tables e below (T59.setTop (mkF m 163 #[.val (.int pa), .val (.int pb), .val (.int pc_), .val (.int pd_), .val (.int vv), .val (.int sa), .val (.int ln), .val (.int en), .val (.int oo), .val (.ref b1), .unset, .unset] [(.int oo), (.int en), (.int sa), (.int (6 : Int32)), (.int vv), (.int (6 : Int32)), (.ref b1)])) _
  have Zs64 : n0 ≤ h59.size := Nat.le_trans Z0 KP61.1
  obtain ⟨_, _, ⟨T63, L63, k63, n63⟩, -, X63, ⟨Lc63, hQ63, l63, y63, z63⟩, st63⟩ := Jvm.LawKit.callS X59 hx (y := (⟨"com/example/fixd/fixd/nmea/FieldsDigitsPinLaw", "ch", "(IIIIC)C"⟩ : MethodName)) hown (mvT hZ (hw _ (List.mem_of_getElem? (i := 3) rfl))) (mvT hZ (hw _ (List.mem_of_getElem? (i := 4) rfl))) (mvT hZ (hw _ (List.mem_of_getElem? (i := 5) rfl))) (mvT hZ (hw _ (List.mem_of_getElem? (i := 6) rfl))) (by decide) (backOf (W := 2) (own_ch l Z a0 hw [] vv (6 : Int32) sa en oo h59 n0 Zs64 lv l_oo u_oo) hZ (hw _ (List.mem_of_getElem? (i := 6) rfl)) (hw _ (List.mem_of_getElem? (i := 5) rfl)) (by decide) (by decide)) (g := (mkF m 163 #[.val (.int pa), .val (.int pb), .val (.int pc_), .val (.int pd_), .val (.int vv), .val (.int sa), .val (.int ln), .val (.int en), .val (.int oo), .val (.ref b1), .unset, .unset] [(.int oo), (.int en), (.int sa), (.int (6 : Int32)), (.int vv), (.int (6 : Int32)), (.ref b1)])) rfl (by rw [hml]; rfl) (argsL := [(.int vv), (.int (6 : Int32)), (.int sa), (.int en), (.int oo)]) (rest := [(.int (6 : Int32)), (.ref b1)]) (lenOf own_law_pd0 rfl) rfl (by show 2 * 0 + _ ≤ _; exact Nat.le_of_eq rfl) (hb hby at_163) (fun _ _ => ⟨rfl, e59, (by decide : 1 + 0 ≤ _), (by decide : 9 + 0 ≤ _)⟩)
  dsimp only [Pt.U, Pt.locs, Pt.cells, Pt.slots] at X63 l63 y63 z63 st63 hQ63
  obtain rfl : k63 = 1 := y63
  obtain rfl : n63 = 9 := z63
  obtain ⟨rr6, rfl, N63q, R63, P65, P66, P67⟩ := hQ63
  have N63 : Fr n0 L63 := l63 ▸ Fr.app N60 N63q
  refine ownStep (fun _ k => st63 _ k) ?_
  show ownGo p.tables e below (T63.setTop (mkF m 166 #[.val (.int pa), .val (.int pb), .val (.int pc_), .val (.int pd_), .val (.int vv), .val (.int sa), .val (.int ln), .val (.int en), .val (.int oo), .val (.ref b1), .unset, .unset] [(.int rr6), (.int (6 : Int32)), (.ref b1)])) _
  have Vo68 := V62
  obtain ⟨cl68, Ar68, q68, S68, N68, H68, G68⟩ := Vo68
  have hin68 : ¬ ((6 : Int32) < 0 ∨ cl68.slots.size ≤ ((6 : Int32)).toNatClampNeg) := inb_of S68 ⟨by decide, by decide⟩
  obtain ⟨T69, h69, X69, e69, W69, st69⟩ := stC X63 hx hZ R63 Ar68 (j := (6 : Int32)) hin68 (g := (mkF m 166 #[.val (.int pa), .val (.int pb), .val (.int pc_), .val (.int pd_), .val (.int vv), .val (.int sa), .val (.int ln), .val (.int en), .val (.int oo), .val (.ref b1), .unset, .unset] [(.int rr6), (.int (6 : Int32)), (.ref b1)])) rfl rfl (hb hby at_166)
  have N70 := Fr.snoc X69 N63 gn_b1
  have KP71 : Keep h0 h69 [] := KP61.wr W69 (Or.inr gh_b1)
  have V72 : Arv Z h69 b1 k1 .char (9 : Int32) [(.int rr0.toUInt32.toUInt16.toUInt32.toInt32), (.int rr1.toUInt32.toUInt16.toUInt32.toInt32), (.int rr2.toUInt32.toUInt16.toUInt32.toInt32), (.int rr3.toUInt32.toUInt16.toUInt32.toInt32), (.int rr4.toUInt32.toUInt16.toUInt32.toInt32), (.int rr5.toUInt32.toUInt16.toUInt32.toInt32), (.int rr6.toUInt32.toUInt16.toUInt32.toInt32), (.int (0 : Int32)), (.int (0 : Int32))] (.int (0 : Int32)) := Arv.set Ar68 q68 S68 N68 H68 G68 (fits_nar_char _) W69 6 rfl (Nat.le_of_ble_eq_true rfl)
  refine ownStep st69 ?_
  refine ownStep (fun _ k => XS.aload X69.here hx rfl (hb hby at_167) rfl rfl k) ?_
  refine ownStep (fun _ k => XS.bipush X69.here hx rfl (hb hby at_169) k) ?_
  refine ownStep (fun _ k => XS.iload X69.here hx rfl (hb hby at_171) rfl  k) ?_
  refine ownStep (fun _ k => XS.bipush X69.here hx rfl (hb hby at_173) k) ?_
  show ownGo p.tables e below (T69.setTop (mkF m 175 #[.val (.int pa), .val (.int pb), .val (.int pc_), .val (.int pd_), .val (.int vv), .val (.int sa), .val (.int ln), .val (.int en), .val (.int oo), .val (.ref b1), .unset, .unset] [(.int (7 : Int32)), (.int vv), (.int (7 : Int32)), (.ref b1)])) _
  refine ownStep (fun _ k => XS.iload X69.here hx rfl (hb hby at_175) rfl  k) ?_
  refine ownStep (fun _ k => XS.iload X69.here hx rfl (hb hby at_177) rfl  k) ?_
  refine ownStep (fun _ k => XS.iload X69.here hx rfl (hb hby at_179) rfl  k) ?_
  show ownGo p.tables e below (T69.setTop (mkF m 181 #[.val (.int pa), .val (.int pb), .val (.int pc_), .val (.int pd_), .val (.int vv), .val (.int sa), .val (.int ln), .val (.int en), .val (.int oo), .val (.ref b1), .unset, .unset] [(.int oo), (.int en), (.int sa), (.int (7 : Int32)), (.int vv), (.int (7 : Int32)), (.ref b1)])) _
  have Zs74 : n0 ≤ h69.size := Nat.le_trans Z0 KP71.1
  obtain ⟨_, _, ⟨T73, L73, k73, n73⟩, -, X73, ⟨Lc73, hQ73, l73, y73, z73⟩, st73⟩ := Jvm.LawKit.callS X69 hx (y := (⟨"com/example/fixd/fixd/nmea/FieldsDigitsPinLaw", "ch", "(IIIIC)C"⟩ : MethodName)) hown (mvT hZ (hw _ (List.mem_of_getElem? (i := 3) rfl))) (mvT hZ (hw _ (List.mem_of_getElem? (i := 4) rfl))) (mvT hZ (hw _ (List.mem_of_getElem? (i := 5) rfl))) (mvT hZ (hw _ (List.mem_of_getElem? (i := 6) rfl))) (by decide) (backOf (W := 2) (own_ch l Z a0 hw [] vv (7 : Int32) sa en oo h69 n0 Zs74 lv l_oo u_oo) hZ (hw _ (List.mem_of_getElem? (i := 6) rfl)) (hw _ (List.mem_of_getElem? (i := 5) rfl)) (by decide) (by decide)) (g := (mkF m 181 #[.val (.int pa), .val (.int pb), .val (.int pc_), .val (.int pd_), .val (.int vv), .val (.int sa), .val (.int ln), .val (.int en), .val (.int oo), .val (.ref b1), .unset, .unset] [(.int oo), (.int en), (.int sa), (.int (7 : Int32)), (.int vv), (.int (7 : Int32)), (.ref b1)])) rfl (by rw [hml]; rfl) (argsL := [(.int vv), (.int (7 : Int32)), (.int sa), (.int en), (.int oo)]) (rest := [(.int (7 : Int32)), (.ref b1)]) (lenOf own_law_pd0 rfl) rfl (by show 2 * 0 + _ ≤ _; exact Nat.le_of_eq rfl) (hb hby at_181) (fun _ _ => ⟨rfl, e69, (by decide : 1 + 0 ≤ _), (by decide : 9 + 0 ≤ _)⟩)
  dsimp only [Pt.U, Pt.locs, Pt.cells, Pt.slots] at X73 l73 y73 z73 st73 hQ73
  obtain rfl : k73 = 1 := y73
  obtain rfl : n73 = 9 := z73
  obtain ⟨rr7, rfl, N73q, R73, P75, P76, P77⟩ := hQ73
  have N73 : Fr n0 L73 := l73 ▸ Fr.app N70 N73q
  refine ownStep (fun _ k => st73 _ k) ?_
  show ownGo p.tables e below (T73.setTop (mkF m 184 #[.val (.int pa), .val (.int pb), .val (.int pc_), .val (.int pd_), .val (.int vv), .val (.int sa), .val (.int ln), .val (.int en), .val (.int oo), .val (.ref b1), .unset, .unset] [(.int rr7), (.int (7 : Int32)), (.ref b1)])) _
  have Vo78 := V72
  obtain ⟨cl78, Ar78, q78, S78, N78, H78, G78⟩ := Vo78
  have hin78 : ¬ ((7 : Int32) < 0 ∨ cl78.slots.size ≤ ((7 : Int32)).toNatClampNeg) := inb_of S78 ⟨by decide, by decide⟩
  obtain ⟨T79, h79, X79, e79, W79, st79⟩ := stC X73 hx hZ R73 Ar78 (j := (7 : Int32)) hin78 (g := (mkF m 184 #[.val (.int pa), .val (.int pb), .val (.int pc_), .val (.int pd_), .val (.int vv), .val (.int sa), .val (.int ln), .val (.int en), .val (.int oo), .val (.ref b1), .unset, .unset] [(.int rr7), (.int (7 : Int32)), (.ref b1)])) rfl rfl (hb hby at_184)
  have N80 := Fr.snoc X79 N73 gn_b1
  have KP81 : Keep h0 h79 [] := KP71.wr W79 (Or.inr gh_b1)
  have V82 : Arv Z h79 b1 k1 .char (9 : Int32) [(.int rr0.toUInt32.toUInt16.toUInt32.toInt32), (.int rr1.toUInt32.toUInt16.toUInt32.toInt32), (.int rr2.toUInt32.toUInt16.toUInt32.toInt32), (.int rr3.toUInt32.toUInt16.toUInt32.toInt32), (.int rr4.toUInt32.toUInt16.toUInt32.toInt32), (.int rr5.toUInt32.toUInt16.toUInt32.toInt32), (.int rr6.toUInt32.toUInt16.toUInt32.toInt32), (.int rr7.toUInt32.toUInt16.toUInt32.toInt32), (.int (0 : Int32))] (.int (0 : Int32)) := Arv.set Ar78 q78 S78 N78 H78 G78 (fits_nar_char _) W79 7 rfl (Nat.le_of_ble_eq_true rfl)
  refine ownStep st79 ?_
  refine ownStep (fun _ k => XS.aload X79.here hx rfl (hb hby at_185) rfl rfl k) ?_
  refine ownStep (fun _ k => XS.bipush X79.here hx rfl (hb hby at_187) k) ?_
  refine ownStep (fun _ k => XS.iload X79.here hx rfl (hb hby at_189) rfl  k) ?_
  refine ownStep (fun _ k => XS.bipush X79.here hx rfl (hb hby at_191) k) ?_
  show ownGo p.tables e below (T79.setTop (mkF m 193 #[.val (.int pa), .val (.int pb), .val (.int pc_), .val (.int pd_), .val (.int vv), .val (.int sa), .val (.int ln), .val (.int en), .val (.int oo), .val (.ref b1), .unset, .unset] [(.int (8 : Int32)), (.int vv), (.int (8 : Int32)), (.ref b1)])) _
  refine ownStep (fun _ k => XS.iload X79.here hx rfl (hb hby at_193) rfl  k) ?_
  refine ownStep (fun _ k => XS.iload X79.here hx rfl (hb hby at_195) rfl  k) ?_
  refine ownStep (fun _ k => XS.iload X79.here hx rfl (hb hby at_197) rfl  k) ?_
  show ownGo p.tables e below (T79.setTop (mkF m 199 #[.val (.int pa), .val (.int pb), .val (.int pc_), .val (.int pd_), .val (.int vv), .val (.int sa), .val (.int ln), .val (.int en), .val (.int oo), .val (.ref b1), .unset, .unset] [(.int oo), (.int en), (.int sa), (.int (8 : Int32)), (.int vv), (.int (8 : Int32)), (.ref b1)])) _
  have Zs84 : n0 ≤ h79.size := Nat.le_trans Z0 KP81.1
  obtain ⟨_, _, ⟨T83, L83, k83, n83⟩, -, X83, ⟨Lc83, hQ83, l83, y83, z83⟩, st83⟩ := Jvm.LawKit.callS X79 hx (y := (⟨"com/example/fixd/fixd/nmea/FieldsDigitsPinLaw", "ch", "(IIIIC)C"⟩ : MethodName)) hown (mvT hZ (hw _ (List.mem_of_getElem? (i := 3) rfl))) (mvT hZ (hw _ (List.mem_of_getElem? (i := 4) rfl))) (mvT hZ (hw _ (List.mem_of_getElem? (i := 5) rfl))) (mvT hZ (hw _ (List.mem_of_getElem? (i := 6) rfl))) (by decide) (backOf (W := 2) (own_ch l Z a0 hw [] vv (8 : Int32) sa en oo h79 n0 Zs84 lv l_oo u_oo) hZ (hw _ (List.mem_of_getElem? (i := 6) rfl)) (hw _ (List.mem_of_getElem? (i := 5) rfl)) (by decide) (by decide)) (g := (mkF m 199 #[.val (.int pa), .val (.int pb), .val (.int pc_), .val (.int pd_), .val (.int vv), .val (.int sa), .val (.int ln), .val (.int en), .val (.int oo), .val (.ref b1), .unset, .unset] [(.int oo), (.int en), (.int sa), (.int (8 : Int32)), (.int vv), (.int (8 : Int32)), (.ref b1)])) rfl (by rw [hml]; rfl) (argsL := [(.int vv), (.int (8 : Int32)), (.int sa), (.int en), (.int oo)]) (rest := [(.int (8 : Int32)), (.ref b1)]) (lenOf own_law_pd0 rfl) rfl (by show 2 * 0 + _ ≤ _; exact Nat.le_of_eq rfl) (hb hby at_199) (fun _ _ => ⟨rfl, e79, (by decide : 1 + 0 ≤ _), (by decide : 9 + 0 ≤ _)⟩)
  dsimp only [Pt.U, Pt.locs, Pt.cells, Pt.slots] at X83 l83 y83 z83 st83 hQ83
  obtain rfl : k83 = 1 := y83
  obtain rfl : n83 = 9 := z83
  obtain ⟨rr8, rfl, N83q, R83, P85, P86, P87⟩ := hQ83
  have N83 : Fr n0 L83 := l83 ▸ Fr.app N80 N83q
  refine ownStep (fun _ k => st83 _ k) ?_
  show ownGo p.tables e below (T83.setTop (mkF m 202 #[.val (.int pa), .val (.int pb), .val (.int pc_), .val (.int pd_), .val (.int vv), .val (.int sa), .val (.int ln), .val (.int en), .val (.int oo), .val (.ref b1), .unset, .unset] [(.int rr8), (.int (8 : Int32)), (.ref b1)])) _
  have Vo88 := V82
  obtain ⟨cl88, Ar88, q88, S88, N88, H88, G88⟩ := Vo88
  have hin88 : ¬ ((8 : Int32) < 0 ∨ cl88.slots.size ≤ ((8 : Int32)).toNatClampNeg) := inb_of S88 ⟨by decide, by decide⟩
  obtain ⟨T89, h89, X89, e89, W89, st89⟩ := stC X83 hx hZ R83 Ar88 (j := (8 : Int32)) hin88 (g := (mkF m 202 #[.val (.int pa), .val (.int pb), .val (.int pc_), .val (.int pd_), .val (.int vv), .val (.int sa), .val (.int ln), .val (.int en), .val (.int oo), .val (.ref b1), .unset, .unset] [(.int rr8), (.int (8 : Int32)), (.ref b1)])) rfl rfl (hb hby at_202)
  have N90 := Fr.snoc X89 N83 gn_b1
  have KP91 : Keep h0 h89 [] := KP81.wr W89 (Or.inr gh_b1)
  have V92 : Arv Z h89 b1 k1 .char (9 : Int32) [(.int rr0.toUInt32.toUInt16.toUInt32.toInt32), (.int rr1.toUInt32.toUInt16.toUInt32.toInt32), (.int rr2.toUInt32.toUInt16.toUInt32.toInt32), (.int rr3.toUInt32.toUInt16.toUInt32.toInt32), (.int rr4.toUInt32.toUInt16.toUInt32.toInt32), (.int rr5.toUInt32.toUInt16.toUInt32.toInt32), (.int rr6.toUInt32.toUInt16.toUInt32.toInt32), (.int rr7.toUInt32.toUInt16.toUInt32.toInt32), (.int rr8.toUInt32.toUInt16.toUInt32.toInt32)] (.int (0 : Int32)) := Arv.set Ar88 q88 S88 N88 H88 G88 (fits_nar_char _) W89 8 rfl (Nat.le_of_ble_eq_true rfl)
  refine ownStep st89 ?_
  show ownGo p.tables e below (T89.setTop (mkF m 203 #[.val (.int pa), .val (.int pb), .val (.int pc_), .val (.int pd_), .val (.int vv), .val (.int sa), .val (.int ln), .val (.int en), .val (.int oo), .val (.ref b1), .unset, .unset] [])) _
  obtain ⟨T93, h93, X93, e93, E93, A93, D93, U93, st93⟩ := newO X89 hx hZ hown (hw _ (List.mem_of_getElem? (i := 11) rfl)) (hw _ (List.mem_of_getElem? (i := 12) rfl)) (hw _ (List.mem_of_getElem? (i := 13) rfl)) e89 (g := (mkF m 203 #[.val (.int pa), .val (.int pb), .val (.int pc_), .val (.int pd_), .val (.int vv), .val (.int sa), .val (.int ln), .val (.int en), .val (.int oo), .val (.ref b1), .unset, .unset] [])) rfl (hb hby at_203) (by decide) (by decide)
  obtain ⟨b93, g93⟩ : ∃ z, z = h89.size := ⟨_, rfl⟩
  rw [← g93] at A93 D93 U93 st93
  have gh_b93 : h0.size ≤ b93 := Nat.le_trans KP91.1 (Nat.le_of_eq g93.symm)
  have gn_b93 : n0 ≤ b93 := Nat.le_trans Z0 gh_b93
  have KP94 : Keep h0 h93 [] := KP91.ext E93
  have F95 : Fld Z h93 b93 "java/lang/String" "coder" "B" (.int (0 : Int32)) := D93 (Or.inr (hw _ (List.mem_of_getElem? (i := 37) rfl))) (ty := .byte) (by decide)
  have F96 : Fld Z h93 b93 "java/lang/String" "value" "[B" .null := D93 (Or.inr (hw _ (List.mem_of_getElem? (i := 39) rfl))) (ty := (.array .byte)) (by decide)
  refine ownStep st93 ?_
  refine ownStep (fun _ k => XS.dup X93.here hx rfl (hb hby at_206) rfl rfl k) ?_
  refine ownStep (fun _ k => XS.aload X93.here hx rfl (hb hby at_207) rfl rfl k) ?_
  show ownGo p.tables e below (T93.setTop (mkF m 209 #[.val (.int pa), .val (.int pb), .val (.int pc_), .val (.int pd_), .val (.int vv), .val (.int sa), .val (.int ln), .val (.int en), .val (.int oo), .val (.ref b1), .unset, .unset] [(.ref b1), (.ref b93), (.ref b93)])) _
  have Q97 : Arv Z h93 b1 k1 .char (9 : Int32) [(.int rr0.toUInt32.toUInt16.toUInt32.toInt32), (.int rr1.toUInt32.toUInt16.toUInt32.toInt32), (.int rr2.toUInt32.toUInt16.toUInt32.toInt32), (.int rr3.toUInt32.toUInt16.toUInt32.toInt32), (.int rr4.toUInt32.toUInt16.toUInt32.toInt32), (.int rr5.toUInt32.toUInt16.toUInt32.toInt32), (.int rr6.toUInt32.toUInt16.toUInt32.toInt32), (.int rr7.toUInt32.toUInt16.toUInt32.toInt32), (.int rr8.toUInt32.toUInt16.toUInt32.toInt32)] (.int (0 : Int32)) := (V92.ext E93)
  have V98 : Arv Z h93 b1 k1 .char (9 : Int32) [(.int rr0), (.int rr1), (.int rr2), (.int rr3), (.int rr4), (.int rr5), (.int rr6), (.int rr7), (.int rr8)] (.int (0 : Int32)) := by have q := Q97; rw [own_nc P5 P6, own_nc P15 P16, own_nc P25 P26, own_nc P35 P36, own_nc P45 P46, own_nc P55 P56, own_nc P65 P66, own_nc P75 P76, own_nc P85 P86] at q; exact q
  have Q99 : Old Z n0 h93 := (((((((((((hOld.ext E1).wr W9 gn_b1).wr W19 gn_b1).wr W29 gn_b1).wr W39 gn_b1).wr W49 gn_b1).wr W59 gn_b1).wr W69 gn_b1).wr W79 gn_b1).wr W89 gn_b1).ext E93)
  have Q100 : Sta Z h93 "java/lang/String" "COMPACT_STRINGS" "Z" (.int zc) := Scs.ext Q99.2
  have Zs101 : n0 ≤ h93.size := Nat.le_trans Z0 KP94.1
  obtain ⟨_, _, ⟨T102, L102, k102, n102⟩, -, X102, ⟨Lc102, hQ102, l102, y102, z102⟩, st102⟩ := X93.specialBack hx (y := (⟨"java/lang/String", "<init>", "([C)V"⟩ : MethodName)) rfl hown (mvT hZ (hw _ (List.mem_of_getElem? (i := 14) rfl))) (mvT hZ (hw _ (List.mem_of_getElem? (i := 15) rfl))) (mvT hZ (hw _ (List.mem_of_getElem? (i := 16) rfl))) (by decide) (StrChars.Road.backV (W := 1) hZ (fun d hd => hw d ((by decide +kernel : ∀ d ∈ StrChars.Road.words, d ∈ tables_1) d hd)) (kI := 4) (hw _ (List.mem_of_getElem? (i := 12) rfl)) (cs := ([rr0, rr1, rr2, rr3, rr4, rr5, rr6, rr7, rr8] : List Int32)) (bs := ([rr0, rr1, rr2, rr3, rr4, rr5, rr6, rr7, rr8] : List Int32).map (fun c => c.toInt8.toInt32)) (n := 9) gn_b93 Zs101 A93 F96 F95 V98 Q100 hzc rfl rfl (by decide) (by decide) (own_ccons ⟨P5, P6⟩ (own_ccons ⟨P15, P16⟩ (own_ccons ⟨P25, P26⟩ (own_ccons ⟨P35, P36⟩ (own_ccons ⟨P45, P46⟩ (own_ccons ⟨P55, P56⟩ (own_ccons ⟨P65, P66⟩ (own_ccons ⟨P75, P76⟩ (own_ccons ⟨P85, P86⟩ own_cnil))))))))) rfl (by decide) (by decide)) (g := (mkF m 209 #[.val (.int pa), .val (.int pb), .val (.int pc_), .val (.int pd_), .val (.int vv), .val (.int sa), .val (.int ln), .val (.int en), .val (.int oo), .val (.ref b1), .unset, .unset] [(.ref b1), (.ref b93), (.ref b93)])) rfl (by rw [hml]; rfl) (Steps.refl _) (a := b93) (argsL := [(.ref b1)]) (rest := [(.ref b93)]) (lenOf own_law_pd1 rfl) rfl (by show 2 * 0 + _ ≤ _; exact Nat.le_of_eq rfl) (hb hby at_209) (fun _ _ => ⟨rfl, e93, (by decide : 2 + 1 ≤ _), (by decide : 13 + 9 ≤ _)⟩)
  dsimp only [Pt.U, Pt.locs, Pt.cells, Pt.slots] at X102 l102 y102 z102 st102 hQ102
  obtain rfl : k102 = 3 := y102
  obtain rfl : n102 = 22 := z102
  obtain ⟨rfl, N102q, R102, E102s, C102s, t102, kb102, gg102, gs102, gt102, V102s, A102s⟩ := hQ102
  have N102 : Fr n0 L102 := l102 ▸ Fr.app N90 N102q
  refine ownStep (fun _ k => st102.trans k) ?_
  have gh_t102 : h0.size ≤ t102 := Nat.le_trans KP94.1 gs102
  have gn_t102 : n0 ≤ t102 := gg102
  have KP103 : Keep h0 T102.heap [] := KP94.trans R102 (allS (Or.inr gh_b93) all0)
  have B102s : Arv Z T102.heap t102 kb102 .byte (9 : Int32) [(.int rr0.toInt8.toInt32), (.int rr1.toInt8.toInt32), (.int rr2.toInt8.toInt32), (.int rr3.toInt8.toInt32), (.int rr4.toInt8.toInt32), (.int rr5.toInt8.toInt32), (.int rr6.toInt8.toInt32), (.int rr7.toInt8.toInt32), (.int rr8.toInt8.toInt32)] (.int (0 : Int32)) := A102s
  refine ownStep (fun _ k => XS.astore X102.here hx rfl (hb hby at_212) rfl rfl (l' := #[.val (.int pa), .val (.int pb), .val (.int pc_), .val (.int pd_), .val (.int vv), .val (.int sa), .val (.int ln), .val (.int en), .val (.int oo), .val (.ref b1), .val (.ref b93), .unset]) rfl k) ?_
  refine ownStep (fun _ k => XS.iload X102.here hx rfl (hb hby at_214) rfl  k) ?_
  refine ownStep (fun _ k => XS.bipush X102.here hx rfl (hb hby at_216) k) ?_
  refine ownStep (fun _ k => XS.iload X102.here hx rfl (hb hby at_218) rfl  k) ?_
  show ownGo p.tables e below (T102.setTop (mkF m 220 #[.val (.int pa), .val (.int pb), .val (.int pc_), .val (.int pd_), .val (.int vv), .val (.int sa), .val (.int ln), .val (.int en), .val (.int oo), .val (.ref b1), .val (.ref b93), .unset] [(.int en), (.int (9 : Int32)), (.int vv)])) _
  refine ownStep (fun _ k => XS.isub X102.here hx rfl (hb hby at_220) rfl k) ?_
  show ownGo p.tables e below (T102.setTop (mkF m 221 #[.val (.int pa), .val (.int pb), .val (.int pc_), .val (.int pd_), .val (.int vv), .val (.int sa), .val (.int ln), .val (.int en), .val (.int oo), .val (.ref b1), .val (.ref b93), .unset] [(.int ((9 : Int32) - en)), (.int vv)])) _
  have Zs105 : n0 ≤ T102.heap.size := Nat.le_trans Z0 KP103.1
  obtain ⟨_, _, ⟨T104, L104, k104, n104⟩, -, X104, ⟨Lc104, hQ104, l104, y104, z104⟩, st104⟩ := Jvm.LawKit.callS X102 hx (y := (⟨"com/example/fixd/fixd/nmea/FieldsDigitsPinLaw", "pow10", "(I)I"⟩ : MethodName)) hown (mvT hZ (hw _ (List.mem_of_getElem? (i := 7) rfl))) (mvT hZ (hw _ (List.mem_of_getElem? (i := 8) rfl))) (mvT hZ (hw _ (List.mem_of_getElem? (i := 5) rfl))) (mvT hZ (hw _ (List.mem_of_getElem? (i := 9) rfl))) (by decide) (backOf (W := 1) (own_p10 l Z a0 hw [] ((9 : Int32) - en) T102.heap n0 Zs105 ) hZ (hw _ (List.mem_of_getElem? (i := 9) rfl)) (hw _ (List.mem_of_getElem? (i := 5) rfl)) (by decide) (by decide)) (g := (mkF m 221 #[.val (.int pa), .val (.int pb), .val (.int pc_), .val (.int pd_), .val (.int vv), .val (.int sa), .val (.int ln), .val (.int en), .val (.int oo), .val (.ref b1), .val (.ref b93), .unset] [(.int ((9 : Int32) - en)), (.int vv)])) rfl (by rw [hml]; rfl) (argsL := [(.int ((9 : Int32) - en))]) (rest := [(.int vv)]) (lenOf own_law_pd2 rfl) rfl (by show 2 * 0 + _ ≤ _; exact Nat.le_of_eq rfl) (hb hby at_221) (fun _ _ => ⟨rfl, rfl, (by decide : 3 + 0 ≤ _), (by decide : 22 + 0 ≤ _)⟩)
  dsimp only [Pt.U, Pt.locs, Pt.cells, Pt.slots] at X104 l104 y104 z104 st104 hQ104
  obtain rfl : k104 = 3 := y104
  obtain rfl : n104 = 22 := z104
  obtain ⟨rfl, N104q, R104⟩ := hQ104
  have N104 : Fr n0 L104 := l104 ▸ Fr.app N102 N104q
  refine ownStep (fun _ k => st104 _ k) ?_
  refine ownStep (fun _ k => XS.idiv X104.here hx rfl (hb hby at_224) rfl (own_pow_ne _) k) ?_
  refine ownStep (fun _ k => XS.iload X104.here hx rfl (hb hby at_225) rfl  k) ?_
  show ownGo p.tables e below (T104.setTop (mkF m 227 #[.val (.int pa), .val (.int pb), .val (.int pc_), .val (.int pd_), .val (.int vv), .val (.int sa), .val (.int ln), .val (.int en), .val (.int oo), .val (.ref b1), .val (.ref b93), .unset] [(.int ln), (.int (vv / (own_pow ((9 : Int32) - en))))])) _
  have Zs107 : n0 ≤ T102.heap.size := Nat.le_trans Z0 KP103.1
  obtain ⟨_, _, ⟨T106, L106, k106, n106⟩, -, X106, ⟨Lc106, hQ106, l106, y106, z106⟩, st106⟩ := Jvm.LawKit.callS X104 hx (y := (⟨"com/example/fixd/fixd/nmea/FieldsDigitsPinLaw", "pow10", "(I)I"⟩ : MethodName)) hown (mvT hZ (hw _ (List.mem_of_getElem? (i := 7) rfl))) (mvT hZ (hw _ (List.mem_of_getElem? (i := 8) rfl))) (mvT hZ (hw _ (List.mem_of_getElem? (i := 5) rfl))) (mvT hZ (hw _ (List.mem_of_getElem? (i := 9) rfl))) (by decide) (backOf (W := 1) (own_p10 l Z a0 hw [] ln T102.heap n0 Zs107 ) hZ (hw _ (List.mem_of_getElem? (i := 9) rfl)) (hw _ (List.mem_of_getElem? (i := 5) rfl)) (by decide) (by decide)) (g := (mkF m 227 #[.val (.int pa), .val (.int pb), .val (.int pc_), .val (.int pd_), .val (.int vv), .val (.int sa), .val (.int ln), .val (.int en), .val (.int oo), .val (.ref b1), .val (.ref b93), .unset] [(.int ln), (.int (vv / (own_pow ((9 : Int32) - en))))])) rfl (by rw [hml]; rfl) (argsL := [(.int ln)]) (rest := [(.int (vv / (own_pow ((9 : Int32) - en))))]) (lenOf own_law_pd2 rfl) rfl (by show 2 * 0 + _ ≤ _; exact Nat.le_of_eq rfl) (hb hby at_227) (fun _ _ => ⟨rfl, R104, (by decide : 3 + 0 ≤ _), (by decide : 22 + 0 ≤ _)⟩)
  dsimp only [Pt.U, Pt.locs, Pt.cells, Pt.slots] at X106 l106 y106 z106 st106 hQ106
  obtain rfl : k106 = 3 := y106
  obtain rfl : n106 = 22 := z106
  obtain ⟨rfl, N106q, R106⟩ := hQ106
  have N106 : Fr n0 L106 := l106 ▸ Fr.app N104 N106q
  refine ownStep (fun _ k => st106 _ k) ?_
  show ownGo p.tables e below (T106.setTop (mkF m 230 #[.val (.int pa), .val (.int pb), .val (.int pc_), .val (.int pd_), .val (.int vv), .val (.int sa), .val (.int ln), .val (.int en), .val (.int oo), .val (.ref b1), .val (.ref b93), .unset] [(.int (own_pow ln)), (.int (vv / (own_pow ((9 : Int32) - en))))])) _
  refine ownStep (fun _ k => iremM X106 hx rfl (hb hby at_230) rfl (own_pow_ne _) k) ?_
  refine ownStep (fun _ k => XS.istore X106.here hx rfl (hb hby at_231) rfl (l' := #[.val (.int pa), .val (.int pb), .val (.int pc_), .val (.int pd_), .val (.int vv), .val (.int sa), .val (.int ln), .val (.int en), .val (.int oo), .val (.ref b1), .val (.ref b93), .val (.int ((vv / (own_pow ((9 : Int32) - en))) % (own_pow ln)))]) rfl k) ?_
  refine ownStep (fun _ k => XS.aload X106.here hx rfl (hb hby at_233) rfl rfl k) ?_
  refine ownStep (fun _ k => XS.iload X106.here hx rfl (hb hby at_235) rfl  k) ?_
  refine ownStep (fun _ k => XS.iload X106.here hx rfl (hb hby at_237) rfl  k) ?_
  show ownGo p.tables e below (T106.setTop (mkF m 239 #[.val (.int pa), .val (.int pb), .val (.int pc_), .val (.int pd_), .val (.int vv), .val (.int sa), .val (.int ln), .val (.int en), .val (.int oo), .val (.ref b1), .val (.ref b93), .val (.int ((vv / (own_pow ((9 : Int32) - en))) % (own_pow ln)))] [(.int en), (.int sa), (.ref b93)])) _
  have hsel := own_hsel ls hen P7 P17 P27 P37 P47 P57 P67 P77 P87
  have hall := own_hall lv ls hen hsel
  have Q108 : Old Z n0 T102.heap := (Q99.keep R102 (allS gn_b93 all0))
  have Q109 : Exa Z T102.heap b93 "java/lang/String" := (A93.keep R102)
  have Zs111 : n0 ≤ T102.heap.size := Nat.le_trans Z0 KP103.1
  obtain ⟨_, _, ⟨T110, L110, k110, n110⟩, -, X110, ⟨Lc110, hQ110, l110, y110, z110⟩, st110⟩ := Jvm.LawKit.callS X106 hx (y := (⟨"com/example/fixd/fixd/nmea/Fields", "digits", "(Ljava/lang/String;II)I"⟩ : MethodName)) hown (mvT hZ (hw _ (List.mem_of_getElem? (i := 40) rfl))) (mvT hZ (hw _ (List.mem_of_getElem? (i := 41) rfl))) (mvT hZ (hw _ (List.mem_of_getElem? (i := 42) rfl))) (mvT hZ (hw _ (List.mem_of_getElem? (i := 43) rfl))) (by decide) (backOf (W := 0) (own_digits l Z a0 hw [] zc fm b93 t102 kb102 rr0 rr1 rr2 rr3 rr4 rr5 rr6 rr7 rr8 sa en vv T102.heap n0 Zs111 Q108 Scs hzc Sfm hfm Q109 C102s V102s B102s P5 P6 P15 P16 P25 P26 P35 P36 P45 P46 P55 P56 P65 P66 P75 P76 P85 P86 hse hall hsel lv ls hen) hZ (hw _ (List.mem_of_getElem? (i := 43) rfl)) (hw _ (List.mem_of_getElem? (i := 42) rfl)) (by decide) (by decide)) (g := (mkF m 239 #[.val (.int pa), .val (.int pb), .val (.int pc_), .val (.int pd_), .val (.int vv), .val (.int sa), .val (.int ln), .val (.int en), .val (.int oo), .val (.ref b1), .val (.ref b93), .val (.int ((vv / (own_pow ((9 : Int32) - en))) % (own_pow ln)))] [(.int en), (.int sa), (.ref b93)])) rfl (by rw [hml]; rfl) (argsL := [(.ref b93), (.int sa), (.int en)]) (rest := []) (lenOf own_law_pd3 rfl) rfl (by show 2 * 0 + _ ≤ _; exact Nat.le_of_eq rfl) (hb hby at_239) (fun _ _ => ⟨rfl, R106, (by decide : 3 + 0 ≤ _), (by decide : 22 + 0 ≤ _)⟩)
  dsimp only [Pt.U, Pt.locs, Pt.cells, Pt.slots] at X110 l110 y110 z110 st110 hQ110
  obtain rfl : k110 = 3 := y110
  obtain rfl : n110 = 22 := z110
  obtain ⟨wo, rfl, N110q, R110, P112⟩ := hQ110
  have N110 : Fr n0 L110 := l110 ▸ Fr.app N106 N110q
  refine ownStep (fun _ k => st110 _ k) ?_
  refine ownStep (fun _ k => XS.iload X110.here hx rfl (hb hby at_242) rfl  k) ?_
  refine ownStep (fun _ k => XS.icmpNo X110.here hx rfl (hb hby at_244) rfl (teq ((own_fin lv ls l1 he hen P112) : wo = ((vv / (own_pow ((9 : Int32) - en))) % (own_pow ln)))).2 k) ?_
  refine ownStep (fun _ k => XS.iconst X110.here hx rfl (hb hby at_247) k) ?_
  refine ownStep (fun _ k => XS.goto X110.here hx rfl (pc0 := 248) (pc' := 252) rfl (hb hby at_248) (by decide) (by decide) k) ?_
  show ownGo p.tables e below (T110.setTop (mkF m 252 #[.val (.int pa), .val (.int pb), .val (.int pc_), .val (.int pd_), .val (.int vv), .val (.int sa), .val (.int ln), .val (.int en), .val (.int oo), .val (.ref b1), .val (.ref b93), .val (.int ((vv / (own_pow ((9 : Int32) - en))) % (own_pow ln)))] [(.int (1 : Int32))])) _
  exact ownRet X110 (v := some (.int (1 : Int32))) Bd.notSynchronized (fun h => by rw [Bd.returns] at h; cases h) (fun _ hr => retN X110 hx (t := .boolean) Bd.returns (by simp) (hb hby at_252) hr) (by rw [R110]; exact ⟨rfl, N110, (own_extOf KP103)⟩) (by decide) (by decide)
set_option maxRecDepth 65536 in
set_option maxHeartbeats 40000000 in
theorem comes_1 {Post : Tables → Env → Array Value → State → Outcome → State → Prop} (hpost : ∀ tb e args s v u, (limb_1_1.after args s (.returned v) u = true ∧ limb_1_2.after args s (.returned v) u = true ∧ True) → FrameEnd s (.returned v) u (Jvm.fieldLocs frame_1_writes args s ++ Jvm.arrayLocs frame_1_arrays args s ++ Jvm.staticLocs frame_1_statics s) 16 128 → Post tb e args s (.returned v) u) :
    ArmFor flags0 classFile x code maxLocals ret World_1 tables_1 room_1 Calls_1 rest_1 Pre_1 Post := by
  intro l hfl _ _ p e ha hc hk s m args below hf hA hF happ hP
  obtain ⟨hcalls, hrest, hpre⟩ := hP
  obtain ⟨-, -, -, hnamed, -, -, -, hat⟩ := (Spec.applies_iff hf).mp happ
  obtain ⟨hg, hn⟩ := and_e (Cond.before_iff.mp (show (Jvm.Cond.and given_1 narrow_1).before args s = true from hpre))
  obtain ⟨g1, g2⟩ := and_e hg
  obtain ⟨g3, g4⟩ := and_e g2
  obtain ⟨g5, g6⟩ := and_e g4
  obtain ⟨g7, g8⟩ := and_e g6
  obtain ⟨w0, w1, w2, w3, rfl⟩ : ∃ w0 w1 w2 w3 : Value, args = #[w0, w1, w2, w3] := by
    have hs : args.size = 4 := by simpa [Cond.value, given_1] using g1
    obtain ⟨L⟩ := args
    match L, hs with
    | [w0, w1, w2, w3], _ => exact ⟨w0, w1, w2, w3, rfl⟩
  have hw := fun d (hd : d ∈ tables_1) => atoms_spec (ws := Jvm.Cond.code x code maxLocals ret :: tables_1) hat d (List.mem_cons_of_mem _ hd)
  have hfit : Fit s := fun {y c} hc i hi => by
    obtain ⟨ha, rfl⟩ := Array.getElem?_eq_some_iff.mp hc
    have q := List.all_eq_true.mp ((Array.all_eq_true_iff_forall_mem.mp hF) _ (Array.getElem_mem ha)) i (List.mem_range.mpr hi)
    simpa [Array.getElem?_eq_getElem hi] using q
  obtain ⟨hsets, hown0⟩ := atoms_of _ (rest_1_c_eq ▸ (show rest_1_c.before _ s = true from hrest))
  have hr0 := Cond.before_iff.mp hown0
  obtain ⟨i0, ei0⟩ := is_v g3
  obtain rfl : w0 = (.int i0) := Option.some.inj ei0
  obtain ⟨i1, ei1⟩ := is_v g5
  obtain rfl : w1 = (.int i1) := Option.some.inj ei1
  obtain ⟨i2, ei2⟩ := is_v g7
  obtain rfl : w2 = (.int i2) := Option.some.inj ei2
  obtain ⟨i3, ei3⟩ := is_v g8
  obtain rfl : w3 = (.int i3) := Option.some.inj ei3
  obtain ⟨zc, ev_cs⟩ := is_v (Cond.before_iff.mp (hsets _ (List.mem_of_getElem? (i := 1) rfl)))
  have S_cs := Sta.start ev_cs (Or.inl (hsets _ (List.mem_of_getElem? (i := 0) rfl)))
  have hzc : ¬ zc = (0 : Int32) := gotF (Cond.eq_ints ev_cs rfl) (not_v (Cond.before_iff.mp (hsets _ (List.mem_of_getElem? (i := 2) rfl))))
  obtain ⟨fm, ev_fm, hfm⟩ := isR_v (Cond.before_iff.mp (hsets _ (List.mem_of_getElem? (i := 8) rfl)))
  have S_fm := Sta.start ev_fm (Or.inl (hsets _ (List.mem_of_getElem? (i := 7) rfl)))
  obtain ⟨n, o, h1, h2, h3, _, L, rfl, ⟨rfl, N, hrel⟩, hq⟩ := own_law l s _ hw tables_1 i0 i1 i2 i3 zc fm s.heap s.heap.size (Nat.le_refl _) (Old.start s) S_cs hzc S_fm hfm p e ha hc hk s m _ below hf ((Spec.applies_iff_loose hf).mp happ).1 ⟨rfl, State.Warmed39.refl s, rfl⟩ trivial
  refine ⟨n, _, h1, h2, h3, hpost _ _ _ _ _ _ ⟨Cond.after_iff.mpr rfl, Cond.after_iff.mpr (eq_i res_at (Term.int_eval (1)) rfl), trivial⟩ ⟨hq.1, hq.2.1, (hq.2.2.sift fun y hy => Or.inr (N y hy)).mono (by decide) (by decide)⟩⟩
theorem main_1_1 : Claimed_1_1 := comes_1 fun _ _ _ _ _ _ h hF => ⟨h.1, hF⟩
theorem main_1_2 : Claimed_1_2 := comes_1 fun _ _ _ _ _ _ h hF => ⟨h.2.1, hF⟩
end Jvm.Pilot.@@N@@
namespace Jvm.Pilot.@@N@@
open Jvm Jvm.ClassFile Sem Op Lib Jvm.Free Jvm.Stand Jvm.Pilot.@@N@@.Jvm.D
/-! MADE BY PROGRAM (witnessworld.py) out of the Statement's table words and the real class files: 20 classes; the members and pool entries that the words name. The judged class is class 1, her method 1. -/
namespace start1
open Jvm.ClassFile
def u (s : String) : CpInfo := .utf8 (stringToUtf16 s)
/-- a pool by its gaps: so many unusable entries, then the entry; so many at the end -/
def gap : Nat → List CpInfo → List CpInfo
  | 0, r => r
  | n + 1, r => .unusable :: gap n r
def poolList (es : List (Nat × CpInfo)) (last : Nat) : List CpInfo := es.foldr (fun e r => gap e.1 (e.2 :: r)) (gap last [])
def pool (es : List (Nat × CpInfo)) (last : Nat) : Array CpInfo := ⟨poolList es last⟩
def fileOf (pool : Array CpInfo) (this : Nat) (attrs : Array Attribute := #[]) (ms : Array MethodInfo := #[]) (fl : Nat := 33) (sup : Nat := 0) (ifs : Array Nat := #[]) (fds : Array FieldInfo := #[]) : ClassFile where
  minorVersion := 0
  majorVersion := 65
  constantPool := pool
  accessFlags := fl
  thisClass := this
  superClass := sup
  interfaces := ifs
  fields := fds
  methods := ms
  attributes := attrs
def plain (name : String) (sup : Option ClassId) : Class where
  name := name
  kind := .ordinary
  loader := none
  accessFlags := 33
  super := sup
  interfaces := #[]
  cf := none
  fields := #[]
  methods := #[]
  instanceTypes := #[]
  staticTypes := #[]
  resolved := #[]
  callSites := []
  init := .initialized
  statics := none
  mirror := none

def pool0 : Array CpInfo := pool [(5, u "<init>"), (0, u "()V"), (1, .class_ 10), (1, u "java/lang/Object")] 113

def k0c0 : Code := { maxStack := 0, maxLocals := 1, code := object_method_1_code, exceptionTable := #[], attributes := #[] }
def k0m0 : Method := { name := "<init>", desc := "()V", sig := { parameters := [], returnType := none }, accessFlags := 1, code := some k0c0 }
/-- java/lang/Object -/
def k0 : Class := { plain "java/lang/Object" none with
  accessFlags := 33
  interfaces := #[]
  cf := some (fileOf pool0 8 #[] #[{ accessFlags := 1, nameIndex := 5, descriptorIndex := 6, attributes := #[] }] 33 0 #[] #[])
  fields := #[]
  methods := #[k0m0]
  instanceTypes := #[]
  staticTypes := #[]
  resolved := Array.replicate 124 none
  statics := none }

def pool1 : Array CpInfo := pool [(2, .class_ 4), (1, u "java/lang/Object"), (0, u "<init>"), (0, u "()V"), (0, .integer 2147483647), (0, .integer 1000000000), (0, .methodref 10 11), (0, .class_ 12), (0, .nameAndType 13 14), (0, u "com/example/fixd/fixd/nmea/FieldsDigitsPinLaw"), (0, u "ch"), (0, u "(IIIIC)C"), (0, .class_ 16), (0, u "java/lang/String"), (0, .methodref 15 18), (0, .nameAndType 5 19), (0, u "([C)V"), (0, .methodref 10 21), (0, .nameAndType 22 23), (0, u "pow10"), (0, u "(I)I"), (0, .methodref 25 26), (0, .class_ 27), (0, .nameAndType 28 29), (0, u "com/example/fixd/fixd/nmea/Fields"), (0, u "digits"), (0, u "(Ljava/lang/String;II)I"), (0, .integer 100000), (0, .integer 1000000), (0, .integer 10000000), (0, .integer 100000000), (2, u "law"), (0, u "(IIII)Z")] 8

def k1m0 : Method := { name := "<init>", desc := "()V", sig := { parameters := [], returnType := none }, accessFlags := 1, code := none }
def k1c1 : Code := { maxStack := 7, maxLocals := 12, code := code, exceptionTable := #[], attributes := #[] }
def k1m1 : Method := { name := "law", desc := "(IIII)Z", sig := { parameters := [.int, .int, .int, .int], returnType := some .boolean }, accessFlags := 9, code := some k1c1 }
def k1c2 : Code := { maxStack := 4, maxLocals := 5, code := method_3_code, exceptionTable := #[], attributes := #[] }
def k1m2 : Method := { name := "ch", desc := "(IIIIC)C", sig := { parameters := [.int, .int, .int, .int, .char], returnType := some .char }, accessFlags := 10, code := some k1c2 }
def k1c3 : Code := { maxStack := 2, maxLocals := 1, code := method_4_code, exceptionTable := #[], attributes := #[] }
def k1m3 : Method := { name := "pow10", desc := "(I)I", sig := { parameters := [.int], returnType := some .int }, accessFlags := 10, code := some k1c3 }
/-- com/example/fixd/fixd/nmea/FieldsDigitsPinLaw -/
def k1 : Class := { plain "com/example/fixd/fixd/nmea/FieldsDigitsPinLaw" (some 0) with
  accessFlags := 49
  interfaces := #[]
  cf := some (fileOf pool1 10 #[] #[{ accessFlags := 1, nameIndex := 5, descriptorIndex := 6, attributes := #[] }, { accessFlags := 9, nameIndex := 36, descriptorIndex := 37, attributes := #[] }, { accessFlags := 10, nameIndex := 13, descriptorIndex := 14, attributes := #[] }, { accessFlags := 10, nameIndex := 22, descriptorIndex := 23, attributes := #[] }] 49 2 #[] #[])
  fields := #[]
  methods := #[k1m0, k1m1, k1m2, k1m3]
  instanceTypes := #[]
  staticTypes := #[]
  resolved := Array.replicate 46 none
  statics := none }

def pool2 : Array CpInfo := pool [(1, .class_ 2), (0, u "java/io/Serializable"), (0, .class_ 4), (0, u "java/lang/Object")] 2

/-- java/io/Serializable -/
def k2 : Class := { plain "java/io/Serializable" (some 0) with
  accessFlags := 1537
  interfaces := #[]
  cf := some (fileOf pool2 1 #[] #[] 1537 3 #[] #[])
  fields := #[]
  methods := #[]
  instanceTypes := #[]
  staticTypes := #[]
  resolved := Array.replicate 7 none
  statics := none }

def pool3 : Array CpInfo := pool [(1, .class_ 2), (0, u "java/lang/Comparable"), (0, .class_ 4), (0, u "java/lang/Object")] 7

/-- java/lang/Comparable -/
def k3 : Class := { plain "java/lang/Comparable" (some 0) with
  accessFlags := 1537
  interfaces := #[]
  cf := some (fileOf pool3 1 #[] #[] 1537 3 #[] #[])
  fields := #[]
  methods := #[]
  instanceTypes := #[]
  staticTypes := #[]
  resolved := Array.replicate 12 none
  statics := none }

def pool4 : Array CpInfo := pool [(2, .class_ 4), (1, u "java/lang/CharSequence"), (42, .class_ 48), (0, u "java/lang/CharSequence$1CodePointIterator"), (10, .class_ 60), (0, u "java/lang/CharSequence$1CharIterator"), (5, .class_ 67), (0, u "java/lang/Object")] 63

/-- java/lang/CharSequence -/
def k4 : Class := { plain "java/lang/CharSequence" (some 0) with
  accessFlags := 1537
  interfaces := #[]
  cf := some (fileOf pool4 2 #[.nestMembers #[47, 59]] #[] 1537 66 #[] #[])
  fields := #[]
  methods := #[]
  instanceTypes := #[]
  staticTypes := #[]
  resolved := Array.replicate 131 none
  statics := none }

def pool5 : Array CpInfo := pool [(1, .class_ 2), (0, u "java/lang/constant/Constable"), (0, .class_ 4), (0, u "java/lang/Object")] 6

/-- java/lang/constant/Constable -/
def k5 : Class := { plain "java/lang/constant/Constable" (some 0) with
  accessFlags := 1537
  interfaces := #[]
  cf := some (fileOf pool5 1 #[] #[] 1537 3 #[] #[])
  fields := #[]
  methods := #[]
  instanceTypes := #[]
  staticTypes := #[]
  resolved := Array.replicate 11 none
  statics := none }

def pool6 : Array CpInfo := pool [(1, .class_ 2), (0, u "java/lang/constant/ConstantDesc"), (0, .class_ 4), (0, u "java/lang/Object")] 32

/-- java/lang/constant/ConstantDesc -/
def k6 : Class := { plain "java/lang/constant/ConstantDesc" (some 0) with
  accessFlags := 1537
  interfaces := #[]
  cf := some (fileOf pool6 1 #[] #[] 1537 3 #[] #[])
  fields := #[]
  methods := #[]
  instanceTypes := #[]
  staticTypes := #[]
  resolved := Array.replicate 37 none
  statics := none }

def pool7 : Array CpInfo := pool [(1, .methodref 2 3), (0, .class_ 4), (0, .nameAndType 5 6), (0, u "java/lang/Object"), (0, u "<init>"), (0, u "()V"), (2, .fieldref 10 11), (0, .class_ 12), (0, .nameAndType 13 14), (0, u "java/lang/String"), (0, u "value"), (0, u "[B"), (0, .fieldref 10 16), (0, .nameAndType 17 18), (0, u "coder"), (0, u "B"), (2, u "hash"), (0, u "I"), (2, u "hashIsZero"), (0, u "Z"), (0, .methodref 10 28), (0, .nameAndType 5 29), (0, u "([CIILjava/lang/Void;)V"), (8, .fieldref 10 39), (0, .nameAndType 40 26), (0, u "COMPACT_STRINGS"), (1, .class_ 44), (1, u "java/lang/StringUTF16"), (0, u "compress"), (1, .methodref 42 48), (0, .nameAndType 49 50), (0, u "coderFromArrayLen"), (0, u "([BI)B"), (56, .class_ 109), (1, u "java/lang/StringLatin1"), (32, u "()Z"), (34, .methodref 42 178), (0, .nameAndType 45 179), (0, u "([CII)[B"), (183, u "([BI)C"), (27, u "(II)V"), (35, u "(I)C"), (64, .methodref 10 493), (0, .nameAndType 494 142), (0, u "isLatin1"), (0, .methodref 107 496), (0, .nameAndType 497 363), (0, u "charAt"), (3, u "checkIndex"), (73, .class_ 576), (0, u "java/lang/CharSequence"), (22, u "CASE_INSENSITIVE_ORDER"), (0, u "Ljava/util/Comparator;"), (409, u "([C)V"), (42, .fieldref 1054 1055), (0, .class_ 1056), (0, .nameAndType 1057 1058), (0, u "jdk/internal/util/Preconditions"), (0, u "SIOOBE_FORMATTER"), (0, u "Ljava/util/function/BiFunction;"), (0, .methodref 1054 1060), (0, .nameAndType 501 1061), (0, u "(IILjava/util/function/BiFunction;)I"), (39, u "serialPersistentFields"), (0, u "[Ljava/io/ObjectStreamField;"), (0, .class_ 1104), (0, u "java/lang/String$CaseInsensitiveComparator"), (1, .class_ 1107), (0, u "java/io/Serializable"), (0, .class_ 1109), (0, u "java/lang/Comparable"), (0, .class_ 1111), (0, u "java/lang/constant/Constable"), (0, .class_ 1113), (0, u "java/lang/constant/ConstantDesc"), (2, u "serialVersionUID"), (0, u "J"), (3, u "REPL"), (0, u "C"), (2, u "LATIN1"), (1, u "UTF16")] 323

def k7m0 : Method := { name := "<init>", desc := "()V", sig := { parameters := [], returnType := none }, accessFlags := 1, code := none }
def k7c1 : Code := { maxStack := 5, maxLocals := 2, code := jdk_42_method_3_code, exceptionTable := #[], attributes := #[] }
def k7m1 : Method := { name := "<init>", desc := "([C)V", sig := { parameters := [(.array .char)], returnType := none }, accessFlags := 1, code := some k7c1 }
def k7c2 : Code := { maxStack := 2, maxLocals := 2, code := jdk_42_method_56_code, exceptionTable := #[], attributes := #[] }
def k7m2 : Method := { name := "charAt", desc := "(I)C", sig := { parameters := [.int], returnType := some .char }, accessFlags := 1, code := some k7c2 }
def k7c3 : Code := { maxStack := 4, maxLocals := 6, code := jdk_42_method_149_code, exceptionTable := #[], attributes := #[] }
def k7m3 : Method := { name := "<init>", desc := "([CIILjava/lang/Void;)V", sig := { parameters := [(.array .char), .int, .int, (.object "java/lang/Void")], returnType := none }, accessFlags := 2, code := some k7c3 }
def k7c4 : Code := { maxStack := 1, maxLocals := 1, code := jdk_42_method_154_code, exceptionTable := #[], attributes := #[] }
def k7m4 : Method := { name := "isLatin1", desc := "()Z", sig := { parameters := [], returnType := some .boolean }, accessFlags := 0, code := some k7c4 }
def k7c5 : Code := { maxStack := 3, maxLocals := 2, code := jdk_42_method_155_code, exceptionTable := #[], attributes := #[] }
def k7m5 : Method := { name := "checkIndex", desc := "(II)V", sig := { parameters := [.int, .int], returnType := none }, accessFlags := 8, code := some k7c5 }
/-- java/lang/String -/
def k7 : Class := { plain "java/lang/String" (some 0) with
  accessFlags := 49
  interfaces := #[2, 3, 4, 5, 6]
  cf := some (fileOf pool7 10 #[.nestMembers #[1103]] #[{ accessFlags := 1, nameIndex := 5, descriptorIndex := 6, attributes := #[] }, { accessFlags := 1, nameIndex := 5, descriptorIndex := 1010, attributes := #[] }, { accessFlags := 1, nameIndex := 497, descriptorIndex := 427, attributes := #[] }, { accessFlags := 2, nameIndex := 5, descriptorIndex := 29, attributes := #[] }, { accessFlags := 0, nameIndex := 494, descriptorIndex := 142, attributes := #[] }, { accessFlags := 8, nameIndex := 501, descriptorIndex := 391, attributes := #[] }] 49 2 #[1106, 1108, 575, 1110, 1112] #[{ accessFlags := 18, nameIndex := 13, descriptorIndex := 14, attributes := #[] }, { accessFlags := 18, nameIndex := 17, descriptorIndex := 18, attributes := #[] }, { accessFlags := 2, nameIndex := 21, descriptorIndex := 22, attributes := #[] }, { accessFlags := 2, nameIndex := 25, descriptorIndex := 26, attributes := #[] }, { accessFlags := 26, nameIndex := 1116, descriptorIndex := 1117, attributes := #[] }, { accessFlags := 24, nameIndex := 40, descriptorIndex := 26, attributes := #[] }, { accessFlags := 26, nameIndex := 1101, descriptorIndex := 1102, attributes := #[] }, { accessFlags := 26, nameIndex := 1121, descriptorIndex := 1122, attributes := #[] }, { accessFlags := 25, nameIndex := 599, descriptorIndex := 600, attributes := #[] }, { accessFlags := 24, nameIndex := 1125, descriptorIndex := 18, attributes := #[] }, { accessFlags := 24, nameIndex := 1127, descriptorIndex := 18, attributes := #[] }])
  fields := #[{ name := "value", type := (.array .byte), accessFlags := 18, slot := 0, constantValue := 0 }, { name := "coder", type := .byte, accessFlags := 18, slot := 1, constantValue := 0 }, { name := "hash", type := .int, accessFlags := 2, slot := 2, constantValue := 0 }, { name := "hashIsZero", type := .boolean, accessFlags := 2, slot := 3, constantValue := 0 }, { name := "serialVersionUID", type := .long, accessFlags := 26, slot := 0, constantValue := 0 }, { name := "COMPACT_STRINGS", type := .boolean, accessFlags := 24, slot := 1, constantValue := 0 }, { name := "serialPersistentFields", type := (.array (.object "java/io/ObjectStreamField")), accessFlags := 26, slot := 2, constantValue := 0 }, { name := "REPL", type := .char, accessFlags := 26, slot := 3, constantValue := 0 }, { name := "CASE_INSENSITIVE_ORDER", type := (.object "java/util/Comparator"), accessFlags := 25, slot := 4, constantValue := 0 }, { name := "LATIN1", type := .byte, accessFlags := 24, slot := 5, constantValue := 0 }, { name := "UTF16", type := .byte, accessFlags := 24, slot := 6, constantValue := 0 }]
  methods := #[k7m0, k7m1, k7m2, k7m3, k7m4, k7m5]
  instanceTypes := #[(.array .byte), .byte, .int, .boolean]
  staticTypes := #[.long, .boolean, (.array (.object "java/io/ObjectStreamField")), .char, (.object "java/util/Comparator"), .byte, .byte]
  resolved := Array.replicate 1451 none
  statics := some 0 }

def pool8 : Array CpInfo := pool [(6, .class_ 8), (1, u "java/lang/Object"), (0, u "<init>"), (0, u "()V"), (1, .class_ 14), (1, u "java/lang/StringUTF16"), (31, u "$assertionsDisabled"), (0, u "Z"), (13, u "HI_BYTE_SHIFT"), (0, u "I"), (2, u "LO_BYTE_SHIFT"), (49, .methodref 12 116), (0, .nameAndType 117 118), (0, u "compress"), (0, u "([CI[BII)I"), (3, u "([CII)[B"), (138, u "coderFromArrayLen"), (0, u "([BI)B"), (106, .class_ 371), (1, u "java/lang/StringUTF16$LinesSpliterator"), (58, u "MAX_LENGTH"), (196, .class_ 628), (0, u "java/lang/StringUTF16$CodePointsSpliterator"), (0, .class_ 630), (0, u "java/lang/StringUTF16$CharsSpliterator")] 4

def k8m0 : Method := { name := "<init>", desc := "()V", sig := { parameters := [], returnType := none }, accessFlags := 0, code := none }
def k8c1 : Code := { maxStack := 2, maxLocals := 2, code := jdk_52_method_15_code, exceptionTable := #[], attributes := #[] }
def k8m1 : Method := { name := "coderFromArrayLen", desc := "([BI)B", sig := { parameters := [(.array .byte), .int], returnType := some .byte }, accessFlags := 8, code := some k8c1 }
def k8c2 : Code := { maxStack := 5, maxLocals := 6, code := jdk_52_method_16_code, exceptionTable := #[], attributes := #[] }
def k8m2 : Method := { name := "compress", desc := "([CII)[B", sig := { parameters := [(.array .char), .int, .int], returnType := some (.array .byte) }, accessFlags := 9, code := some k8c2 }
def k8c3 : Code := { maxStack := 3, maxLocals := 7, code := jdk_52_method_21_code, exceptionTable := #[], attributes := #[] }
def k8m3 : Method := { name := "compress", desc := "([CI[BII)I", sig := { parameters := [(.array .char), .int, (.array .byte), .int, .int], returnType := some .int }, accessFlags := 9, code := some k8c3 }
/-- java/lang/StringUTF16 -/
def k8 : Class := { plain "java/lang/StringUTF16" (some 0) with
  accessFlags := 48
  interfaces := #[]
  cf := some (fileOf pool8 12 #[.nestMembers #[627, 629, 369]] #[{ accessFlags := 0, nameIndex := 9, descriptorIndex := 10, attributes := #[] }, { accessFlags := 8, nameIndex := 261, descriptorIndex := 262, attributes := #[] }, { accessFlags := 9, nameIndex := 117, descriptorIndex := 122, attributes := #[] }, { accessFlags := 9, nameIndex := 117, descriptorIndex := 118, attributes := #[] }] 48 6 #[] #[{ accessFlags := 26, nameIndex := 61, descriptorIndex := 62, attributes := #[] }, { accessFlags := 26, nameIndex := 65, descriptorIndex := 62, attributes := #[] }, { accessFlags := 24, nameIndex := 430, descriptorIndex := 62, attributes := #[] }, { accessFlags := 4120, nameIndex := 46, descriptorIndex := 47, attributes := #[] }])
  fields := #[{ name := "HI_BYTE_SHIFT", type := .int, accessFlags := 26, slot := 0, constantValue := 0 }, { name := "LO_BYTE_SHIFT", type := .int, accessFlags := 26, slot := 1, constantValue := 0 }, { name := "MAX_LENGTH", type := .int, accessFlags := 24, slot := 2, constantValue := 0 }, { name := "$assertionsDisabled", type := .boolean, accessFlags := 4120, slot := 3, constantValue := 0 }]
  methods := #[k8m0, k8m1, k8m2, k8m3]
  instanceTypes := #[]
  staticTypes := #[.int, .int, .int, .boolean]
  resolved := Array.replicate 635 none
  statics := none }

def pool9 : Array CpInfo := pool [(2, .class_ 4), (1, u "java/lang/Object"), (0, u "<init>"), (0, u "()V"), (0, .class_ 8), (0, u "com/example/fixd/fixd/nmea/Fields"), (3, u "(Ljava/lang/String;II)V"), (2, .class_ 17), (1, u "java/lang/String"), (2, .methodref 7 21), (0, .nameAndType 22 23), (0, u "digit"), (0, u "(Ljava/lang/String;I)I"), (2, u "digits"), (0, u "(Ljava/lang/String;II)I"), (8, .class_ 37), (0, u "com/example/fixd/fixd/nmea/Fields$Malformed"), (24, .methodref 7 63), (0, .nameAndType 64 12), (0, u "requireDigits"), (0, .methodref 15 66), (0, .nameAndType 67 68), (0, u "charAt"), (0, u "(I)C"), (22, .class_ 93), (1, u "com/example/fixd/fixd/nmea/Fields$Reader"), (29, u "EXACT_POWERS_OF_TEN"), (0, u "[D"), (40, u "TIME_DIGITS"), (0, u "I"), (2, u "NANOS_PER_SECOND"), (1, u "FULL_CIRCLE"), (0, u "D"), (0, u "MAX_WHOLE_DIGITS"), (1, u "POINT"), (0, u "C"), (1, u "MAX_LONG_DIGITS"), (1, u "MAX_EXACT_WHOLE"), (0, u "J"), (0, u "RADIX"), (1, u "HEX_RADIX")] 22

def k9m0 : Method := { name := "<init>", desc := "()V", sig := { parameters := [], returnType := none }, accessFlags := 2, code := none }
def k9c1 : Code := { maxStack := 3, maxLocals := 5, code := prog_33_method_8_code, exceptionTable := #[], attributes := #[] }
def k9m1 : Method := { name := "digits", desc := "(Ljava/lang/String;II)I", sig := { parameters := [(.object "java/lang/String"), .int, .int], returnType := some .int }, accessFlags := 8, code := some k9c1 }
def k9c2 : Code := { maxStack := 2, maxLocals := 4, code := prog_33_method_16_code, exceptionTable := #[], attributes := #[] }
def k9m2 : Method := { name := "requireDigits", desc := "(Ljava/lang/String;II)V", sig := { parameters := [(.object "java/lang/String"), .int, .int], returnType := none }, accessFlags := 10, code := some k9c2 }
def k9c3 : Code := { maxStack := 2, maxLocals := 3, code := prog_33_method_17_code, exceptionTable := #[], attributes := #[] }
def k9m3 : Method := { name := "digit", desc := "(Ljava/lang/String;I)I", sig := { parameters := [(.object "java/lang/String"), .int], returnType := some .int }, accessFlags := 10, code := some k9c3 }
/-- com/example/fixd/fixd/nmea/Fields -/
def k9 : Class := { plain "com/example/fixd/fixd/nmea/Fields" (some 0) with
  accessFlags := 32
  interfaces := #[]
  cf := some (fileOf pool9 7 #[.nestMembers #[36, 91]] #[{ accessFlags := 2, nameIndex := 5, descriptorIndex := 6, attributes := #[] }, { accessFlags := 8, nameIndex := 26, descriptorIndex := 27, attributes := #[] }, { accessFlags := 10, nameIndex := 64, descriptorIndex := 12, attributes := #[] }, { accessFlags := 10, nameIndex := 22, descriptorIndex := 23, attributes := #[] }] 32 2 #[] #[{ accessFlags := 26, nameIndex := 165, descriptorIndex := 166, attributes := #[] }, { accessFlags := 26, nameIndex := 169, descriptorIndex := 166, attributes := #[] }, { accessFlags := 26, nameIndex := 171, descriptorIndex := 172, attributes := #[] }, { accessFlags := 26, nameIndex := 173, descriptorIndex := 166, attributes := #[] }, { accessFlags := 26, nameIndex := 175, descriptorIndex := 176, attributes := #[] }, { accessFlags := 26, nameIndex := 178, descriptorIndex := 166, attributes := #[] }, { accessFlags := 26, nameIndex := 180, descriptorIndex := 181, attributes := #[] }, { accessFlags := 26, nameIndex := 123, descriptorIndex := 124, attributes := #[] }, { accessFlags := 26, nameIndex := 182, descriptorIndex := 166, attributes := #[] }, { accessFlags := 26, nameIndex := 184, descriptorIndex := 166, attributes := #[] }])
  fields := #[{ name := "TIME_DIGITS", type := .int, accessFlags := 26, slot := 0, constantValue := 0 }, { name := "NANOS_PER_SECOND", type := .int, accessFlags := 26, slot := 1, constantValue := 0 }, { name := "FULL_CIRCLE", type := .double, accessFlags := 26, slot := 2, constantValue := 0 }, { name := "MAX_WHOLE_DIGITS", type := .int, accessFlags := 26, slot := 3, constantValue := 0 }, { name := "POINT", type := .char, accessFlags := 26, slot := 4, constantValue := 0 }, { name := "MAX_LONG_DIGITS", type := .int, accessFlags := 26, slot := 5, constantValue := 0 }, { name := "MAX_EXACT_WHOLE", type := .long, accessFlags := 26, slot := 6, constantValue := 0 }, { name := "EXACT_POWERS_OF_TEN", type := (.array .double), accessFlags := 26, slot := 7, constantValue := 0 }, { name := "RADIX", type := .int, accessFlags := 26, slot := 8, constantValue := 0 }, { name := "HEX_RADIX", type := .int, accessFlags := 26, slot := 9, constantValue := 0 }]
  methods := #[k9m0, k9m1, k9m2, k9m3]
  instanceTypes := #[]
  staticTypes := #[.int, .int, .double, .int, .char, .int, .long, (.array .double), .int, .int]
  resolved := Array.replicate 207 none
  statics := none }

def pool10 : Array CpInfo := pool [(1, .class_ 2), (0, u "java/lang/String"), (1, .class_ 6), (1, u "java/lang/Object"), (0, u "<init>"), (0, u "()V"), (0, .methodref 1 10), (0, .nameAndType 11 12), (0, u "checkIndex"), (0, u "(II)V"), (1, .class_ 16), (1, u "java/lang/StringLatin1"), (36, u "([BI)C"), (67, u "$assertionsDisabled"), (0, u "Z"), (98, .class_ 223), (1, u "java/lang/StringLatin1$LinesSpliterator"), (28, u "charAt"), (137, .class_ 391), (0, u "java/lang/StringLatin1$CharsSpliterator")] 3

def k10m0 : Method := { name := "<init>", desc := "()V", sig := { parameters := [], returnType := none }, accessFlags := 0, code := none }
def k10c1 : Code := { maxStack := 2, maxLocals := 2, code := jdk_43_method_2_code, exceptionTable := #[], attributes := #[] }
def k10m1 : Method := { name := "charAt", desc := "([BI)C", sig := { parameters := [(.array .byte), .int], returnType := some .char }, accessFlags := 9, code := some k10c1 }
/-- java/lang/StringLatin1 -/
def k10 : Class := { plain "java/lang/StringLatin1" (some 0) with
  accessFlags := 48
  interfaces := #[]
  cf := some (fileOf pool10 14 #[.nestMembers #[390, 221]] #[{ accessFlags := 0, nameIndex := 7, descriptorIndex := 8, attributes := #[] }, { accessFlags := 9, nameIndex := 252, descriptorIndex := 53, attributes := #[] }] 48 4 #[] #[{ accessFlags := 4120, nameIndex := 121, descriptorIndex := 122, attributes := #[] }])
  fields := #[{ name := "$assertionsDisabled", type := .boolean, accessFlags := 4120, slot := 0, constantValue := 0 }]
  methods := #[k10m0, k10m1]
  instanceTypes := #[]
  staticTypes := #[.boolean]
  resolved := Array.replicate 395 none
  statics := none }

def pool11 : Array CpInfo := pool [(2, .class_ 4), (1, u "java/lang/Object"), (0, u "<init>"), (0, u "()V"), (17, .class_ 26), (1, u "jdk/internal/util/Preconditions"), (6, u "checkIndex"), (21, .class_ 56), (0, u "jdk/internal/util/Preconditions$4"), (57, .class_ 115), (0, u "jdk/internal/util/Preconditions$1"), (7, u "SIOOBE_FORMATTER"), (0, u "Ljava/util/function/BiFunction;"), (0, .class_ 126), (0, u "jdk/internal/util/Preconditions$2"), (3, u "AIOOBE_FORMATTER"), (0, .class_ 132), (0, u "jdk/internal/util/Preconditions$3"), (3, u "IOOBE_FORMATTER"), (41, u "(IILjava/util/function/BiFunction;)I")] 15

def k11m0 : Method := { name := "<init>", desc := "()V", sig := { parameters := [], returnType := none }, accessFlags := 1, code := none }
def k11c1 : Code := { maxStack := 3, maxLocals := 3, code := jdk_41_method_11_code, exceptionTable := #[], attributes := #[] }
def k11m1 : Method := { name := "checkIndex", desc := "(IILjava/util/function/BiFunction;)I", sig := { parameters := [.int, .int, (.object "java/util/function/BiFunction")], returnType := some .int }, accessFlags := 9, code := some k11c1 }
/-- jdk/internal/util/Preconditions -/
def k11 : Class := { plain "jdk/internal/util/Preconditions" (some 0) with
  accessFlags := 33
  interfaces := #[]
  cf := some (fileOf pool11 24 #[.nestMembers #[55, 131, 125, 114]] #[{ accessFlags := 1, nameIndex := 5, descriptorIndex := 6, attributes := #[] }, { accessFlags := 9, nameIndex := 33, descriptorIndex := 178, attributes := #[] }] 33 2 #[] #[{ accessFlags := 25, nameIndex := 123, descriptorIndex := 124, attributes := #[] }, { accessFlags := 25, nameIndex := 130, descriptorIndex := 124, attributes := #[] }, { accessFlags := 25, nameIndex := 136, descriptorIndex := 124, attributes := #[] }])
  fields := #[{ name := "SIOOBE_FORMATTER", type := (.object "java/util/function/BiFunction"), accessFlags := 25, slot := 0, constantValue := 0 }, { name := "AIOOBE_FORMATTER", type := (.object "java/util/function/BiFunction"), accessFlags := 25, slot := 1, constantValue := 0 }, { name := "IOOBE_FORMATTER", type := (.object "java/util/function/BiFunction"), accessFlags := 25, slot := 2, constantValue := 0 }]
  methods := #[k11m0, k11m1]
  instanceTypes := #[]
  staticTypes := #[(.object "java/util/function/BiFunction"), (.object "java/util/function/BiFunction"), (.object "java/util/function/BiFunction")]
  resolved := Array.replicate 194 none
  statics := some 1 }

def pool12 : Array CpInfo := pool [(9, u "<init>"), (6, .class_ 18), (1, u "java/lang/Object"), (0, u "()V"), (1, .class_ 23), (1, u "jdk/internal/util/ArraysSupport"), (0, u "LOG2_ARRAY_LONG_INDEX_SCALE"), (0, u "I"), (2, u "U"), (0, u "Ljdk/internal/misc/Unsafe;"), (8, u "BIG_ENDIAN"), (0, u "Z"), (8, u "LOG2_BYTE_BIT_SIZE"), (4, u "LOG2_ARRAY_INT_INDEX_SCALE"), (54, u "JLA"), (0, u "Ljdk/internal/access/JavaLangAccess;"), (11, u "LOG2_ARRAY_BOOLEAN_INDEX_SCALE"), (9, u "LOG2_ARRAY_BYTE_INDEX_SCALE"), (5, u "LOG2_ARRAY_CHAR_INDEX_SCALE"), (5, u "LOG2_ARRAY_SHORT_INDEX_SCALE"), (18, u "LOG2_ARRAY_FLOAT_INDEX_SCALE"), (24, u "LOG2_ARRAY_DOUBLE_INDEX_SCALE"), (89, u "T_BOOLEAN"), (2, u "T_CHAR"), (1, u "T_FLOAT"), (1, u "T_DOUBLE"), (1, u "T_BYTE"), (1, u "T_SHORT"), (1, u "T_INT"), (1, u "T_LONG"), (1, u "SOFT_MAX_ARRAY_LENGTH")] 83

def k12m0 : Method := { name := "<init>", desc := "()V", sig := { parameters := [], returnType := none }, accessFlags := 2, code := none }
/-- jdk/internal/util/ArraysSupport -/
def k12 : Class := { plain "jdk/internal/util/ArraysSupport" (some 0) with
  accessFlags := 33
  interfaces := #[]
  cf := some (fileOf pool12 21 #[] #[{ accessFlags := 2, nameIndex := 9, descriptorIndex := 19, attributes := #[] }] 33 16 #[] #[{ accessFlags := 24, nameIndex := 28, descriptorIndex := 29, attributes := #[] }, { accessFlags := 26, nameIndex := 38, descriptorIndex := 39, attributes := #[] }, { accessFlags := 25, nameIndex := 121, descriptorIndex := 25, attributes := #[] }, { accessFlags := 25, nameIndex := 131, descriptorIndex := 25, attributes := #[] }, { accessFlags := 25, nameIndex := 137, descriptorIndex := 25, attributes := #[] }, { accessFlags := 25, nameIndex := 143, descriptorIndex := 25, attributes := #[] }, { accessFlags := 25, nameIndex := 53, descriptorIndex := 25, attributes := #[] }, { accessFlags := 25, nameIndex := 24, descriptorIndex := 25, attributes := #[] }, { accessFlags := 25, nameIndex := 162, descriptorIndex := 25, attributes := #[] }, { accessFlags := 25, nameIndex := 187, descriptorIndex := 25, attributes := #[] }, { accessFlags := 26, nameIndex := 48, descriptorIndex := 25, attributes := #[] }, { accessFlags := 25, nameIndex := 277, descriptorIndex := 25, attributes := #[] }, { accessFlags := 25, nameIndex := 280, descriptorIndex := 25, attributes := #[] }, { accessFlags := 25, nameIndex := 282, descriptorIndex := 25, attributes := #[] }, { accessFlags := 25, nameIndex := 284, descriptorIndex := 25, attributes := #[] }, { accessFlags := 25, nameIndex := 286, descriptorIndex := 25, attributes := #[] }, { accessFlags := 25, nameIndex := 288, descriptorIndex := 25, attributes := #[] }, { accessFlags := 25, nameIndex := 290, descriptorIndex := 25, attributes := #[] }, { accessFlags := 25, nameIndex := 292, descriptorIndex := 25, attributes := #[] }, { accessFlags := 26, nameIndex := 108, descriptorIndex := 109, attributes := #[] }, { accessFlags := 25, nameIndex := 294, descriptorIndex := 25, attributes := #[] }])
  fields := #[{ name := "U", type := (.object "jdk/internal/misc/Unsafe"), accessFlags := 24, slot := 0, constantValue := 0 }, { name := "BIG_ENDIAN", type := .boolean, accessFlags := 26, slot := 1, constantValue := 0 }, { name := "LOG2_ARRAY_BOOLEAN_INDEX_SCALE", type := .int, accessFlags := 25, slot := 2, constantValue := 0 }, { name := "LOG2_ARRAY_BYTE_INDEX_SCALE", type := .int, accessFlags := 25, slot := 3, constantValue := 0 }, { name := "LOG2_ARRAY_CHAR_INDEX_SCALE", type := .int, accessFlags := 25, slot := 4, constantValue := 0 }, { name := "LOG2_ARRAY_SHORT_INDEX_SCALE", type := .int, accessFlags := 25, slot := 5, constantValue := 0 }, { name := "LOG2_ARRAY_INT_INDEX_SCALE", type := .int, accessFlags := 25, slot := 6, constantValue := 0 }, { name := "LOG2_ARRAY_LONG_INDEX_SCALE", type := .int, accessFlags := 25, slot := 7, constantValue := 0 }, { name := "LOG2_ARRAY_FLOAT_INDEX_SCALE", type := .int, accessFlags := 25, slot := 8, constantValue := 0 }, { name := "LOG2_ARRAY_DOUBLE_INDEX_SCALE", type := .int, accessFlags := 25, slot := 9, constantValue := 0 }, { name := "LOG2_BYTE_BIT_SIZE", type := .int, accessFlags := 26, slot := 10, constantValue := 0 }, { name := "T_BOOLEAN", type := .int, accessFlags := 25, slot := 11, constantValue := 0 }, { name := "T_CHAR", type := .int, accessFlags := 25, slot := 12, constantValue := 0 }, { name := "T_FLOAT", type := .int, accessFlags := 25, slot := 13, constantValue := 0 }, { name := "T_DOUBLE", type := .int, accessFlags := 25, slot := 14, constantValue := 0 }, { name := "T_BYTE", type := .int, accessFlags := 25, slot := 15, constantValue := 0 }, { name := "T_SHORT", type := .int, accessFlags := 25, slot := 16, constantValue := 0 }, { name := "T_INT", type := .int, accessFlags := 25, slot := 17, constantValue := 0 }, { name := "T_LONG", type := .int, accessFlags := 25, slot := 18, constantValue := 0 }, { name := "JLA", type := (.object "jdk/internal/access/JavaLangAccess"), accessFlags := 26, slot := 19, constantValue := 0 }, { name := "SOFT_MAX_ARRAY_LENGTH", type := .int, accessFlags := 25, slot := 20, constantValue := 0 }]
  methods := #[k12m0]
  instanceTypes := #[]
  staticTypes := #[(.object "jdk/internal/misc/Unsafe"), .boolean, .int, .int, .int, .int, .int, .int, .int, .int, .int, .int, .int, .int, .int, .int, .int, .int, .int, (.object "jdk/internal/access/JavaLangAccess"), .int]
  resolved := Array.replicate 378 none
  statics := some 2 }

def pool13 : Array CpInfo := pool [(1, u "java/lang/Cloneable"), (0, .class_ 1), (0, u "java/lang/Object"), (0, .class_ 3)] 3

/-- java/lang/Cloneable -/
def k13 : Class := { plain "java/lang/Cloneable" (some 0) with
  accessFlags := 1537
  interfaces := #[]
  cf := some (fileOf pool13 2 #[] #[] 1537 4 #[] #[])
  fields := #[]
  methods := #[]
  instanceTypes := #[]
  staticTypes := #[]
  resolved := Array.replicate 8 none
  statics := none }

/-- the primitive byte -/
def k14 : Class := { plain "byte" none with kind := .primitive 'B', accessFlags := 0x411 }
/-- [B -/
def k15 : Class := { plain "[B" (some 0) with kind := .array 14 .byte, interfaces := #[13, 2], accessFlags := 1041 }

/-- the primitive char -/
def k16 : Class := { plain "char" none with kind := .primitive 'C', accessFlags := 0x411 }
/-- [C -/
def k17 : Class := { plain "[C" (some 0) with kind := .array 16 .char, interfaces := #[13, 2], accessFlags := 1041 }

/-- the primitive int -/
def k18 : Class := { plain "int" none with kind := .primitive 'I', accessFlags := 0x411 }
/-- [I -/
def k19 : Class := { plain "[I" (some 0) with kind := .array 18 .int, interfaces := #[13, 2], accessFlags := 1041 }

def heap : Heap := #[{ cls := 7, slots := #[.long 0, .int 1, .null, .int 0, .null, .int 0, .int 0], vm := .statics 7 },
  { cls := 11, slots := #[.null, .null, .null], vm := .statics 11 },
  { cls := 12, slots := #[.null, .int 0, .int 0, .int 0, .int 0, .int 0, .int 0, .int 0, .int 0, .int 0, .int 0, .int 0, .int 0, .int 0, .int 0, .int 0, .int 0, .int 0, .int 0, .null, .int 0], vm := .statics 12 }]
def classes : Array Class := #[k0, k1, k2, k3, k4, k5, k6, k7, k8, k9, k10, k11, k12, k13, k14, k15, k16, k17, k18, k19]
def interned : List (Array UInt16 × Addr) := []
def slotsUsed : Nat := 31
def theMethod : MethodId := ⟨1, 1⟩
def args0 : Array Value := #[.int 5, .int 6, .int 7, .int 8]
def aboutOver (below : List Frame) : State where
  vm := { classes := classes, interned := interned.toArray }
  heap := heap
  slotsUsed := slotsUsed
  threads := #[{ frames := .invoking theMethod args0 :: below }]
def below0 : List Frame := [.native { method := ⟨0, 0⟩, args := #[] }]
def about1 : State := aboutOver below0
def p0 : Program := .bare "" "" ""
def e0 : Env := launch0.env 0 0 0
theorem w_frames : about1.frames = Frame.invoking theMethod args0 :: below0 := rfl
set_option maxRecDepth 65536 in
theorem w_args : argsFit about1.vm theMethod args0 = true := by decide +kernel
set_option maxRecDepth 65536 in
theorem w_heap : heapFits about1 = true := by decide +kernel
set_option maxRecDepth 65536 in
theorem w_runnable : about1.curStatus? = some .runnable := by decide +kernel
set_option maxRecDepth 65536 in
theorem w_alone : about1.alone = true := by decide +kernel
set_option maxRecDepth 65536 in
theorem w_named : about1.methodNamed? x = some theMethod := by decide +kernel
set_option maxRecDepth 65536 in
theorem w_hears : about1.hears theMethod below0 = true := by decide +kernel
set_option maxRecDepth 65536 in
theorem w_ripe : about1.ripe theMethod args0 below0 = true := by decide +kernel
theorem w_running : about1.status = .running := rfl
set_option maxRecDepth 65536 in
theorem w_room : about1.hasRoom e0.platform room_1 = true :=
  launch0.hasRoom_least _ room_1 (by decide +kernel) (by decide +kernel) (by decide +kernel) (by decide +kernel) (by decide +kernel) (by decide +kernel)
theorem allAtoms_all (ts : List Jvm.Cond) (a : Array Jvm.Value) (st : Jvm.State) : (allAtoms ts).before a st = ts.all (fun c => c.before a st) := by
  induction ts with
  | nil => rfl
  | cons c t ih =>
    show (Jvm.Cond.and c (allAtoms t)).before a st = _
    rw [Jvm.Cond.before_and, ih, List.all_cons]
def words1 : List Jvm.Cond := Jvm.Cond.code x code maxLocals ret :: tables_1
/-- a 'code' word, met by the world's own term for the bytes: nothing is compared byte by byte -/
theorem code_word {y : MethodName} {bytes : ByteArray} {mx : Nat} {rt : Option FieldType} {a : Array Value} {s : State} {m : MethodId} {meth : Method} {c : Code} (h1 : s.methodNamed? y = some m) (h2 : s.vm.method? m = some meth) (h3 : meth.code = some c) (h4 : c.code = bytes)
    (h5 : (c.maxLocals == mx && c.exceptionTable.isEmpty && decide (c.maxStack ≤ mostOperands) && decide (meth.sig.returnType = rt) && !meth.locks && decide (parseMethodDescriptor y.desc = some meth.sig)) = true) : (Jvm.Cond.code y bytes mx rt).before a s = true := by
  simp only [Bool.and_eq_true, beq_iff_eq, Bool.not_eq_true', decide_eq_true_eq] at h5
  obtain ⟨⟨⟨⟨⟨g1, g2⟩, g3⟩, g4⟩, g5⟩, g6⟩ := h5
  simp [Cond.before, Cond.holds, Cond.value, h1, h2, h3, h4, g1, g2, g3, g4, g5, g6]
def isCode : Jvm.Cond → Bool
  | .code _ _ _ _ => true
  | _ => false
theorem all_split {L : List Jvm.Cond} {P : Jvm.Cond → Bool} (h1 : L.all (fun c => isCode c || P c) = true) (h2 : ∀ c ∈ L.filter isCode, P c = true) : L.all P = true := by
  refine List.all_eq_true.mpr fun c hc => ?_
  have h := List.all_eq_true.mp h1 c hc
  rcases Bool.eq_false_or_eq_true (isCode c) with hi | hi
  · exact h2 c (List.mem_filter.mpr ⟨hc, hi⟩)
  · simpa [hi] using h
set_option maxRecDepth 65536 in
theorem w_c0 : (Jvm.Cond.code x code maxLocals ret).before args0 about1 = true := code_word (m := ⟨1, 1⟩) (meth := k1m1) (c := k1c1) (by decide +kernel) rfl rfl rfl (by decide +kernel)
set_option maxRecDepth 65536 in
theorem w_c1 : (Jvm.Cond.code ({ cls := "com/example/fixd/fixd/nmea/FieldsDigitsPinLaw", name := "ch", desc := "(IIIIC)C" } : Jvm.MethodName) method_3_code (5 : Nat) (Option.some Jvm.ClassFile.FieldType.char)).before args0 about1 = true := code_word (m := ⟨1, 2⟩) (meth := k1m2) (c := k1c2) (by decide +kernel) rfl rfl rfl (by decide +kernel)
set_option maxRecDepth 65536 in
theorem w_c2 : (Jvm.Cond.code ({ cls := "com/example/fixd/fixd/nmea/FieldsDigitsPinLaw", name := "pow10", desc := "(I)I" } : Jvm.MethodName) method_4_code (1 : Nat) (Option.some Jvm.ClassFile.FieldType.int)).before args0 about1 = true := code_word (m := ⟨1, 3⟩) (meth := k1m3) (c := k1c3) (by decide +kernel) rfl rfl rfl (by decide +kernel)
set_option maxRecDepth 65536 in
theorem w_c3 : (Jvm.Cond.code ({ cls := "java/lang/String", name := "<init>", desc := "([C)V" } : Jvm.MethodName) jdk_42_method_3_code (2 : Nat) (Option.none : Option Jvm.ClassFile.FieldType)).before args0 about1 = true := code_word (m := ⟨7, 1⟩) (meth := k7m1) (c := k7c1) (by decide +kernel) rfl rfl rfl (by decide +kernel)
set_option maxRecDepth 65536 in
theorem w_c4 : (Jvm.Cond.code ({ cls := "java/lang/String", name := "<init>", desc := "([CIILjava/lang/Void;)V" } : Jvm.MethodName) jdk_42_method_149_code (6 : Nat) (Option.none : Option Jvm.ClassFile.FieldType)).before args0 about1 = true := code_word (m := ⟨7, 3⟩) (meth := k7m3) (c := k7c3) (by decide +kernel) rfl rfl rfl (by decide +kernel)
set_option maxRecDepth 65536 in
theorem w_c5 : (Jvm.Cond.code ({ cls := "java/lang/Object", name := "<init>", desc := "()V" } : Jvm.MethodName) object_method_1_code (1 : Nat) (Option.none : Option Jvm.ClassFile.FieldType)).before args0 about1 = true := code_word (m := ⟨0, 0⟩) (meth := k0m0) (c := k0c0) (by decide +kernel) rfl rfl rfl (by decide +kernel)
set_option maxRecDepth 65536 in
theorem w_c6 : (Jvm.Cond.code ({ cls := "java/lang/StringUTF16", name := "compress", desc := "([CII)[B" } : Jvm.MethodName) jdk_52_method_16_code (6 : Nat) (Option.some (Jvm.ClassFile.FieldType.array Jvm.ClassFile.FieldType.byte))).before args0 about1 = true := code_word (m := ⟨8, 2⟩) (meth := k8m2) (c := k8c2) (by decide +kernel) rfl rfl rfl (by decide +kernel)
set_option maxRecDepth 65536 in
theorem w_c7 : (Jvm.Cond.code ({ cls := "java/lang/StringUTF16", name := "compress", desc := "([CI[BII)I" } : Jvm.MethodName) jdk_52_method_21_code (7 : Nat) (Option.some Jvm.ClassFile.FieldType.int)).before args0 about1 = true := code_word (m := ⟨8, 3⟩) (meth := k8m3) (c := k8c3) (by decide +kernel) rfl rfl rfl (by decide +kernel)
set_option maxRecDepth 65536 in
theorem w_c8 : (Jvm.Cond.code ({ cls := "java/lang/StringUTF16", name := "coderFromArrayLen", desc := "([BI)B" } : Jvm.MethodName) jdk_52_method_15_code (2 : Nat) (Option.some Jvm.ClassFile.FieldType.byte)).before args0 about1 = true := code_word (m := ⟨8, 1⟩) (meth := k8m1) (c := k8c1) (by decide +kernel) rfl rfl rfl (by decide +kernel)
set_option maxRecDepth 65536 in
theorem w_c9 : (Jvm.Cond.code ({ cls := "com/example/fixd/fixd/nmea/Fields", name := "digits", desc := "(Ljava/lang/String;II)I" } : Jvm.MethodName) prog_33_method_8_code (5 : Nat) (Option.some Jvm.ClassFile.FieldType.int)).before args0 about1 = true := code_word (m := ⟨9, 1⟩) (meth := k9m1) (c := k9c1) (by decide +kernel) rfl rfl rfl (by decide +kernel)
set_option maxRecDepth 65536 in
theorem w_c10 : (Jvm.Cond.code ({ cls := "com/example/fixd/fixd/nmea/Fields", name := "requireDigits", desc := "(Ljava/lang/String;II)V" } : Jvm.MethodName) prog_33_method_16_code (4 : Nat) (Option.none : Option Jvm.ClassFile.FieldType)).before args0 about1 = true := code_word (m := ⟨9, 2⟩) (meth := k9m2) (c := k9c2) (by decide +kernel) rfl rfl rfl (by decide +kernel)
set_option maxRecDepth 65536 in
theorem w_c11 : (Jvm.Cond.code ({ cls := "com/example/fixd/fixd/nmea/Fields", name := "digit", desc := "(Ljava/lang/String;I)I" } : Jvm.MethodName) prog_33_method_17_code (3 : Nat) (Option.some Jvm.ClassFile.FieldType.int)).before args0 about1 = true := code_word (m := ⟨9, 3⟩) (meth := k9m3) (c := k9c3) (by decide +kernel) rfl rfl rfl (by decide +kernel)
set_option maxRecDepth 65536 in
theorem w_c12 : (Jvm.Cond.code ({ cls := "java/lang/String", name := "charAt", desc := "(I)C" } : Jvm.MethodName) jdk_42_method_56_code (2 : Nat) (Option.some Jvm.ClassFile.FieldType.char)).before args0 about1 = true := code_word (m := ⟨7, 2⟩) (meth := k7m2) (c := k7c2) (by decide +kernel) rfl rfl rfl (by decide +kernel)
set_option maxRecDepth 65536 in
theorem w_c13 : (Jvm.Cond.code ({ cls := "java/lang/String", name := "isLatin1", desc := "()Z" } : Jvm.MethodName) jdk_42_method_154_code (1 : Nat) (Option.some Jvm.ClassFile.FieldType.boolean)).before args0 about1 = true := code_word (m := ⟨7, 4⟩) (meth := k7m4) (c := k7c4) (by decide +kernel) rfl rfl rfl (by decide +kernel)
set_option maxRecDepth 65536 in
theorem w_c14 : (Jvm.Cond.code ({ cls := "java/lang/StringLatin1", name := "charAt", desc := "([BI)C" } : Jvm.MethodName) jdk_43_method_2_code (2 : Nat) (Option.some Jvm.ClassFile.FieldType.char)).before args0 about1 = true := code_word (m := ⟨10, 1⟩) (meth := k10m1) (c := k10c1) (by decide +kernel) rfl rfl rfl (by decide +kernel)
set_option maxRecDepth 65536 in
theorem w_c15 : (Jvm.Cond.code ({ cls := "java/lang/String", name := "checkIndex", desc := "(II)V" } : Jvm.MethodName) jdk_42_method_155_code (2 : Nat) (Option.none : Option Jvm.ClassFile.FieldType)).before args0 about1 = true := code_word (m := ⟨7, 5⟩) (meth := k7m5) (c := k7c5) (by decide +kernel) rfl rfl rfl (by decide +kernel)
set_option maxRecDepth 65536 in
theorem w_c16 : (Jvm.Cond.code ({ cls := "jdk/internal/util/Preconditions", name := "checkIndex", desc := "(IILjava/util/function/BiFunction;)I" } : Jvm.MethodName) jdk_41_method_11_code (3 : Nat) (Option.some Jvm.ClassFile.FieldType.int)).before args0 about1 = true := code_word (m := ⟨11, 1⟩) (meth := k11m1) (c := k11c1) (by decide +kernel) rfl rfl rfl (by decide +kernel)
def codes1 : List Jvm.Cond := [Jvm.Cond.code x code maxLocals ret, Jvm.Cond.code ({ cls := "com/example/fixd/fixd/nmea/FieldsDigitsPinLaw", name := "ch", desc := "(IIIIC)C" } : Jvm.MethodName) method_3_code (5 : Nat) (Option.some Jvm.ClassFile.FieldType.char), Jvm.Cond.code ({ cls := "com/example/fixd/fixd/nmea/FieldsDigitsPinLaw", name := "pow10", desc := "(I)I" } : Jvm.MethodName) method_4_code (1 : Nat) (Option.some Jvm.ClassFile.FieldType.int), Jvm.Cond.code ({ cls := "java/lang/String", name := "<init>", desc := "([C)V" } : Jvm.MethodName) jdk_42_method_3_code (2 : Nat) (Option.none : Option Jvm.ClassFile.FieldType), Jvm.Cond.code ({ cls := "java/lang/String", name := "<init>", desc := "([CIILjava/lang/Void;)V" } : Jvm.MethodName) jdk_42_method_149_code (6 : Nat) (Option.none : Option Jvm.ClassFile.FieldType), Jvm.Cond.code ({ cls := "java/lang/Object", name := "<init>", desc := "()V" } : Jvm.MethodName) object_method_1_code (1 : Nat) (Option.none : Option Jvm.ClassFile.FieldType), Jvm.Cond.code ({ cls := "java/lang/StringUTF16", name := "compress", desc := "([CII)[B" } : Jvm.MethodName) jdk_52_method_16_code (6 : Nat) (Option.some (Jvm.ClassFile.FieldType.array Jvm.ClassFile.FieldType.byte)), Jvm.Cond.code ({ cls := "java/lang/StringUTF16", name := "compress", desc := "([CI[BII)I" } : Jvm.MethodName) jdk_52_method_21_code (7 : Nat) (Option.some Jvm.ClassFile.FieldType.int), Jvm.Cond.code ({ cls := "java/lang/StringUTF16", name := "coderFromArrayLen", desc := "([BI)B" } : Jvm.MethodName) jdk_52_method_15_code (2 : Nat) (Option.some Jvm.ClassFile.FieldType.byte), Jvm.Cond.code ({ cls := "com/example/fixd/fixd/nmea/Fields", name := "digits", desc := "(Ljava/lang/String;II)I" } : Jvm.MethodName) prog_33_method_8_code (5 : Nat) (Option.some Jvm.ClassFile.FieldType.int), Jvm.Cond.code ({ cls := "com/example/fixd/fixd/nmea/Fields", name := "requireDigits", desc := "(Ljava/lang/String;II)V" } : Jvm.MethodName) prog_33_method_16_code (4 : Nat) (Option.none : Option Jvm.ClassFile.FieldType), Jvm.Cond.code ({ cls := "com/example/fixd/fixd/nmea/Fields", name := "digit", desc := "(Ljava/lang/String;I)I" } : Jvm.MethodName) prog_33_method_17_code (3 : Nat) (Option.some Jvm.ClassFile.FieldType.int), Jvm.Cond.code ({ cls := "java/lang/String", name := "charAt", desc := "(I)C" } : Jvm.MethodName) jdk_42_method_56_code (2 : Nat) (Option.some Jvm.ClassFile.FieldType.char), Jvm.Cond.code ({ cls := "java/lang/String", name := "isLatin1", desc := "()Z" } : Jvm.MethodName) jdk_42_method_154_code (1 : Nat) (Option.some Jvm.ClassFile.FieldType.boolean), Jvm.Cond.code ({ cls := "java/lang/StringLatin1", name := "charAt", desc := "([BI)C" } : Jvm.MethodName) jdk_43_method_2_code (2 : Nat) (Option.some Jvm.ClassFile.FieldType.char), Jvm.Cond.code ({ cls := "java/lang/String", name := "checkIndex", desc := "(II)V" } : Jvm.MethodName) jdk_42_method_155_code (2 : Nat) (Option.none : Option Jvm.ClassFile.FieldType), Jvm.Cond.code ({ cls := "jdk/internal/util/Preconditions", name := "checkIndex", desc := "(IILjava/util/function/BiFunction;)I" } : Jvm.MethodName) jdk_41_method_11_code (3 : Nat) (Option.some Jvm.ClassFile.FieldType.int)]
set_option maxRecDepth 65536 in
theorem codes_eq : words1.filter isCode = codes1 := rfl
theorem w_codes : ∀ c ∈ words1.filter isCode, c.before args0 about1 = true := by
  rw [codes_eq]
  intro c hc
  simp only [codes1, List.mem_cons, List.not_mem_nil, or_false] at hc
  rcases hc with rfl | rfl | rfl | rfl | rfl | rfl | rfl | rfl | rfl | rfl | rfl | rfl | rfl | rfl | rfl | rfl | rfl
  · exact w_c0
  · exact w_c1
  · exact w_c2
  · exact w_c3
  · exact w_c4
  · exact w_c5
  · exact w_c6
  · exact w_c7
  · exact w_c8
  · exact w_c9
  · exact w_c10
  · exact w_c11
  · exact w_c12
  · exact w_c13
  · exact w_c14
  · exact w_c15
  · exact w_c16
set_option maxRecDepth 65536 in
theorem w_t1 : (words1.take 24).all (fun c => isCode c || c.before args0 about1) = true := by decide +kernel
set_option maxRecDepth 65536 in
theorem w_t2 : ((words1.drop 24).take 24).all (fun c => isCode c || c.before args0 about1) = true := by decide +kernel
set_option maxRecDepth 65536 in
theorem w_t3 : (((words1.drop 24).drop 24).take 24).all (fun c => isCode c || c.before args0 about1) = true := by decide +kernel
set_option maxRecDepth 65536 in
theorem w_t4 : (((words1.drop 24).drop 24).drop 24).all (fun c => isCode c || c.before args0 about1) = true := by decide +kernel
theorem w_tables : (allAtoms (Jvm.Cond.code x code maxLocals ret :: tables_1)).before args0 about1 = true := by
  rw [allAtoms_all]
  show words1.all (fun c => c.before args0 about1) = true
  refine all_split ?_ w_codes
  rw [← List.take_append_drop 24 words1, List.all_append, w_t1, ← List.take_append_drop 24 (words1.drop 24), List.all_append, w_t2, ← List.take_append_drop 24 ((words1.drop 24).drop 24), List.all_append, w_t3, w_t4]
  rfl
set_option maxRecDepth 65536 in
theorem w_rest : rest_1_c.before args0 about1 = true := by decide +kernel
set_option maxRecDepth 65536 in
theorem w_case : (Jvm.Cond.and given_1 narrow_1).before args0 about1 = true := by decide +kernel
theorem w_applies : (headSpec (Jvm.Cond.code x code maxLocals ret :: tables_1) room_1).applies x e0.platform about1 = true :=
  (Spec.applies_iff w_frames).mpr ⟨w_running, w_runnable, w_alone, w_named, w_hears, w_ripe, w_room, w_tables⟩
theorem atStart : AtStart classFile x code maxLocals ret World_1 tables_1 room_1 Calls_1 rest_1 Pre_1 launch0 p0 e0 about1 theMethod args0 below0 :=
  ⟨lists_1, trivial, launch0.admits_env _ _ _, launch0.least_env, fairChoices_fair.cas, fairChoices_fair.clock, w_frames, w_args, w_heap, w_applies, trivial, w_rest, w_case⟩
end start1
theorem witness_1 : WitnessClaimed_1 := ⟨start1.p0, start1.e0, start1.about1, start1.theMethod, start1.args0, start1.below0, start1.atStart⟩
end Jvm.Pilot.@@N@@
