import JvmDerived
import JvmDerived.Pilot.@@N@@Statement
import JvmDerived.Pilot.@@N@@Code
set_option linter.unusedVariables false
set_option linter.unusedSimpArgs false
namespace Jvm.RoadKit
open Sem ClassFile Op Lib Jvm.Stand Jvm.Free Jvm.LawKit
section New
variable {p : Program} {l : Launch} {e : Env} {R : Room} {s : State} {m : MethodId} {args : Array Value} {below : List Frame} {meth : Method} {c : Code} {T : State} {locs : List Loc} {cells slots : Nat}
theorem retI (X : Stand p l e R s m args below meth c T locs cells slots) (hx : p.tables.exec = Jvm.exec) {pc : Nat} {Ls : Array Slot} {z : Int32} {rest : List Value} (hret : meth.sig.returnType = some .int) (hd : decode c.code pc = .ok (.ireturn, 1)) {fs : List Frame}
    (hl : ∀ (f : JFrame) (acts : List Action), f.method = m → f.locked = none → f.entered = [] → (doReturn e (T.setTop f) acts (some (.int z))).1 = T.setFrames fs) : Steps p.tables e below (T.setTop (mkF m pc Ls (.int z :: rest))) (T.setFrames fs) := by
  have hm' : T.vm.method? m = some meth := X.method'
  have hn : narrow .int (.int z) = .int z := rfl
  show Steps p.tables e below (T.setTop { method := m, pc := pc, locals := Ls, stack := _ :: rest, locked := none }) _
  jvm_step X.here [X.here.top, hx, hd, hm', hret, hn]
  first | (intro acts; rw [hl _ acts rfl rfl rfl]) | rw [hl _ _ rfl rfl rfl]
  exact Steps.refl _
/-- the run comes from S to a state of which Φ holds -/
def ownGo (tb : Tables) (e : Env) (below : List Frame) (S : State) (Φ : State → Prop) : Prop := ∃ t, Steps tb e below S t ∧ Φ t
theorem ownStep {tb : Tables} {S S' : State} {Φ : State → Prop} (h : ∀ t, Steps tb e below S' t → Steps tb e below S t) (k : ownGo tb e below S' Φ) : ownGo tb e below S Φ := by
  obtain ⟨t, a, b⟩ := k; exact ⟨t, h t a, b⟩
/-- a body's end: what its contract says -/
def ownEnd (below : List Frame) (s : State) (Q : Option Value → Heap → List Loc → Prop) (k n : Nat) (t : State) : Prop :=
  t.status = .running ∧ ∃ v L, Ended t below (.returned v) ∧ Q v t.heap L ∧ FrameEnd s (.returned v) t L k n
theorem ownFin {tb : Tables} {S : State} {Q : Option Value → Heap → List Loc → Prop} {k n : Nat} (h : ownGo tb e below S (ownEnd below s Q k n)) :
    ∃ s₂ o, Steps tb e below S s₂ ∧ s₂.status = .running ∧ Ended s₂ below o ∧ ∃ v L, o = .returned v ∧ Q v s₂.heap L ∧ FrameEnd s o s₂ L k n := by
  obtain ⟨t, a, b, v, L, c1, d, f⟩ := h; exact ⟨t, _, a, b, c1, v, L, rfl, d, f⟩
theorem ownRet (X : Stand p l e R s m args below meth c T locs cells slots) {g : JFrame} {v : Option Value} {Q : Option Value → Heap → List Loc → Prop} {k n : Nat} (hlocks : meth.locks = false) (hv : meth.sig.returnType = none → v = none)
    (hs : ∀ fs, (∀ (f : JFrame) (acts : List Action), f.method = m → f.locked = none → f.entered = [] → (doReturn e (T.setTop f) acts v).1 = T.setFrames fs) → Steps p.tables e below (T.setTop g) (T.setFrames fs))
    (hQ : Q v T.heap locs) (hc : cells ≤ k) (hn : slots ≤ n) : ownGo p.tables e below (T.setTop g) (ownEnd below s Q k n) := by
  obtain ⟨fs, hr, hrun, hended, hW, hsame⟩ := X.leave hv hlocks
  exact ⟨_, hs fs hr, hrun, v, locs, hended, hQ, ⟨_, rfl⟩, hW, hsame.mono hc hn⟩
end New
section Heaps
variable {Z : State} {h h' h0 : Heap} {ws : List Addr}
theorem own_extOf (K : Keep h h' []) : Ext h h' := ⟨K.1, fun a c q => K.2.1 a c q nin0⟩
theorem own_extRefl (h : Heap) : Ext h h := ⟨Nat.le_refl _, fun _ _ q => q⟩
theorem own_extTrans {h2 : Heap} (E : Ext h h') (F : Ext h' h2) : Ext h h2 := ⟨Nat.le_trans E.1 F.1, fun a c q => F.2 a c (E.2 a c q)⟩
theorem own_staKeep {C n d : String} {w : Value} (F : Sta Z h C n d w) (K : Keep h h' ws) (q : ∀ x ∈ ws, ∀ cell : Cell, h[x]? = some cell → cell.vm.isStatics = false) : Sta Z h' C n d w := by
  obtain ⟨cf, i, k, f, st, cell, h1, h2, h3, h4, h5, h6, h7⟩ := F
  exact ⟨cf, i, k, f, st, cell, h1, h2, h3, h4, K.2.1 st cell h5 (fun z => by rw [q st z cell h5] at h6; cases h6), h6, h7⟩
theorem own_insKeep {a : Addr} {C : String} {b : Bool} (F : Ins Z h a C b) (K : Keep h h' ws) : Ins Z h' a C b := by
  obtain ⟨cell, cT, h1, h2, h3⟩ := F
  obtain ⟨c', e1, e2, e3, -⟩ := K.2.2 a cell h1
  exact ⟨c', cT, e1, h2, by rw [e2, e3]; exact h3⟩
theorem own_scrSet {a : Addr} {cl : Cell} {z j x : Int32} (F : Scr Z h a cl z) (hj : ¬ (j < 0 ∨ cl.slots.size ≤ j.toNatClampNeg)) (W : Wr h h' a j.toNatClampNeg (.int x)) : ∃ cl', Scr Z h' a cl' z := by
  obtain ⟨A, S, N, H⟩ := F
  refine ⟨_, A.same W, by rw [sz_set]; exact S, N, fun i hi => ?_⟩
  rw [sz_set] at hi
  by_cases e : i = j
  · have q := get_hit (v := Value.int x) hj e
    rw [q, atv_of q]
  · have q := get_miss (c := cl) (v := Value.int x) (fun y => hj (Or.inl y)) (fun y => hi (Or.inl y)) e
    have r := H i hi
    rw [← q] at r
    rw [r, atv_of r]
theorem own_scrOf {a : Addr} {k : ClassId} {z : Int32} {vs : List Value} {d : Value} (F : Arv Z h a k .int z vs d) : ∃ cl, Scr Z h a cl z := by
  obtain ⟨c, A, q, S, N, H, G⟩ := F
  refine ⟨c, A, S, N, fun i hi => ?_⟩
  have lt : i.toNatClampNeg < c.slots.size := Nat.lt_of_not_le fun y => hi (Or.inr y)
  obtain ⟨w, hw⟩ := fit_I (G _ lt) (Or.inl rfl)
  have e := H _ lt
  rw [hw] at e
  rw [e, atv_of e]
end Heaps
section Start
variable {args : Array Value} {first s : State} {o : Option Outcome} {idx : List Nat} {t : Term}
theorem own_eqI {k : Int32} (h : (Cond.eq t (.int k)).value args first o s idx = some true) : t.eval args first o idx s = some (.int k) := by
  simp only [Cond.value, Term.eval] at h
  cases ht : t.eval args first o idx s with
  | none => simp [ht] at h
  | some x => cases x <;> simp [ht] at h ⊢; exact h
theorem own_len0 {k : Int32} {a : Addr} {cl : Cell} {ty : FieldType} (h : (Term.length t).eval args first o idx s = some (.int k)) (ht : t.eval args first o idx s = some (.ref a)) (A : Arr s s.heap a cl ty) : cl.slots.size < 2 ^ 31 ∧ cl.slots.size.toInt32 = k := by
  have e5 := A.fin (U := s) (Vm.Alike.refl _)
  simp only [Term.eval, ht, Option.bind_eq_bind, Option.bind_some, e5] at h
  by_cases q : cl.slots.size < 2 ^ 31
  · rw [if_pos q] at h; exact ⟨q, Value.int.inj (Option.some.inj h)⟩
  · rw [if_neg q] at h; cases h
theorem own_idxsub {k j : Int32} (hj : ¬ j < 0) : (Term.sub (.index 0) (.int k)).eval args s o [j.toNatClampNeg] s = some (.int (j - k)) := by
  have q : (Term.index 0).eval args s o [j.toNatClampNeg] s = some (.int j) := idx_at hj
  simp only [Term.eval] at q ⊢
  simpa using q
theorem own_arv0 {Z : State} {a : Addr} {cl : Cell} {ty : FieldType} {d : Value} (A : Arr Z s.heap a cl ty) (h : cl.slots.size < 2 ^ 31 ∧ cl.slots.size.toInt32 = (0 : Int32)) : Arv Z s.heap a cl.cls ty (0 : Int32) [] d := by
  have z : cl.slots.size = 0 := by
    have q := len_toInt h.1
    rw [h.2] at q
    have e0 : (0 : Int32).toInt = 0 := by decide
    omega
  exact ⟨cl, A, rfl, z, by decide, fun k hk => absurd hk (by omega), fun k hk => absurd hk (by omega)⟩
end Start
end Jvm.RoadKit
/- laws to paste: Road.backV (cut by pick.py; bodies as the Statement names them) -/
namespace Jvm.Pilot.@@N@@
namespace StrChars
open Jvm Sem ClassFile Op Lib Jvm.Stand Jvm.Free.XT Jvm.Free.ALB Jvm.Free.JM Jvm.Free
open Jvm.Lib.Cold (StaticIs)
/-- a char array whose places are chars -/
def Ch (a : Addr) (A : Cell) (U : State) : Prop := Arr .char a A U ∧ Typed .char A
theorem Ch.mv {a : Addr} {A : Cell} {U U' : State} (h : Ch a A U) (hal : U.vm.Alike U'.vm) (hh : U'.heap = U.heap) : Ch a A U' := ⟨h.1.mv hal hh, h.2⟩
theorem Ch.keep {a : Addr} {A : Cell} {U U' : State} (h : Ch a A U) (hal : U.vm.Alike U'.vm) (hk : U'.heap[a]? = some A) : Ch a A U' := ⟨h.1.keep hal hk, h.2⟩
/-- what place i of a char[]'s cell holds -/
def cv (A : Cell) (i : Nat) : Int32 := match A.slots[i]? with | some (.int x) => x | _ => 0
theorem Ch.get {a : Addr} {A : Cell} {U : State} (h : Ch a A U) {i : Nat} (hi : i < A.slots.size) : A.slots[i]? = some (.int (cv A i)) := by
  have e := Array.getElem?_eq_getElem hi
  have f := h.2 i _ e
  unfold cv; rw [e]
  generalize A.slots[i] = v at f
  cases v <;> simp [fits] at f ⊢
/-- the byte that i2b leaves of a char -/
def lo8 (x : Int32) : Int32 := x.toInt8.toInt32
theorem fits_lo8 (y : Int32) : fits .byte (.int (lo8 y)) = true := by
  have h1 := y.toInt8.le_toInt
  have h2 := y.toInt8.toInt_lt
  simp only [lo8, fits, Bool.and_eq_true, decide_eq_true_eq, Int32.le_iff_toInt_le, Int8.toInt_toInt32, show (-128 : Int32).toInt = -128 from by decide, show (127 : Int32).toInt = 127 from by decide]
  omega
/-- A' is A but that each place j of lo .. hi - 1 holds f j -/
def Laid (A A' : Cell) (lo hi : Nat) (f : Nat → Value) : Prop := A'.cls = A.cls ∧ A'.vm = A.vm ∧ A'.slots.size = A.slots.size ∧ ∀ i, A'.slots[i]? = if lo ≤ i ∧ i < hi then some (f i) else A.slots[i]?
theorem Laid.zero (A : Cell) (lo : Nat) (f : Nat → Value) : Laid A A lo (lo + 0) f := ⟨rfl, rfl, rfl, fun i => by rw [if_neg (by omega)]⟩
theorem Laid.step {A Ak : Cell} {lo k : Nat} {f : Nat → Value} {v : Value} (h : Laid A Ak lo k f) (hlo : lo ≤ k) (hk : k < Ak.slots.size) (hv : v = f k) : Laid A (Ak.setSlot k v) lo (k + 1) f := by
  refine ⟨h.1, h.2.1, by simpa [Cell.setSlot] using h.2.2.1, fun i => ?_⟩
  by_cases e : k = i
  · subst e; rw [Cell.slots_setSlot_self v hk, if_pos (by omega), hv]
  · rw [Cell.slots_setSlot_ne v e, h.2.2.2 i]
    by_cases q : lo ≤ i ∧ i < k
    · rw [if_pos q, if_pos (by omega)]
    · rw [if_neg q, if_neg (by omega)]
def U16 : String := "java/lang/StringUTF16"
namespace Cmp5
def yN : MethodName := ⟨"java/lang/StringUTF16", "compress", "([CI[BII)I"⟩
abbrev yB : ByteArray := jdk_52_method_21_code
theorem d0 : decode yB 0 = .ok (.iconst 0, 1) := by decide +kernel
theorem d1 : decode yB 1 = .ok (.istore 5, 2) := by decide +kernel
theorem d3 : decode yB 3 = .ok (.iload 5, 2) := by decide +kernel
theorem d5 : decode yB 5 = .ok (.iload 4, 2) := by decide +kernel
theorem d7 : decode yB 7 = .ok (.if_icmp (.ge) 37, 3) := by decide +kernel
theorem d10 : decode yB 10 = .ok (.aload_n 0, 1) := by decide +kernel
theorem d11 : decode yB 11 = .ok (.iload_n 1, 1) := by decide +kernel
theorem d12 : decode yB 12 = .ok (.caload, 1) := by decide +kernel
theorem d13 : decode yB 13 = .ok (.istore 6, 2) := by decide +kernel
theorem d15 : decode yB 15 = .ok (.iload 6, 2) := by decide +kernel
theorem d17 : decode yB 17 = .ok (.sipush 255, 3) := by decide +kernel
theorem d20 : decode yB 20 = .ok (.if_icmp (.le) 6, 3) := by decide +kernel
theorem d26 : decode yB 26 = .ok (.aload_n 2, 1) := by decide +kernel
theorem d27 : decode yB 27 = .ok (.iload_n 3, 1) := by decide +kernel
theorem d28 : decode yB 28 = .ok (.iload 6, 2) := by decide +kernel
theorem d30 : decode yB 30 = .ok (.i2b, 1) := by decide +kernel
theorem d31 : decode yB 31 = .ok (.bastore, 1) := by decide +kernel
theorem d32 : decode yB 32 = .ok (.iinc 1 1, 3) := by decide +kernel
theorem d35 : decode yB 35 = .ok (.iinc 3 1, 3) := by decide +kernel
theorem d38 : decode yB 38 = .ok (.iinc 5 1, 3) := by decide +kernel
theorem d41 : decode yB 41 = .ok (.goto (-38), 3) := by decide +kernel
theorem d44 : decode yB 44 = .ok (.iload 4, 2) := by decide +kernel
theorem d46 : decode yB 46 = .ok (.ireturn, 1) := by decide +kernel
def site : List Cond := []
def tab : Cond := tabOf yN yB 7 (some .int) site
def P (b : Addr) (A : Cell) (d : Addr) (B : Cell) (o q len : Nat) (args : Array Value) (s : State) : Prop := args = #[.ref b, .int (Int32.ofNat o), .ref d, .int (Int32.ofNat q), .int (Int32.ofNat len)] ∧ Ch b A s ∧ Arr .byte d B s ∧ b ≠ d ∧ o + len ≤ A.slots.size ∧ q + len ≤ B.slots.size ∧ ∀ i, i < len → ¬ 255 < cv A (o + i)
def E (b : Addr) (A : Cell) (d : Addr) (B : Cell) (o q len : Nat) (r : Option Value) (s u : State) : Prop := r = some (.int (Int32.ofNat len)) ∧ ∃ B', Put d B' s u ∧ Laid B B' q (q + len) (fun j => Value.int (lo8 (cv A (o + (j - q)))))
/-- no char of the range above 255: len; the places written hold each char's low byte -/
theorem law (l : Launch) (b : Addr) (A : Cell) (d : Addr) (B : Cell) (o q len : Nat) : Law l yN 5 5 0 0 yB 7 (some .int) site (P b A d B o q len) (E b A d B o q len) (copyLocs d q len) 0 0 := by
  refine Law.of_walk (plainFor_of_name (by decide +kernel)) (by decide +kernel) (by decide +kernel) (by decide) (fun _ _ h => by rw [h.1]; rfl) (fun _ U U' hal hh h => ⟨h.1, h.2.1.mv hal hh, h.2.2.1.mv hal hh, h.2.2.2⟩) (fun r U U' V V' h1 hal h2 h => ⟨h.1, h.2.elim fun B' q => ⟨B', q.1.mv h1 h2, q.2⟩⟩) ?_
  intro p e s m args below meth c s₁ X0 hexec hbytes hml hret hlk hnm hown hh0 W hP
  obtain ⟨rfl, hA, hB, hne, l1, l2, hp⟩ := hP
  have c1 : Steps p.tables e below (s₁.setTop (entryFrame m #[.ref b, .int (Int32.ofNat o), .ref d, .int (Int32.ofNat q), .int (Int32.ofNat len)] 7)) (s₁.setTop (mkF m 0 #[.val (.ref b), .val (.int (Int32.ofNat o)), .val (.ref d), .val (.int (Int32.ofNat q)), .val (.int (Int32.ofNat len)), .unset, .unset] [])) := entry rfl
  have hA0 := hA.1.mv X0.warmed.alike hh0
  have hB0 := hB.mv X0.warmed.alike hh0
  have a31 := hA.1.2.2.2
  have c2 : Steps p.tables e below (s₁.setTop (entryFrame m #[.ref b, .int (Int32.ofNat o), .ref d, .int (Int32.ofNat q), .int (Int32.ofNat len)] 7)) (s₁.setTop (mkF m 3 #[.val (.ref b), .val (.int (Int32.ofNat o)), .val (.ref d), .val (.int (Int32.ofNat q)), .val (.int (Int32.ofNat len)), .val (.int 0), .unset] [])) := c1.trans (by
    refine iconstV X0.here hexec rfl 0 (hb hbytes d0) (by decide) ?_
    refine XS.istore X0.here hexec rfl (hb hbytes d1) rfl rfl ?_
    exact Steps.refl _)
  have loop : ∀ (r i : Nat), i + r = len → ∀ (z : Slot), (z = .unset ∨ ∃ w, z = .val w ∧ w.category = 1) → ∀ (Tl : State) (Bk : Cell), Stand p l e { frames := 0, locals := 0, cells := 0, slots := 0 } s m #[.ref b, .int (Int32.ofNat o), .ref d, .int (Int32.ofNat q), .int (Int32.ofNat len)] below meth c Tl ([] ++ copyLocs d q i) 0 0 → Put d Bk s₁ Tl → Laid B Bk q (q + i) (fun j => Value.int (lo8 (cv A (o + (j - q))))) →
      Steps p.tables e below (s₁.setTop (entryFrame m #[.ref b, .int (Int32.ofNat o), .ref d, .int (Int32.ofNat q), .int (Int32.ofNat len)] 7)) (Tl.setTop (mkF m 3 #[.val (.ref b), .val (.int (Int32.ofNat (o + i))), .val (.ref d), .val (.int (Int32.ofNat (q + i))), .val (.int (Int32.ofNat len)), .val (.int (Int32.ofNat i)), z] [])) → ∃ (T' : State) (B' : Cell) (z' : Slot), Stand p l e { frames := 0, locals := 0, cells := 0, slots := 0 } s m #[.ref b, .int (Int32.ofNat o), .ref d, .int (Int32.ofNat q), .int (Int32.ofNat len)] below meth c T' ([] ++ copyLocs d q len) 0 0 ∧ Put d B' s₁ T' ∧ Laid B B' q (q + len) (fun j => Value.int (lo8 (cv A (o + (j - q))))) ∧
      Steps p.tables e below (s₁.setTop (entryFrame m #[.ref b, .int (Int32.ofNat o), .ref d, .int (Int32.ofNat q), .int (Int32.ofNat len)] 7)) (T'.setTop (mkF m 3 #[.val (.ref b), .val (.int (Int32.ofNat (o + len))), .val (.ref d), .val (.int (Int32.ofNat (q + len))), .val (.int (Int32.ofNat len)), .val (.int (Int32.ofNat len)), z'] [])) := by
    intro r
    induction r with
    | zero =>
      intro i hi z hz Tl Bk Xl pl fl cl
      have hil : i = len := by omega
      rw [hil] at Xl fl cl
      exact ⟨Tl, Bk, z, Xl, pl, fl, cl⟩
    | succ r ih =>
      intro i hi z hz Tl Bk Xl pl fl cl
      have all := X0.warmed.alike.symm.trans Xl.warmed.alike
      have hAl := hA0.keep all (pl.other hne hA0.1)
      have hBk := hB0.like all pl.1 fl.1 fl.2.1 fl.2.2.1
      have hlt : q + i < Bk.slots.size := by rw [fl.2.2.1]; omega
      have c3 : Steps p.tables e below (s₁.setTop (entryFrame m #[.ref b, .int (Int32.ofNat o), .ref d, .int (Int32.ofNat q), .int (Int32.ofNat len)] 7)) (Tl.setTop (mkF m 12 #[.val (.ref b), .val (.int (Int32.ofNat (o + i))), .val (.ref d), .val (.int (Int32.ofNat (q + i))), .val (.int (Int32.ofNat len)), .val (.int (Int32.ofNat i)), z] [.int (Int32.ofNat (o + i)), .ref b])) := cl.trans (by
        refine XS.iload Xl.here hexec rfl (hb hbytes d3) rfl ?_
        refine XS.iload Xl.here hexec rfl (hb hbytes d5) rfl ?_
        refine XS.icmpNo Xl.here hexec rfl (hb hbytes d7) rfl (ii_ge_f (lt32 (by omega) (by omega))) ?_
        refine XS.aloadN Xl.here hexec rfl (hb hbytes d10) rfl rfl ?_
        refine XS.iloadN Xl.here hexec rfl (hb hbytes d11) rfl ?_
        exact Steps.refl _)
      have c4 : Steps p.tables e below (s₁.setTop (entryFrame m #[.ref b, .int (Int32.ofNat o), .ref d, .int (Int32.ofNat q), .int (Int32.ofNat len)] 7)) (Tl.setTop (mkF m 13 #[.val (.ref b), .val (.int (Int32.ofNat (o + i))), .val (.ref d), .val (.int (Int32.ofNat (q + i))), .val (.int (Int32.ofNat len)), .val (.int (Int32.ofNat i)), z] [.int (cv A (o + i))])) := c3.trans (by
        refine Xl.aget hexec hAl rfl (hA.get (i := o + i) (by omega)) rfl rfl (hb hbytes d12) ?_
        exact Steps.refl _)
      have c5 : Steps p.tables e below (s₁.setTop (entryFrame m #[.ref b, .int (Int32.ofNat o), .ref d, .int (Int32.ofNat q), .int (Int32.ofNat len)] 7)) (Tl.setTop (mkF m 15 #[.val (.ref b), .val (.int (Int32.ofNat (o + i))), .val (.ref d), .val (.int (Int32.ofNat (q + i))), .val (.int (Int32.ofNat len)), .val (.int (Int32.ofNat i)), .val (.int (cv A (o + i)))] [])) := c4.trans (by
        refine XS.istoreS Xl.here hexec rfl (hb hbytes d13) rfl rfl hz ?_
        exact Steps.refl _)
      have c6 : Steps p.tables e below (s₁.setTop (entryFrame m #[.ref b, .int (Int32.ofNat o), .ref d, .int (Int32.ofNat q), .int (Int32.ofNat len)] 7)) (Tl.setTop (mkF m 31 #[.val (.ref b), .val (.int (Int32.ofNat (o + i))), .val (.ref d), .val (.int (Int32.ofNat (q + i))), .val (.int (Int32.ofNat len)), .val (.int (Int32.ofNat i)), .val (.int (cv A (o + i)))] [.int (lo8 (cv A (o + i))), .int (Int32.ofNat (q + i)), .ref d])) := c5.trans (by
        refine XS.iload Xl.here hexec rfl (hb hbytes d15) rfl ?_
        refine sipushV Xl.here hexec rfl 255 (hb hbytes d17) (by decide) ?_
        refine XS.icmpYes Xl.here hexec rfl (pc0 := 20) rfl (hb hbytes d20) rfl (ii_le_t (hp i (by omega))) (by decide) rfl ?_
        refine XS.aloadN Xl.here hexec rfl (hb hbytes d26) rfl rfl ?_
        refine XS.iloadN Xl.here hexec rfl (hb hbytes d27) rfl ?_
        refine XS.iload Xl.here hexec rfl (hb hbytes d28) rfl ?_
        refine i2b Xl.here hexec rfl (hb hbytes d30) rfl ?_
        exact Steps.refl _)
      obtain ⟨T7, X7, p7, st7⟩ := Xl.aput hexec hBk rfl hlt rfl (fits_lo8 (cv A (o + i))) (g := (mkF m 31 #[.val (.ref b), .val (.int (Int32.ofNat (o + i))), .val (.ref d), .val (.int (Int32.ofNat (q + i))), .val (.int (Int32.ofNat len)), .val (.int (Int32.ofNat i)), .val (.int (cv A (o + i)))] [.int (lo8 (cv A (o + i))), .int (Int32.ofNat (q + i)), .ref d])) rfl (rest := []) rfl (hb hbytes d31)
      have c8 : Steps p.tables e below (s₁.setTop (entryFrame m #[.ref b, .int (Int32.ofNat o), .ref d, .int (Int32.ofNat q), .int (Int32.ofNat len)] 7)) (T7.setTop (mkF m 32 #[.val (.ref b), .val (.int (Int32.ofNat (o + i))), .val (.ref d), .val (.int (Int32.ofNat (q + i))), .val (.int (Int32.ofNat len)), .val (.int (Int32.ofNat i)), .val (.int (cv A (o + i)))] [])) := c6.trans (st7 _ (Steps.refl _))
      have c9 : Steps p.tables e below (s₁.setTop (entryFrame m #[.ref b, .int (Int32.ofNat o), .ref d, .int (Int32.ofNat q), .int (Int32.ofNat len)] 7)) (T7.setTop (mkF m 3 #[.val (.ref b), .val (.int (Int32.ofNat (o + i) + 1)), .val (.ref d), .val (.int (Int32.ofNat (q + i) + 1)), .val (.int (Int32.ofNat len)), .val (.int (Int32.ofNat i + 1)), .val (.int (cv A (o + i)))] [])) := c8.trans (by
        refine iincV X7.here hexec rfl 1 (hb hbytes d32) (by decide) rfl rfl ?_
        refine iincV X7.here hexec rfl 1 (hb hbytes d35) (by decide) rfl rfl ?_
        refine iincV X7.here hexec rfl 1 (hb hbytes d38) (by decide) rfl rfl ?_
        refine XS.goto X7.here hexec rfl (pc0 := 41) rfl (hb hbytes d41) (by decide) rfl ?_
        exact Steps.refl _)
      have c10 : Steps p.tables e below (s₁.setTop (entryFrame m #[.ref b, .int (Int32.ofNat o), .ref d, .int (Int32.ofNat q), .int (Int32.ofNat len)] 7)) (T7.setTop (mkF m 3 #[.val (.ref b), .val (.int (Int32.ofNat (o + (i + 1)))), .val (.ref d), .val (.int (Int32.ofNat (q + (i + 1)))), .val (.int (Int32.ofNat len)), .val (.int (Int32.ofNat (i + 1))), .val (.int (cv A (o + i)))] [])) := by
        have := c9
        rw [succ32, succ32, succ32] at this
        exact this
      exact ih (i + 1) (by omega) _ (Or.inr ⟨_, rfl, rfl⟩) T7 _ (by rw [copyLocs_step, ← List.append_assoc]; exact X7) (pl.trans p7) (fl.step (by omega) hlt (by simp)) c10
  obtain ⟨T9, B9, z9, X9, p9, f9, g9⟩ := loop len 0 (by omega) .unset (Or.inl rfl) s₁ B (by simpa [copyLocs] using X0) ⟨hB0.1, fun _ _ => rfl, rfl⟩ (Laid.zero _ _ _) c2
  have c11 : Steps p.tables e below (s₁.setTop (entryFrame m #[.ref b, .int (Int32.ofNat o), .ref d, .int (Int32.ofNat q), .int (Int32.ofNat len)] 7)) (T9.setTop (mkF m 46 #[.val (.ref b), .val (.int (Int32.ofNat (o + len))), .val (.ref d), .val (.int (Int32.ofNat (q + len))), .val (.int (Int32.ofNat len)), .val (.int (Int32.ofNat len)), z9] [.int (Int32.ofNat len)])) := g9.trans (by
    refine XS.iload X9.here hexec rfl (hb hbytes d3) rfl ?_
    refine XS.iload X9.here hexec rfl (hb hbytes d5) rfl ?_
    refine XS.icmpYes X9.here hexec rfl (pc0 := 7) rfl (hb hbytes d7) rfl (ii_ge_t (nlt32 (by omega) (Nat.le_refl _))) (by decide) rfl ?_
    refine XS.iload X9.here hexec rfl (hb hbytes d44) rfl ?_
    exact Steps.refl _)
  exact ⟨T9, some (.int (Int32.ofNat len)), _, _, _, X9, by simp, rfl, rfl, (fun h => by cases h), ⟨rfl, B9, p9.from hh0, f9⟩, fun fs hl => c11.trans (X9.ireturnOut hexec hret rfl (Or.inl rfl) (hb hbytes d46) hl)⟩
end Cmp5
namespace Cmp3
def yN : MethodName := ⟨"java/lang/StringUTF16", "compress", "([CII)[B"⟩
abbrev yB : ByteArray := jdk_52_method_16_code
theorem d0 : decode yB 0 = .ok (.iload_n 2, 1) := by decide +kernel
theorem d1 : decode yB 1 = .ok (.newarray .byte, 2) := by decide +kernel
theorem d3 : decode yB 3 = .ok (.astore_n 3, 1) := by decide +kernel
theorem d4 : decode yB 4 = .ok (.aload_n 0, 1) := by decide +kernel
theorem d5 : decode yB 5 = .ok (.iload_n 1, 1) := by decide +kernel
theorem d6 : decode yB 6 = .ok (.aload_n 3, 1) := by decide +kernel
theorem d7 : decode yB 7 = .ok (.iconst 0, 1) := by decide +kernel
theorem d8 : decode yB 8 = .ok (.iload_n 2, 1) := by decide +kernel
theorem d9 : decode yB 9 = .ok (.invokestatic 115, 3) := by decide +kernel
theorem d12 : decode yB 12 = .ok (.istore 4, 2) := by decide +kernel
theorem d14 : decode yB 14 = .ok (.iload 4, 2) := by decide +kernel
theorem d16 : decode yB 16 = .ok (.iload_n 2, 1) := by decide +kernel
theorem d17 : decode yB 17 = .ok (.if_icmp (.eq) 40, 3) := by decide +kernel
theorem d57 : decode yB 57 = .ok (.aload_n 3, 1) := by decide +kernel
theorem d58 : decode yB 58 = .ok (.areturn, 1) := by decide +kernel
def site : List Cond := [.arrayClass .byte, Cmp5.tab] ++ staticW U16 115 Cmp5.yN
def tab : Cond := tabOf yN yB 6 (some (.array .byte)) site
def P (b : Addr) (A : Cell) (o len : Nat) (args : Array Value) (s : State) : Prop := args = #[.ref b, .int (Int32.ofNat o), .int (Int32.ofNat len)] ∧ Ch b A s ∧ o + len ≤ A.slots.size ∧ len ≤ 536870912 ∧ ∀ i, i < len → ¬ 255 < cv A (o + i)
def E (b : Addr) (A : Cell) (o len : Nat) (r : Option Value) (s u : State) : Prop := NewArr .byte "[B" len (fun j => .int (lo8 (cv A (o + j)))) r s u ∧ u.heap.size = s.heap.size + 1
/-- no char of the range above 255: a new byte[] of their low bytes -/
theorem law (l : Launch) (b : Addr) (A : Cell) (o len : Nat) : Law l yN 3 3 1 18 yB 6 (some (.array .byte)) site (P b A o len) (E b A o len) [] 1 len := by
  refine Law.of_walk (plainFor_of_name (by decide +kernel)) (by decide +kernel) (by decide +kernel) (by decide) (fun _ _ h => by rw [h.1]; rfl) (fun _ U U' hal hh h => ⟨h.1, h.2.1.mv hal hh, h.2.2⟩) (fun r U U' V V' h1 hal h2 h => ⟨NewArr.mv r U U' V V' h1 hal h2 h.1, by rw [h1, h2]; exact h.2⟩) ?_
  intro p e s m args below meth c s₁ X0 hexec hbytes hml hret hlk hnm hown hh0 W hP
  obtain ⟨rfl, hA, l1, l2, hp⟩ := hP
  have a31 := hA.1.2.2.2
  have c1 : Steps p.tables e below (s₁.setTop (entryFrame m #[.ref b, .int (Int32.ofNat o), .int (Int32.ofNat len)] 6)) (s₁.setTop (mkF m 0 #[.val (.ref b), .val (.int (Int32.ofNat o)), .val (.int (Int32.ofNat len)), .unset, .unset, .unset] [])) := entry rfl
  have c2 : Steps p.tables e below (s₁.setTop (entryFrame m #[.ref b, .int (Int32.ofNat o), .int (Int32.ofNat len)] 6)) (s₁.setTop (mkF m 1 #[.val (.ref b), .val (.int (Int32.ofNat o)), .val (.int (Int32.ofNat len)), .unset, .unset, .unset] [.int (Int32.ofNat len)])) := c1.trans (by
    refine XS.iloadN X0.here hexec rfl (hb hbytes d0) rfl ?_
    exact Steps.refl _)
  obtain ⟨T3, B3, X3, ba3, bs3, bv3, bh3, bf3, st3⟩ := X0.anew hexec (atype := .byte) (wk W (.arrayClass .byte)) rfl (by show len * 1 ≤ _; omega) (by omega) (g := (mkF m 1 #[.val (.ref b), .val (.int (Int32.ofNat o)), .val (.int (Int32.ofNat len)), .unset, .unset, .unset] [.int (Int32.ofNat len)])) rfl (hb hbytes d1) (rest := []) rfl (Nat.le_refl _) (by show 0 + len ≤ len; omega)
  rw [hh0] at ba3 st3
  have kp3 : XT.Kept s T3 := (XT.Kept.of_eq hh0).push bh3
  have hA3 := hA.keep X3.warmed.alike (kp3 _ _ hA.1.1)
  have hne : b ≠ s.heap.size := hA.1.ne
  have c4 : Steps p.tables e below (s₁.setTop (entryFrame m #[.ref b, .int (Int32.ofNat o), .int (Int32.ofNat len)] 6)) (T3.setTop (mkF m 3 #[.val (.ref b), .val (.int (Int32.ofNat o)), .val (.int (Int32.ofNat len)), .unset, .unset, .unset] [.ref s.heap.size])) := c2.trans (st3 _ (Steps.refl _))
  have c5 : Steps p.tables e below (s₁.setTop (entryFrame m #[.ref b, .int (Int32.ofNat o), .int (Int32.ofNat len)] 6)) (T3.setTop (mkF m 9 #[.val (.ref b), .val (.int (Int32.ofNat o)), .val (.int (Int32.ofNat len)), .val (.ref s.heap.size), .unset, .unset] [.int (Int32.ofNat len), .int 0, .ref s.heap.size, .int (Int32.ofNat o), .ref b])) := c4.trans (by
    refine XS.astoreN X3.here hexec rfl (hb hbytes d3) rfl rfl rfl ?_
    refine XS.aloadN X3.here hexec rfl (hb hbytes d4) rfl rfl ?_
    refine XS.iloadN X3.here hexec rfl (hb hbytes d5) rfl ?_
    refine XS.aloadN X3.here hexec rfl (hb hbytes d6) rfl rfl ?_
    refine iconstV X3.here hexec rfl 0 (hb hbytes d7) (by decide) ?_
    refine XS.iloadN X3.here hexec rfl (hb hbytes d8) rfl ?_
    exact Steps.refl _)
  obtain ⟨v6, T6, X6, E6, g6⟩ := X3.callS hexec (Cmp5.law l b A s.heap.size B3 o 0 len) hown (wks W (staticW U16 115 Cmp5.yN)) (wk W Cmp5.tab) (W := 0) (Nat.le_of_ble_eq_true rfl) (Nat.le_of_ble_eq_true rfl) (Nat.le_refl _) (by show 0 + len + 0 ≤ len; omega) (g := (mkF m 9 #[.val (.ref b), .val (.int (Int32.ofNat o)), .val (.int (Int32.ofNat len)), .val (.ref s.heap.size), .unset, .unset] [.int (Int32.ofNat len), .int (Int32.ofNat 0), .ref s.heap.size, .int (Int32.ofNat o), .ref b])) rfl (by rw [hml]; rfl) c5 (argsL := [.ref b, .int (Int32.ofNat o), .ref s.heap.size, .int (Int32.ofNat 0), .int (Int32.ofNat len)]) (rest := []) rfl rfl (by show 2 * 0 + 0 ≤ _; decide) (hb hbytes d9) (⟨rfl, hA3, ba3, hne, l1, by rw [bs3]; simp, hp⟩)
  obtain ⟨rfl, B6, p6, f6⟩ := E6
  have c7 : Steps p.tables e below (s₁.setTop (entryFrame m #[.ref b, .int (Int32.ofNat o), .int (Int32.ofNat len)] 6)) (T6.setTop (mkF m 12 #[.val (.ref b), .val (.int (Int32.ofNat o)), .val (.int (Int32.ofNat len)), .val (.ref s.heap.size), .unset, .unset] [.int (Int32.ofNat len)])) := g6
  have c8 : Steps p.tables e below (s₁.setTop (entryFrame m #[.ref b, .int (Int32.ofNat o), .int (Int32.ofNat len)] 6)) (T6.setTop (mkF m 58 #[.val (.ref b), .val (.int (Int32.ofNat o)), .val (.int (Int32.ofNat len)), .val (.ref s.heap.size), .val (.int (Int32.ofNat len)), .unset] [.ref s.heap.size])) := c7.trans (by
    refine XS.istore X6.here hexec rfl (hb hbytes d12) rfl rfl ?_
    refine XS.iload X6.here hexec rfl (hb hbytes d14) rfl ?_
    refine XS.iloadN X6.here hexec rfl (hb hbytes d16) rfl ?_
    refine XS.icmpYes X6.here hexec rfl (pc0 := 17) rfl (hb hbytes d17) rfl (ii_eq_t rfl) (by decide) rfl ?_
    refine XS.aloadN X6.here hexec rfl (hb hbytes d57) rfl rfl ?_
    exact Steps.refl _)
  have X8 := X6.wide (L' := []) (cells' := 1) (slots' := len) (fun x hx hlt => by
    simp only [List.nil_append, copyLocs, List.mem_map, List.mem_range] at hx
    obtain ⟨i, -, rfl⟩ := hx
    exact absurd hlt (Nat.lt_irrefl _)) (Nat.le_refl _) (by omega)
  exact ⟨T6, some (.ref s.heap.size), _, _, _, X8, rfl, rfl, rfl, (fun h => by cases h), ⟨⟨rfl, B6, ba3.like (X3.warmed.alike.symm.trans X6.warmed.alike) p6.1 f6.1 f6.2.1 f6.2.2.1, f6.2.1.trans bv3, by rw [X6.warmed.alike.findClass, f6.1]; exact bf3, by rw [f6.2.2.1, bs3]; simp, fun j hj => by rw [f6.2.2.2 j, if_pos (by omega)]; rfl, kp3.put p6 (Nat.le_refl _)⟩, by rw [p6.2.2, bh3, hh0]; simp⟩, fun fs hl => c8.trans (X8.areturnOut hexec rfl hret rfl (hb hbytes d58) hl)⟩
end Cmp3
namespace CodL
def yN : MethodName := ⟨"java/lang/StringUTF16", "coderFromArrayLen", "([BI)B"⟩
abbrev yB : ByteArray := jdk_52_method_15_code
theorem d0 : decode yB 0 = .ok (.iload_n 1, 1) := by decide +kernel
theorem d1 : decode yB 1 = .ok (.aload_n 0, 1) := by decide +kernel
theorem d2 : decode yB 2 = .ok (.arraylength, 1) := by decide +kernel
theorem d3 : decode yB 3 = .ok (.isub, 1) := by decide +kernel
theorem d4 : decode yB 4 = .ok (.bipush 31, 2) := by decide +kernel
theorem d6 : decode yB 6 = .ok (.iushr, 1) := by decide +kernel
theorem d7 : decode yB 7 = .ok (.i2b, 1) := by decide +kernel
theorem d8 : decode yB 8 = .ok (.ireturn, 1) := by decide +kernel
def site : List Cond := []
def tab : Cond := tabOf yN yB 2 (some .byte) site
def P (d : Addr) (B : Cell) (args : Array Value) (s : State) : Prop := args = #[.ref d, .int (Int32.ofNat B.slots.size)] ∧ Arr .byte d B s
def E (r : Option Value) (s u : State) : Prop := XT.PureE (some (.int 0)) r s u
/-- an array as long as the number of chars: LATIN1 -/
theorem law (l : Launch) (d : Addr) (B : Cell) : Law l yN 2 2 0 0 yB 2 (some .byte) site (P d B) E [] 0 0 := by
  refine Law.of_walk (plainFor_of_name (by decide +kernel)) (by decide +kernel) (by decide +kernel) (by decide) (fun _ _ h => by rw [h.1]; rfl) (fun _ U U' hal hh h => ⟨h.1, h.2.mv hal hh⟩) (fun r U U' V V' h1 hal h2 h => XT.PureE.mv r U U' V V' h1 hal h2 h) ?_
  intro p e s m args below meth c s₁ X0 hexec hbytes hml hret hlk hnm hown hh0 W hP
  obtain ⟨rfl, hB⟩ := hP
  have hB0 := hB.mv X0.warmed.alike hh0
  have c1 : Steps p.tables e below (s₁.setTop (entryFrame m #[.ref d, .int (Int32.ofNat B.slots.size)] 2)) (s₁.setTop (mkF m 0 #[.val (.ref d), .val (.int (Int32.ofNat B.slots.size))] [])) := entry rfl
  have c2 : Steps p.tables e below (s₁.setTop (entryFrame m #[.ref d, .int (Int32.ofNat B.slots.size)] 2)) (s₁.setTop (mkF m 2 #[.val (.ref d), .val (.int (Int32.ofNat B.slots.size))] [.ref d, .int (Int32.ofNat B.slots.size)])) := c1.trans (by
    refine XS.iloadN X0.here hexec rfl (hb hbytes d0) rfl ?_
    refine XS.aloadN X0.here hexec rfl (hb hbytes d1) rfl rfl ?_
    exact Steps.refl _)
  have c3 : Steps p.tables e below (s₁.setTop (entryFrame m #[.ref d, .int (Int32.ofNat B.slots.size)] 2)) (s₁.setTop (mkF m 8 #[.val (.ref d), .val (.int (Int32.ofNat B.slots.size))] [.int (lo8 (ushr (Int32.ofNat B.slots.size - Int32.ofNat B.slots.size) 31))])) := c2.trans (by
    refine X0.alen hexec hB0 rfl rfl (hb hbytes d2) ?_
    refine XS.isub X0.here hexec rfl (hb hbytes d3) rfl ?_
    refine bipushV X0.here hexec rfl 31 (hb hbytes d4) (by decide) ?_
    refine iushr X0.here hexec rfl (hb hbytes d6) rfl ?_
    refine i2b X0.here hexec rfl (hb hbytes d7) rfl ?_
    exact Steps.refl _)
  have e0 : lo8 (ushr (Int32.ofNat B.slots.size - Int32.ofNat B.slots.size) 31) = 0 := by rw [Int32.sub_self]; decide
  rw [e0] at c3
  exact ⟨s₁, some (.int 0), _, _, _, X0, rfl, rfl, rfl, (fun h => by cases h), ⟨rfl, hh0⟩, fun fs hl => c3.trans (X0.ireturnOut hexec hret rfl (Or.inr (Or.inr (Or.inl rfl))) (hb hbytes d8) hl)⟩
end CodL
/-- the String at a is Latin-1 over a new byte[] (the heap's one new cell): the low bytes of the len chars of A from o on; every cell but a is kept -/
def Got (a : Addr) (D : Cell) (fV fC : Field) (A : Cell) (o len : Nat) (r : Option Value) (s u : State) : Prop := r = none ∧ ∃ D' V : Cell, Blank "java/lang/String" a D' u ∧ Same D D' [fV.slot, fC.slot] ∧ D'.slots[fV.slot]? = some (.ref s.heap.size) ∧ D'.slots[fC.slot]? = some (.int 0) ∧ Arr .byte s.heap.size V u ∧ V.vm = .none ∧ u.vm.findClass "[B" = some V.cls ∧ V.slots.size = len ∧ (∀ j, j < len → V.slots[j]? = some (.int (lo8 (cv A (o + j))))) ∧ (∀ (y : Addr) (c : Cell), y ≠ a → s.heap[y]? = some c → u.heap[y]? = some c) ∧ u.heap.size = s.heap.size + 1
theorem Got.mv {a : Addr} {D A : Cell} {fV fC : Field} {o len : Nat} : ∀ r (U U' V V' : State), U'.heap = U.heap → V.vm.Alike V'.vm → V'.heap = V.heap → Got a D fV fC A o len r U V → Got a D fV fC A o len r U' V' :=
  fun r U U' V V' h1 hal h2 ⟨e0, D', X, a1, a2, a3, a4, a5, a6, a7, a8, a9, a10, a11⟩ => ⟨e0, D', X, a1.mv hal h2, a2, by rw [h1]; exact a3, a4, by rw [h1]; exact a5.mv hal h2, a6, by rw [hal.findClass]; exact a7, a8, a9, by rw [h1, h2]; exact a10, by rw [h1, h2]; exact a11⟩
namespace New4
def yN : MethodName := ⟨"java/lang/String", "<init>", "([CIILjava/lang/Void;)V"⟩
abbrev yB : ByteArray := jdk_42_method_149_code
theorem d0 : decode yB 0 = .ok (.aload_n 0, 1) := by decide +kernel
theorem d1 : decode yB 1 = .ok (.invokespecial 1, 3) := by decide +kernel
theorem d4 : decode yB 4 = .ok (.iload_n 3, 1) := by decide +kernel
theorem d5 : decode yB 5 = .ok (.ifCond (.ne) 22, 3) := by decide +kernel
theorem d27 : decode yB 27 = .ok (.getstatic 38, 3) := by decide +kernel
theorem d30 : decode yB 30 = .ok (.ifCond (.eq) 28, 3) := by decide +kernel
theorem d33 : decode yB 33 = .ok (.aload_n 1, 1) := by decide +kernel
theorem d34 : decode yB 34 = .ok (.iload_n 2, 1) := by decide +kernel
theorem d35 : decode yB 35 = .ok (.iload_n 3, 1) := by decide +kernel
theorem d36 : decode yB 36 = .ok (.invokestatic 177, 3) := by decide +kernel
theorem d39 : decode yB 39 = .ok (.astore 5, 2) := by decide +kernel
theorem d41 : decode yB 41 = .ok (.aload_n 0, 1) := by decide +kernel
theorem d42 : decode yB 42 = .ok (.aload 5, 2) := by decide +kernel
theorem d44 : decode yB 44 = .ok (.iload_n 3, 1) := by decide +kernel
theorem d45 : decode yB 45 = .ok (.invokestatic 47, 3) := by decide +kernel
theorem d48 : decode yB 48 = .ok (.putfield 15, 3) := by decide +kernel
theorem d51 : decode yB 51 = .ok (.aload_n 0, 1) := by decide +kernel
theorem d52 : decode yB 52 = .ok (.aload 5, 2) := by decide +kernel
theorem d54 : decode yB 54 = .ok (.putfield 9, 3) := by decide +kernel
theorem d57 : decode yB 57 = .ok (.return_, 1) := by decide +kernel
def site : List Cond := [.fieldLink "java/lang/String" 38 "java/lang/String" "COMPACT_STRINGS" "Z", Cmp3.tab, CodL.tab, .laysFinal "java/lang/String" "java/lang/String" "value" "[B", .fieldLink "java/lang/String" 9 "java/lang/String" "value" "[B", .laysFinal "java/lang/String" "java/lang/String" "coder" "B", .fieldLink "java/lang/String" 15 "java/lang/String" "coder" "B"] ++ objW "java/lang/String" 1 ++ staticW "java/lang/String" 177 Cmp3.yN ++ staticW "java/lang/String" 47 CodL.yN
def tab : Cond := tabOf yN yB 6 none site
def P (a : Addr) (D : Cell) (fV fC : Field) (b : Addr) (A : Cell) (z : Int32) (o len : Nat) (args : Array Value) (s : State) : Prop := args = #[.ref a, .ref b, .int (Int32.ofNat o), .int (Int32.ofNat len), .null] ∧ Blank "java/lang/String" a D s ∧ Found "java/lang/String" "value" "[B" fV s ∧ Found "java/lang/String" "coder" "B" fC s ∧ Ch b A s ∧ StaticIs s "java/lang/String" "COMPACT_STRINGS" "Z" (.int z) ∧ ¬ z = 0 ∧ 0 < len ∧ o + len ≤ A.slots.size ∧ len ≤ 536870912 ∧ ∀ i, i < len → ¬ 255 < cv A (o + i)
def E (a : Addr) (D : Cell) (fV fC : Field) (A : Cell) (o len : Nat) (r : Option Value) (s u : State) : Prop := Got a D fV fC A o len r s u
/-- len > 0, no char of the range above 255: a Latin-1 String of their low bytes -/
theorem law (l : Launch) (a : Addr) (D : Cell) (fV fC : Field) (b : Addr) (A : Cell) (z : Int32) (o len : Nat) : Law l yN 5 4 2 35 yB 6 none site (P a D fV fC b A z o len) (E a D fV fC A o len) [⟨a, fC.slot⟩, ⟨a, fV.slot⟩] 1 len := by
  refine Law.of_walk (plainFor_of_name (by decide +kernel)) (by decide +kernel) (by decide +kernel) (by decide) (fun _ _ h => by rw [h.1]; rfl) (fun _ U U' hal hh h => ⟨h.1, h.2.1.mv hal hh, h.2.2.1.al hal, h.2.2.2.1.al hal, h.2.2.2.2.1.mv hal hh, h.2.2.2.2.2.1.there hal hh, h.2.2.2.2.2.2⟩) (fun r U U' V V' h1 hal h2 h => Got.mv r U U' V V' h1 hal h2 h) ?_
  intro p e s m args below meth c s₁ X0 hexec hbytes hml hret hlk hnm hown hh0 W hP
  obtain ⟨rfl, hB, f1, f2, hA, s1, hz, l0, l1, l2, hp⟩ := hP
  have a31 := hA.1.2.2.2
  have c1 : Steps p.tables e below (s₁.setTop (entryFrame m #[.ref a, .ref b, .int (Int32.ofNat o), .int (Int32.ofNat len), .null] 6)) (s₁.setTop (mkF m 0 #[.val (.ref a), .val (.ref b), .val (.int (Int32.ofNat o)), .val (.int (Int32.ofNat len)), .val .null, .unset] [])) := entry rfl
  have c2 : Steps p.tables e below (s₁.setTop (entryFrame m #[.ref a, .ref b, .int (Int32.ofNat o), .int (Int32.ofNat len), .null] 6)) (s₁.setTop (mkF m 1 #[.val (.ref a), .val (.ref b), .val (.int (Int32.ofNat o)), .val (.int (Int32.ofNat len)), .val .null, .unset] [.ref a])) := c1.trans (by
    refine XS.aloadN X0.here hexec rfl (hb hbytes d0) rfl rfl ?_
    exact Steps.refl _)
  obtain ⟨T3, X3, q3, st3⟩ := X0.oinit hexec hown (wks W (objW "java/lang/String" 1)) (g := (mkF m 1 #[.val (.ref a), .val (.ref b), .val (.int (Int32.ofNat o)), .val (.int (Int32.ofNat len)), .val .null, .unset] [.ref a])) rfl (by rw [hml]; rfl) (rest := []) rfl (hb hbytes d1) (W := 0) (by show 2 * 0 + 0 ≤ _; decide) (Nat.le_of_ble_eq_true rfl) (Nat.le_of_ble_eq_true rfl)
  have hh3 := q3.trans hh0
  have c4 : Steps p.tables e below (s₁.setTop (entryFrame m #[.ref a, .ref b, .int (Int32.ofNat o), .int (Int32.ofNat len), .null] 6)) (T3.setTop (mkF m 27 #[.val (.ref a), .val (.ref b), .val (.int (Int32.ofNat o)), .val (.int (Int32.ofNat len)), .val .null, .unset] [])) := (c2.trans (st3 _ (Steps.refl _))).trans (by
    refine XS.iloadN X3.here hexec rfl (hb hbytes d4) rfl ?_
    refine XS.ifYes X3.here hexec rfl (pc0 := 5) rfl (hb hbytes d5) rfl (i0_ne_t (nz32 (by omega) l0)) (by decide) rfl ?_
    exact Steps.refl _)
  obtain ⟨T5, X5, q5, st5⟩ := X3.sget hexec hown (wk W (.fieldLink "java/lang/String" 38 "java/lang/String" "COMPACT_STRINGS" "Z")) s1 (fun _ _ h => by rw [hh3]; exact h) (g := (mkF m 27 #[.val (.ref a), .val (.ref b), .val (.int (Int32.ofNat o)), .val (.int (Int32.ofNat len)), .val .null, .unset] [])) rfl (hb hbytes d27)
  have hh5 := q5.trans hh3
  have c6 : Steps p.tables e below (s₁.setTop (entryFrame m #[.ref a, .ref b, .int (Int32.ofNat o), .int (Int32.ofNat len), .null] 6)) (T5.setTop (mkF m 30 #[.val (.ref a), .val (.ref b), .val (.int (Int32.ofNat o)), .val (.int (Int32.ofNat len)), .val .null, .unset] [.int z])) := c4.trans (st5 _ (Steps.refl _))
  have c7 : Steps p.tables e below (s₁.setTop (entryFrame m #[.ref a, .ref b, .int (Int32.ofNat o), .int (Int32.ofNat len), .null] 6)) (T5.setTop (mkF m 36 #[.val (.ref a), .val (.ref b), .val (.int (Int32.ofNat o)), .val (.int (Int32.ofNat len)), .val .null, .unset] [.int (Int32.ofNat len), .int (Int32.ofNat o), .ref b])) := c6.trans (by
    refine XS.ifNo X5.here hexec rfl (hb hbytes d30) rfl (i0_eq_f hz) ?_
    refine XS.aloadN X5.here hexec rfl (hb hbytes d33) rfl rfl ?_
    refine XS.iloadN X5.here hexec rfl (hb hbytes d34) rfl ?_
    refine XS.iloadN X5.here hexec rfl (hb hbytes d35) rfl ?_
    exact Steps.refl _)
  obtain ⟨v8, T8, X8, E8, g8⟩ := X5.callS hexec (Cmp3.law l b A o len) hown (wks W (staticW "java/lang/String" 177 Cmp3.yN)) (wk W Cmp3.tab) (W := 0) (Nat.le_of_ble_eq_true rfl) (Nat.le_of_ble_eq_true rfl) (Nat.le_refl _) (by show 0 + len ≤ len; omega) (g := (mkF m 36 #[.val (.ref a), .val (.ref b), .val (.int (Int32.ofNat o)), .val (.int (Int32.ofNat len)), .val .null, .unset] [.int (Int32.ofNat len), .int (Int32.ofNat o), .ref b])) rfl (by rw [hml]; rfl) c7 (argsL := [.ref b, .int (Int32.ofNat o), .int (Int32.ofNat len)]) (rest := []) rfl rfl (by show 2 * 0 + 0 ≤ _; decide) (hb hbytes d36) (⟨rfl, hA.mv X5.warmed.alike hh5, l1, l2, hp⟩)
  obtain ⟨e8, z8⟩ := E8
  obtain ⟨rfl, N, n1, n2, n3, n4, n5, n6⟩ := NewArr.mv _ T5 s _ _ hh5.symm (Vm.Alike.refl _) rfl e8
  rw [hh5] at z8
  have hB1 := hB.keep X8.warmed.alike (n6 _ _ hB.1)
  have hne : s.heap.size ≠ a := (Nat.ne_of_lt (Array.getElem?_eq_some_iff.mp hB.1).1).symm
  have c9 : Steps p.tables e below (s₁.setTop (entryFrame m #[.ref a, .ref b, .int (Int32.ofNat o), .int (Int32.ofNat len), .null] 6)) (T8.setTop (mkF m 39 #[.val (.ref a), .val (.ref b), .val (.int (Int32.ofNat o)), .val (.int (Int32.ofNat len)), .val .null, .unset] [.ref s.heap.size])) := g8
  have c10 : Steps p.tables e below (s₁.setTop (entryFrame m #[.ref a, .ref b, .int (Int32.ofNat o), .int (Int32.ofNat len), .null] 6)) (T8.setTop (mkF m 45 #[.val (.ref a), .val (.ref b), .val (.int (Int32.ofNat o)), .val (.int (Int32.ofNat len)), .val .null, .val (.ref s.heap.size)] [.int (Int32.ofNat N.slots.size), .ref s.heap.size, .ref a])) := by
    have hc : Steps p.tables e below (s₁.setTop (entryFrame m #[.ref a, .ref b, .int (Int32.ofNat o), .int (Int32.ofNat len), .null] 6)) (T8.setTop (mkF m 45 #[.val (.ref a), .val (.ref b), .val (.int (Int32.ofNat o)), .val (.int (Int32.ofNat len)), .val .null, .val (.ref s.heap.size)] [.int (Int32.ofNat len), .ref s.heap.size, .ref a])) := c9.trans (by
      refine XS.astore X8.here hexec rfl (hb hbytes d39) rfl rfl rfl ?_
      refine XS.aloadN X8.here hexec rfl (hb hbytes d41) rfl rfl ?_
      refine XS.aload X8.here hexec rfl (hb hbytes d42) rfl rfl ?_
      refine XS.iloadN X8.here hexec rfl (hb hbytes d44) rfl ?_
      exact Steps.refl _)
    rw [n4]; exact hc
  obtain ⟨v11, T11, X11, E11, g11⟩ := X8.callS hexec (CodL.law l s.heap.size N) hown (wks W (staticW "java/lang/String" 47 CodL.yN)) (wk W CodL.tab) (W := 1) (Nat.le_of_ble_eq_true rfl) (Nat.le_of_ble_eq_true rfl) (Nat.le_refl _) (by show 0 + len + 0 ≤ len; omega) (g := (mkF m 45 #[.val (.ref a), .val (.ref b), .val (.int (Int32.ofNat o)), .val (.int (Int32.ofNat len)), .val .null, .val (.ref s.heap.size)] [.int (Int32.ofNat N.slots.size), .ref s.heap.size, .ref a])) rfl (by rw [hml]; rfl) c10 (argsL := [.ref s.heap.size, .int (Int32.ofNat N.slots.size)]) (rest := [.ref a]) rfl rfl (by show 2 * 0 + (1 + 0) ≤ _; decide) (hb hbytes d45) (⟨rfl, n1⟩)
  obtain ⟨rfl, q11⟩ := E11
  have hB11 := hB1.mv (X8.warmed.alike.symm.trans X11.warmed.alike) q11
  have c12 : Steps p.tables e below (s₁.setTop (entryFrame m #[.ref a, .ref b, .int (Int32.ofNat o), .int (Int32.ofNat len), .null] 6)) (T11.setTop (mkF m 48 #[.val (.ref a), .val (.ref b), .val (.int (Int32.ofNat o)), .val (.int (Int32.ofNat len)), .val .null, .val (.ref s.heap.size)] [.int 0, .ref a])) := g11
  obtain ⟨T13, X13, p13, bl13, sl13, st13⟩ := X11.finit hexec hown (wk W (.fieldLink "java/lang/String" 15 "java/lang/String" "coder" "B")) (Or.inr ⟨_, (wk W (.laysFinal "java/lang/String" "java/lang/String" "coder" "B"))⟩) (Or.inl ⟨rfl, hnm⟩) f2 (Or.inl rfl) hB11 (t := .byte) (by decide +kernel) rfl (g := (mkF m 48 #[.val (.ref a), .val (.ref b), .val (.int (Int32.ofNat o)), .val (.int (Int32.ofNat len)), .val .null, .val (.ref s.heap.size)] [.int 0, .ref a])) rfl (rest := []) rfl (hb hbytes d48)
  have c14 : Steps p.tables e below (s₁.setTop (entryFrame m #[.ref a, .ref b, .int (Int32.ofNat o), .int (Int32.ofNat len), .null] 6)) (T13.setTop (mkF m 54 #[.val (.ref a), .val (.ref b), .val (.int (Int32.ofNat o)), .val (.int (Int32.ofNat len)), .val .null, .val (.ref s.heap.size)] [.ref s.heap.size, .ref a])) := (c12.trans (st13 _ (Steps.refl _))).trans (by
    refine XS.aloadN X13.here hexec rfl (hb hbytes d51) rfl rfl ?_
    refine XS.aload X13.here hexec rfl (hb hbytes d52) rfl rfl ?_
    exact Steps.refl _)
  obtain ⟨T15, X15, p15, bl15, sl15, st15⟩ := X13.finit hexec hown (wk W (.fieldLink "java/lang/String" 9 "java/lang/String" "value" "[B")) (Or.inr ⟨_, (wk W (.laysFinal "java/lang/String" "java/lang/String" "value" "[B"))⟩) (Or.inl ⟨rfl, hnm⟩) f1 (Or.inl rfl) bl13 (t := (.array .byte)) (by decide +kernel) rfl (g := (mkF m 54 #[.val (.ref a), .val (.ref b), .val (.int (Int32.ofNat o)), .val (.int (Int32.ofNat len)), .val .null, .val (.ref s.heap.size)] [.ref s.heap.size, .ref a])) rfl (rest := []) rfl (hb hbytes d54)
  have c16 : Steps p.tables e below (s₁.setTop (entryFrame m #[.ref a, .ref b, .int (Int32.ofNat o), .int (Int32.ofNat len), .null] 6)) (T15.setTop (mkF m 57 #[.val (.ref a), .val (.ref b), .val (.int (Int32.ofNat o)), .val (.int (Int32.ofNat len)), .val .null, .val (.ref s.heap.size)] [])) := c14.trans (st15 _ (Steps.refl _))
  have ap := apart (Or.inr ⟨_, (wk W (.laysFinal "java/lang/String" "java/lang/String" "value" "[B"))⟩) (Or.inr ⟨_, (wk W (.laysFinal "java/lang/String" "java/lang/String" "coder" "B"))⟩) f1 f2 (t₁ := .array .byte) (t₂ := .byte) (by decide +kernel) (by decide +kernel) (by decide)
  have al := X8.warmed.alike.symm.trans X15.warmed.alike
  have n7 : T11.heap[s.heap.size]? = some N := by rw [q11]; exact n1.1
  exact ⟨T15, none, _, _, _, X15, by simp, rfl, by omega, (fun _ => rfl), ⟨rfl, _, N, bl15, ((Same.refl D _).set _ (by simp)).set _ (by simp), sl15, (Cell.slots_setSlot_ne _ ap).trans sl13, n1.keep al (p15.other hne (p13.other hne n7)), n2, by rw [al.findClass]; exact n3, n4, n5, fun y c h1 h2 => p15.other h1 (p13.other h1 (by rw [q11]; exact n6 y c h2)), by rw [p15.2.2, p13.2.2, q11]; exact z8⟩, fun fs hl => c16.trans (X15.returnOut hexec hret (hb hbytes d57) hl)⟩
end New4
namespace New1
def yN : MethodName := ⟨"java/lang/String", "<init>", "([C)V"⟩
abbrev yB : ByteArray := jdk_42_method_3_code
theorem d0 : decode yB 0 = .ok (.aload_n 0, 1) := by decide +kernel
theorem d1 : decode yB 1 = .ok (.aload_n 1, 1) := by decide +kernel
theorem d2 : decode yB 2 = .ok (.iconst 0, 1) := by decide +kernel
theorem d3 : decode yB 3 = .ok (.aload_n 1, 1) := by decide +kernel
theorem d4 : decode yB 4 = .ok (.arraylength, 1) := by decide +kernel
theorem d5 : decode yB 5 = .ok (.aconst_null, 1) := by decide +kernel
theorem d6 : decode yB 6 = .ok (.invokespecial 27, 3) := by decide +kernel
theorem d9 : decode yB 9 = .ok (.return_, 1) := by decide +kernel
def site : List Cond := [New4.tab] ++ initW "java/lang/String" 27 New4.yN
def tab : Cond := tabOf yN yB 2 none site
def P (a : Addr) (D : Cell) (fV fC : Field) (b : Addr) (A : Cell) (z : Int32) (args : Array Value) (s : State) : Prop := args = #[.ref a, .ref b] ∧ Blank "java/lang/String" a D s ∧ Found "java/lang/String" "value" "[B" fV s ∧ Found "java/lang/String" "coder" "B" fC s ∧ Ch b A s ∧ StaticIs s "java/lang/String" "COMPACT_STRINGS" "Z" (.int z) ∧ ¬ z = 0 ∧ 0 < A.slots.size ∧ A.slots.size ≤ 536870912 ∧ ∀ i, i < A.slots.size → ¬ 255 < cv A i
def E (a : Addr) (D : Cell) (fV fC : Field) (A : Cell) (r : Option Value) (s u : State) : Prop := Got a D fV fC A 0 A.slots.size r s u
/-- new String(chars), not empty, no char above 255: a Latin-1 String of their low bytes -/
theorem law (l : Launch) (a : Addr) (D : Cell) (fV fC : Field) (b : Addr) (A : Cell) (z : Int32) : Law l yN 2 1 3 52 yB 2 none site (P a D fV fC b A z) (E a D fV fC A) [⟨a, fC.slot⟩, ⟨a, fV.slot⟩] 1 A.slots.size := by
  refine Law.of_walk (plainFor_of_name (by decide +kernel)) (by decide +kernel) (by decide +kernel) (by decide) (fun _ _ h => by rw [h.1]; rfl) (fun _ U U' hal hh h => ⟨h.1, h.2.1.mv hal hh, h.2.2.1.al hal, h.2.2.2.1.al hal, h.2.2.2.2.1.mv hal hh, h.2.2.2.2.2.1.there hal hh, h.2.2.2.2.2.2⟩) (fun r U U' V V' h1 hal h2 h => Got.mv r U U' V V' h1 hal h2 h) ?_
  intro p e s m args below meth c s₁ X0 hexec hbytes hml hret hlk hnm hown hh0 W hP
  obtain ⟨rfl, hB, f1, f2, hA, s1, hz, l0, l2, hp⟩ := hP
  have c1 : Steps p.tables e below (s₁.setTop (entryFrame m #[.ref a, .ref b] 2)) (s₁.setTop (mkF m 0 #[.val (.ref a), .val (.ref b)] [])) := entry rfl
  have c2 : Steps p.tables e below (s₁.setTop (entryFrame m #[.ref a, .ref b] 2)) (s₁.setTop (mkF m 6 #[.val (.ref a), .val (.ref b)] [.null, .int (Int32.ofNat A.slots.size), .int 0, .ref b, .ref a])) := c1.trans (by
    refine XS.aloadN X0.here hexec rfl (hb hbytes d0) rfl rfl ?_
    refine XS.aloadN X0.here hexec rfl (hb hbytes d1) rfl rfl ?_
    refine iconstV X0.here hexec rfl 0 (hb hbytes d2) (by decide) ?_
    refine XS.aloadN X0.here hexec rfl (hb hbytes d3) rfl rfl ?_
    refine X0.alen hexec (hA.1.mv X0.warmed.alike hh0) rfl rfl (hb hbytes d4) ?_
    refine XS.aconstNull X0.here hexec rfl (hb hbytes d5) ?_
    exact Steps.refl _)
  obtain ⟨v3, T3, X3, E3, g3⟩ := X0.callN hexec (New4.law l a D fV fC b A z 0 A.slots.size) rfl hown (wks W (initW "java/lang/String" 27 New4.yN)) (W New4.tab (by simp only [site, List.mem_cons, List.mem_append, true_or, or_true])) (W := 0) (Nat.le_of_ble_eq_true rfl) (Nat.le_of_ble_eq_true rfl) (Nat.le_refl _) (by show 0 + A.slots.size ≤ A.slots.size; omega) (g := (mkF m 6 #[.val (.ref a), .val (.ref b)] [.null, .int (Int32.ofNat A.slots.size), .int (Int32.ofNat 0), .ref b, .ref a])) rfl (by rw [hml]; rfl) c2 (argsL := [.ref b, .int (Int32.ofNat 0), .int (Int32.ofNat A.slots.size), .null]) (rest := []) rfl rfl (by show 2 * 0 + 0 ≤ _; decide) (hb hbytes d6) (⟨rfl, hB.mv X0.warmed.alike hh0, f1.al X0.warmed.alike, f2.al X0.warmed.alike, hA.mv X0.warmed.alike hh0, s1.there X0.warmed.alike hh0, hz, l0, by omega, l2, fun i hi => by rw [Nat.zero_add]; exact hp i hi⟩)
  have e0 := Got.mv _ s₁ s _ _ hh0.symm (Vm.Alike.refl _) rfl E3
  obtain rfl := e0.1
  have c4 : Steps p.tables e below (s₁.setTop (entryFrame m #[.ref a, .ref b] 2)) (T3.setTop (mkF m 9 #[.val (.ref a), .val (.ref b)] [])) := g3
  exact ⟨T3, none, _, _, _, X3, by simp, rfl, by omega, (fun _ => rfl), e0, fun fs hl => c4.trans (X3.returnOut hexec hret (hb hbytes d9) hl)⟩
theorem pays {l : Launch} {R : Room} {p : Program} {e : Env} {below : List Frame} {s : State} {sargs : Array Value} {len W : Nat} (a : Addr) (D : Cell) (fV fC : Field) (b : Addr) (A : Cell) (z : Int32) (htab : tab.before sargs s = true) (hfr : 4 ≤ R.frames) (hlo : W + 65 ≤ R.locals) :
    Back l R p e below s sargs yN len W (fun A₁ a₁ => A₁.cells + 1 ≤ R.cells ∧ A₁.slots + A.slots.size ≤ R.slots ∧ P a D fV fC b A z a₁ A₁.U) (fun A₁ _ v₁ B₁ => E a D fV fC A v₁ A₁.U B₁.U ∧ B₁.locs = A₁.locs ++ [⟨a, fC.slot⟩, ⟨a, fV.slot⟩] ∧ B₁.cells = A₁.cells + 1 ∧ B₁.slots = A₁.slots + A.slots.size) :=
  (law l a D fV fC b A z).pays htab hfr (by omega)
end New1
end StrChars
namespace StrChars.Road
open Jvm Sem ClassFile Op Lib Jvm.Stand Jvm.Free Jvm.Free.XT
open Jvm.Lib.Cold (StaticIs)
abbrev ST : String := "java/lang/String"
/-- every table word that New1's law asks, flat -/
abbrev words : List Jvm.Cond := [.code New1.yN New1.yB 2 none, .initialized ST, .methodLink ST 27 New4.yN, .instanceMethod New4.yN,
  .code New4.yN New4.yB 6 none, .fieldLink ST 38 ST "COMPACT_STRINGS" "Z", .laysFinal ST ST "value" "[B", .fieldLink ST 9 ST "value" "[B", .laysFinal ST ST "coder" "B", .fieldLink ST 15 ST "coder" "B",
  .methodLink ST 1 Lib.objectInit, .instanceMethod Lib.objectInit, .code Lib.objectInit ⟨#[0xb1]⟩ 1 none, .methodLink ST 177 Cmp3.yN, .static Cmp3.yN, .methodLink ST 47 CodL.yN, .static CodL.yN,
  .code Cmp3.yN Cmp3.yB 6 (some (.array .byte)), .initialized U16, .arrayClass .byte, .methodLink U16 115 Cmp5.yN, .static Cmp5.yN, .code Cmp5.yN Cmp5.yB 7 (some .int), .code CodL.yN CodL.yB 2 (some .byte)]
theorem tab_of {a : Array Value} {s : State} (h : ∀ w ∈ words, w.before a s = true) : New1.tab.before a s = true := by
  have h5 : Cmp5.tab.before a s = true := unparts (wk h (.code Cmp5.yN Cmp5.yB 7 (some .int))) (wks h (.initialized Cmp5.yN.cls :: Cmp5.site))
  have hc : CodL.tab.before a s = true := unparts (wk h (.code CodL.yN CodL.yB 2 (some .byte))) (wks h (.initialized CodL.yN.cls :: CodL.site))
  have q5 : ∀ w ∈ Cmp5.tab :: words, w.before a s = true := fun w hw => (List.mem_cons.mp hw).elim (fun e => e ▸ h5) (h w)
  have h3 : Cmp3.tab.before a s = true := unparts (wk q5 (.code Cmp3.yN Cmp3.yB 6 (some (.array .byte)))) (wks q5 (.initialized Cmp3.yN.cls :: Cmp3.site))
  have q3 : ∀ w ∈ Cmp3.tab :: CodL.tab :: words, w.before a s = true := fun w hw => (List.mem_cons.mp hw).elim (fun e => e ▸ h3) fun hw => (List.mem_cons.mp hw).elim (fun e => e ▸ hc) (h w)
  have h4 : New4.tab.before a s = true := unparts (wk q3 (.code New4.yN New4.yB 6 none)) (wks q3 (.initialized New4.yN.cls :: New4.site))
  have q4 : ∀ w ∈ New4.tab :: words, w.before a s = true := fun w hw => (List.mem_cons.mp hw).elim (fun e => e ▸ h4) (h w)
  exact unparts (wk q4 (.code New1.yN New1.yB 2 none)) (wks q4 (.initialized New1.yN.cls :: New1.site))
/-- the words ride from the start Z to the walk's own state -/
theorem moved {Z s : State} {a0 args : Array Value} (hZ : Z.Warmed39 s.vm) (hw : ∀ d ∈ words, d.before a0 Z = true) : ∀ d ∈ words, d.before args s = true := fun d hd => by
  have q := hw d hd
  have t : ∀ d ∈ words, d = .arrayClass .byte ∨ (d.onTables && d.keepsFace) = true := by decide +kernel
  rcases t d hd with rfl | t
  · exact RoadKit.mvA hZ q
  · exact RoadKit.mv hZ q t
/-- WHAT COMES BACK, over the tables of the start Z: h the heap at the call, h' behind it -/
def Q (Z : State) (x : Addr) (A : Cell) (h : Heap) (v : Option Value) (h' : Heap) (L : List Loc) : Prop := v = none ∧ (∀ y ∈ L, y.base = x) ∧ RoadKit.Keep h h' [x] ∧ h'.size = h.size + 1 ∧ RoadKit.Exa Z h' x ST ∧ RoadKit.Fld Z h' x ST "value" "[B" (.ref h.size) ∧ RoadKit.Fld Z h' x ST "coder" "B" (.int 0) ∧
  (∃ V : Cell, RoadKit.Arr Z h' h.size V .byte ∧ V.vm = .none ∧ Z.vm.findClass "[B" = some V.cls ∧ V.slots.size = A.slots.size ∧ ∀ j, j < A.slots.size → V.slots[j]? = some (.int (lo8 (cv A j)))) ∧
  ∀ (O n d : String) (w : Value), RoadKit.Fld Z h x O n d w → RoadKit.slotOf Z O n d ≠ RoadKit.slotOf Z ST "value" "[B" → RoadKit.slotOf Z O n d ≠ RoadKit.slotOf Z ST "coder" "B" → RoadKit.Fld Z h' x O n d w
/-- **new String(chars) AT A CALL, IN THE ROAD'S FORM**: for specialBack behind newO: x the fresh String, b the char[] with the cell A -/
theorem back {p : Program} {l : Launch} {e : Env} {R : Room} {s : State} {args : Array Value} {below : List Frame} {len W : Nat} {Z : State} {a0 : Array Value} {h : Heap} (hZ : Z.Warmed39 s.vm) (hw : ∀ d ∈ words, d.before a0 Z = true) {kI : Nat} (wi : (Jvm.Cond.instantiable ST kI).before a0 Z = true)
    {x b : Addr} {A : Cell} {z : Int32} {v0 c0 : Value} (E : RoadKit.Exa Z h x ST) (V : RoadKit.Fld Z h x ST "value" "[B" v0) (C : RoadKit.Fld Z h x ST "coder" "B" c0) (K : RoadKit.Arr Z h b A .char) (hty : Typed .char A) (S : RoadKit.Sta Z h ST "COMPACT_STRINGS" "Z" (.int z)) (hz : ¬ z = 0)
    (l0 : 0 < A.slots.size) (l2 : A.slots.size ≤ 536870912) (hp : ∀ i, i < A.slots.size → ¬ 255 < cv A i) (hfr : 4 ≤ R.frames) (hlo : W + 65 ≤ R.locals) :
    Back l R p e below s args New1.yN len W (fun P a => a = #[.ref x, .ref b] ∧ P.U.heap = h ∧ P.cells + 1 ≤ R.cells ∧ P.slots + A.slots.size ≤ R.slots)
      (fun P _ v B => ∃ L, Q Z x A h v B.U.heap L ∧ B.locs = P.locs ++ L ∧ B.cells = P.cells + 1 ∧ B.slots = P.slots + A.slots.size) := by
  intro m meth c P g ig mk a X hg hsize hdg hW hn hp'
  obtain ⟨rfl, rfl, r1, r2⟩ := hp'
  have al : Z.vm.Alike P.U.vm := hZ.alike.trans X.warmed.alike
  obtain ⟨D, cfV, kV, iV, fV, hD, gV, stV, knV, obV, asV, slV⟩ := id V
  obtain ⟨D', cfC, kC, iC, fC, hD', gC, stC, -, -, asC, slC⟩ := id C
  cases hD.symm.trans hD'
  obtain ⟨D2, kD, e1, e2, e3, e4, e5⟩ := id E
  cases hD.symm.trans e1
  obtain ⟨c2, k2, i1, i2, i3, -⟩ := Cond.instantiable_spec wi
  cases e2.symm.trans i1
  cases e3.symm.trans i2
  obtain ⟨kU, u1, u2⟩ := al.2.2 _ _ e3
  have hB : Blank ST x D P.U := ⟨hD, ⟨knV, fun q hq => by rw [hq] at obV; cases obV⟩, by rw [al.findClass]; exact e2, kU, u1, by rw [u2]; exact i3, by rw [u2]; exact e5 i3⟩
  have F1 : Found ST "value" "[B" fV P.U := ⟨SBG.found_only al ⟨cfV, kV, iV, gV⟩, stV⟩
  have F2 : Found ST "coder" "B" fC P.U := ⟨SBG.found_only al ⟨cfC, kC, iC, gC⟩, stC⟩
  have hA : Ch b A P.U := ⟨⟨K.1, State.isArrayOf_alike al K.2.1, K.2.2, by omega⟩, hty⟩
  have hS : StaticIs P.U ST "COMPACT_STRINGS" "Z" (.int z) := by
    obtain ⟨cfS, iS, kS, fS, st, cS, t1, t2, t3, t4, t5, t6, t7⟩ := S
    exact StaticIs.there (s := { Z with heap := P.U.heap }) ⟨cfS, iS, kS, fS, st, cS, t1, t2, t3, t4, t5, (fun q => by rw [q] at t6; cases t6), t7⟩ al rfl
  obtain ⟨v, B, X', ⟨⟨hv, E', V', q1, q2, q3, q4, q5, q6, q7, q8, q9, q10, q11⟩, hl, hc, hs⟩, st⟩ := New1.pays x D fV fC b A z (tab_of (moved hZ hw)) hfr hlo m meth c P g ig mk _ X hg hsize hdg hW hn ⟨r1, r2, rfl, hB, F1, F2, hA, hS, hz, l0, l2, hp⟩
  have al' : Z.vm.Alike B.U.vm := hZ.alike.trans X'.warmed.alike
  have hsz : E'.slots.size = D.slots.size := by
    obtain ⟨-, -, -, kB, w1, w2, w3⟩ := q1
    obtain ⟨kB', y1, y2⟩ := al'.2.2 _ _ e3
    rw [q2.2.1] at w1
    cases w1.symm.trans y1
    rw [w3, e5 i3, y2]
  refine ⟨v, B, X', ⟨_, ⟨hv, ?_, ⟨by omega, fun y cy hy hn' => q10 y cy (by simpa using hn') hy, fun y cy hy => ?_⟩, q11, ⟨E', _, q1.1, by rw [q2.2.1]; exact e2, by rw [q2.2.1]; exact e3, by rw [q2.1]; exact obV, fun _ => by rw [hsz]; exact e5 i3⟩,
    ⟨E', cfV, kV, iV, fV, q1.1, gV, stV, by rw [q2.1]; exact knV, by rw [q2.1]; exact obV, by rw [q2.2.1]; exact asV, q3⟩, ⟨E', cfC, kC, iC, fC, q1.1, gC, stC, by rw [q2.1]; exact knV, by rw [q2.1]; exact obV, by rw [q2.2.1]; exact asC, q4⟩,
    ⟨V', ⟨q5.1, State.isArrayOf_alike al'.symm q5.2.1, q5.2.2.1⟩, q6, by rw [← al'.findClass]; exact q7, q8, fun j hj => by have := q9 j hj; rwa [Nat.zero_add] at this⟩, fun O n d w F n1 n2 => ?_⟩, hl, hc, hs⟩, st⟩
  · intro y hy
    simp only [List.mem_cons, List.not_mem_nil, or_false] at hy
    rcases hy with rfl | rfl <;> rfl
  · by_cases q : y = x
    · subst q
      cases hD.symm.trans hy
      exact ⟨E', q1.1, q2.2.1, q2.1, hsz⟩
    · exact ⟨cy, q10 y cy q hy, rfl, rfl, rfl⟩
  · obtain ⟨D3, cf, k, i, f, g1, g2, g3, g4, g5, g6, g7⟩ := F
    cases hD.symm.trans g1
    simp only [RoadKit.slotOf, g2, gV, gC, Option.map_some, Option.getD_some] at n1 n2
    exact ⟨E', cf, k, i, f, q1.1, g2, g3, by rw [q2.1]; exact g4, by rw [q2.1]; exact g5, by rw [q2.2.1]; exact g6, by rw [q2.2.2 f.slot (by simp [n1, n2])]; exact g7⟩
end StrChars.Road
namespace StrChars.Road
open Jvm Sem ClassFile Op Lib Jvm.Stand Jvm.Free Jvm.Free.XT
/-- WHAT COMES BACK, the byte[] as a list of values -/
def QA (Z : State) (x : Addr) (zn : Int32) (cs : List Int32) (h : Heap) (v : Option Value) (h' : Heap) (L : List Loc) : Prop := v = none ∧ (∀ y ∈ L, y.base = x) ∧ RoadKit.Keep h h' [x] ∧ h'.size = h.size + 1 ∧ RoadKit.Exa Z h' x ST ∧ RoadKit.Fld Z h' x ST "value" "[B" (.ref h.size) ∧ RoadKit.Fld Z h' x ST "coder" "B" (.int 0) ∧
  (∃ kb, Z.vm.findClass "[B" = some kb ∧ RoadKit.Arv Z h' h.size kb .byte zn (cs.map fun c => .int (lo8 c)) (.int 0)) ∧
  ∀ (O n d : String) (w : Value), RoadKit.Fld Z h x O n d w → RoadKit.slotOf Z O n d ≠ RoadKit.slotOf Z ST "value" "[B" → RoadKit.slotOf Z O n d ≠ RoadKit.slotOf Z ST "coder" "B" → RoadKit.Fld Z h' x O n d w
/-- **new String(chars) AT A CALL, THE ARRAYS AS LISTS**: the char[] at b holds cs, not empty, no char above 255 -/
theorem backArv {p : Program} {l : Launch} {e : Env} {R : Room} {s : State} {args : Array Value} {below : List Frame} {len W : Nat} {Z : State} {a0 : Array Value} {h : Heap} (hZ : Z.Warmed39 s.vm) (hw : ∀ d ∈ words, d.before a0 Z = true) {kI : Nat} (wi : (Jvm.Cond.instantiable ST kI).before a0 Z = true)
    {x b : Addr} {k : ClassId} {zn z : Int32} {cs : List Int32} {dv v0 c0 : Value} (E : RoadKit.Exa Z h x ST) (V : RoadKit.Fld Z h x ST "value" "[B" v0) (C : RoadKit.Fld Z h x ST "coder" "B" c0) (K : RoadKit.Arv Z h b k .char zn (cs.map Value.int) dv) (S : RoadKit.Sta Z h ST "COMPACT_STRINGS" "Z" (.int z)) (hz : ¬ z = 0)
    (hlen : zn.toNatClampNeg = cs.length) (h0 : 0 < cs.length) (hbig : cs.length ≤ 536870912) (hall : ∀ c ∈ cs, ¬ 255 < c) (hfr : 4 ≤ R.frames) (hlo : W + 65 ≤ R.locals) :
    Back l R p e below s args New1.yN len W (fun P a => a = #[.ref x, .ref b] ∧ P.U.heap = h ∧ P.cells + 1 ≤ R.cells ∧ P.slots + cs.length ≤ R.slots)
      (fun P _ v B => ∃ L, QA Z x zn cs h v B.U.heap L ∧ B.locs = P.locs ++ L ∧ B.cells = P.cells + 1 ∧ B.slots = P.slots + cs.length) := by
  obtain ⟨A, K1, K2, K3, K4, K5, K6⟩ := K
  have e : A.slots.size = cs.length := K3.trans hlen
  have hat : ∀ (i : Nat) (hi : i < cs.length), A.slots[i]? = some (.int cs[i]) := fun i hi => by rw [K5 i (by omega)]; simp [List.getD_eq_getElem?_getD, hi]
  have hcv : ∀ (i : Nat) (hi : i < cs.length), cv A i = cs[i] := fun i hi => by unfold cv; rw [hat i hi]
  have hty : Typed .char A := fun i v hv => by
    have hi : i < A.slots.size := (Array.getElem?_eq_some_iff.mp hv).1
    have q := K5 i hi
    rw [hv] at q
    rw [Option.some.inj q]
    exact K6 i hi
  refine Back.mono (back hZ hw wi E V C K1 hty S hz (by omega) (by omega) (fun i hi => by rw [hcv i (by omega)]; exact hall _ (List.getElem_mem _)) hfr hlo) (fun P a hp => ⟨hp.1, hp.2.1, hp.2.2.1, by rw [e]; exact hp.2.2.2⟩) (fun P a v B hp hq => ?_)
  obtain ⟨L, ⟨q1, q2, q3, q4, q5, q6, q7, ⟨V', v1, v2, v3, v4, v5⟩, q9⟩, hl, hc, hs⟩ := hq
  refine ⟨L, ⟨q1, q2, q3, q4, q5, q6, q7, ⟨V'.cls, v3, V', v1, rfl, by rw [v4, e, hlen], K4, fun i hi => ?_, fun i hi => ?_⟩, q9⟩, hl, hc, by rw [hs, e]⟩
  · have hi' : i < cs.length := by omega
    rw [v5 i (by omega), hcv i hi']; simp [List.getD_eq_getElem?_getD, hi']
  · have hi' : i < cs.length := by omega
    simp only [List.getD_eq_getElem?_getD, List.getElem?_map, List.getElem?_eq_getElem hi', Option.map_some, Option.getD_some]
    exact fits_lo8 _
end StrChars.Road
namespace StrChars.Road
open Jvm Sem ClassFile Op Lib Jvm.Stand Jvm.Free Jvm.Free.XT
/-- WHAT COMES BACK, in the writer's own shape -/
def QV (Z : State) (x : Addr) (N : Int32) (bs : List Int32) (h : Heap) (n0 : Nat) (v : Option Value) (h' : Heap) (L : List Loc) : Prop := v = none ∧ RoadKit.Fr n0 L ∧ RoadKit.Keep h h' [x] ∧ RoadKit.Exa Z h' x ST ∧ RoadKit.Fld Z h' x ST "coder" "B" (.int 0) ∧
  ∃ (t : Addr) (kb : ClassId), n0 ≤ t ∧ h.size ≤ t ∧ ¬ t = x ∧ RoadKit.Fld Z h' x ST "value" "[B" (.ref t) ∧ RoadKit.Arv Z h' t kb .byte N (bs.map Value.int) (.int 0)
/-- **new String(chars) AT A CALL, FOR THE WRITER**: a char[] of n known ints, each 0 to 255 -/
theorem backV {p : Program} {l : Launch} {e : Env} {R : Room} {s : State} {args : Array Value} {below : List Frame} {len W : Nat} {Z : State} {a0 : Array Value} {h : Heap} (hZ : Z.Warmed39 s.vm) (hw : ∀ d ∈ words, d.before a0 Z = true) {kI : Nat} (wi : (Jvm.Cond.instantiable ST kI).before a0 Z = true)
    {x b : Addr} {kC : ClassId} {cs bs : List Int32} {d v0 c0 : Value} {z N : Int32} {n n0 : Nat} (hx0 : n0 ≤ x) (hh0 : n0 ≤ h.size) (E : RoadKit.Exa Z h x ST) (V : RoadKit.Fld Z h x ST "value" "[B" v0) (C : RoadKit.Fld Z h x ST "coder" "B" c0) (K : RoadKit.Arv Z h b kC .char N (cs.map Value.int) d) (S : RoadKit.Sta Z h ST "COMPACT_STRINGS" "Z" (.int z)) (hz : ¬ z = 0)
    (hn : cs.length = n) (hN : N = Int32.ofNat n) (l0 : 0 < n) (l2 : n ≤ 4000) (hp : ∀ c ∈ cs, ¬ c < 0 ∧ ¬ (255 : Int32) < c) (hb : bs = cs.map (fun c => c.toInt8.toInt32)) (hfr : 4 ≤ R.frames) (hlo : W + 65 ≤ R.locals) :
    Back l R p e below s args (⟨"java/lang/String", "<init>", "([C)V"⟩ : MethodName) len W (fun P a => a = #[.ref x, .ref b] ∧ P.U.heap = h ∧ P.cells + 1 ≤ R.cells ∧ P.slots + n ≤ R.slots)
      (fun P _ v B => ∃ L, QV Z x N bs h n0 v B.U.heap L ∧ B.locs = P.locs ++ L ∧ B.cells = P.cells + 1 ∧ B.slots = P.slots + n) := by
  subst hn hN hb
  refine Back.mono (backArv hZ hw wi E V C K S hz (n32 (by omega)) l0 (by omega) (fun c hc => (hp c hc).2) hfr hlo) (fun P a hp => hp) (fun P a v B hp hq => ?_)
  obtain ⟨L, ⟨q1, q2, q3, q4, q5, q6, q7, ⟨kb, v1, v2⟩, q9⟩, hl, hc, hs⟩ := hq
  exact ⟨L, ⟨q1, fun y hy => by rw [q2 y hy]; exact hx0, q3, q5, q7, h.size, kb, hh0, Nat.le_refl _, Nat.ne_of_gt E.lt, q6, by rw [List.map_map]; exact v2⟩, hl, hc, hs⟩
end StrChars.Road
end Jvm.Pilot.@@N@@

namespace Jvm.Pilot.@@N@@
open Jvm Jvm.ClassFile Sem Op Lib Jvm.Free Jvm.Stand Jvm.LawKit Jvm.RoadKit Bundle Jvm.Pilot.@@N@@.Jvm.D
theorem own_cnil : ∀ c ∈ ([] : List Int32), ¬ c < 0 ∧ ¬ (255 : Int32) < c := fun _ q => nomatch q
theorem own_ccons {x : Int32} {L : List Int32} (h : ¬ x < 0 ∧ ¬ (255 : Int32) < x) (r : ∀ c ∈ L, ¬ c < 0 ∧ ¬ (255 : Int32) < c) : ∀ c ∈ x :: L, ¬ c < 0 ∧ ¬ (255 : Int32) < c := fun c z => (List.mem_cons.mp z).elim (fun u => u ▸ h) (r c)
theorem own_nc {x : Int32} (h1 : ¬ x < (0 : Int32)) (h2 : ¬ (255 : Int32) < x) : x.toUInt32.toUInt16.toUInt32.toInt32 = x := by
  have e0 : (0 : Int32).toInt = 0 := by decide
  have e1 : (255 : Int32).toInt = 255 := by decide
  rw [Int32.lt_iff_toInt_lt, e0] at h1
  rw [Int32.lt_iff_toInt_lt, e1] at h2
  have := c_i2c x
  rw [← Int32.toInt_inj]
  omega
theorem own_lat {x : Int32} (h1 : ¬ x < (0 : Int32)) (h2 : ¬ (255 : Int32) < x) : nar .char ((x.toInt8.toInt32 &&& (255 : Int32)).toUInt32.toUInt16.toUInt32.toInt32) = x := by
  have e : (x.toInt8.toInt32 &&& (255 : Int32)) = x := by
    have e0 : (0 : Int32).toInt = 0 := by decide
    have e1 : (255 : Int32).toInt = 255 := by decide
    rw [Int32.lt_iff_toInt_lt, e0] at h1
    rw [Int32.lt_iff_toInt_lt, e1] at h2
    have a := c_i2b x
    have b := c_mask x.toInt8.toInt32 (255 : Int32) 8 (by decide) (by decide)
    rw [← Int32.toInt_inj, b]
    omega
  rw [e, own_nc h1 h2]
  exact own_nc h1 h2
theorem own_lt256 {x : Int32} (h2 : ¬ (255 : Int32) < x) : x < (256 : Int32) := by
  have e1 : (255 : Int32).toInt = 255 := by decide
  have e2 : (256 : Int32).toInt = 256 := by decide
  rw [Int32.lt_iff_toInt_lt, e1] at h2
  rw [Int32.lt_iff_toInt_lt, e2]
  omega
/-- a sign that is no blank: 33 to 126 -/
def own_keep (x : Int32) : Prop := ¬ x < (33 : Int32) ∧ ¬ (126 : Int32) < x
def own_ws (clt : Cell) (x : Int32) : Prop := x = (32 : Int32) ∨ x = (9 : Int32) ∨ (atv clt x &&& (28672 : Int32)) = (16384 : Int32)
def own_tab (Z : State) (ta : Addr) (clt : Cell) : Prop := Scr Z Z.heap ta clt (256 : Int32) ∧ ∀ x : Int32, own_keep x → ¬ (atv clt x &&& (28672 : Int32)) = (16384 : Int32)
theorem own_tab_scr {Z : State} {ta : Addr} {clt : Cell} (T : own_tab Z ta clt) : Scr Z Z.heap ta clt (256 : Int32) := T.1
theorem own_kw {Z : State} {ta : Addr} {clt : Cell} {x : Int32} (T : own_tab Z ta clt) (w : own_ws clt x) (k : own_keep x) : False := by
  rcases w with rfl | rfl | w
  · exact k.1 (by decide)
  · exact k.1 (by decide)
  · exact T.2 x k w
theorem own_wsr {r a : Int32} (h : (r = (1 : Int32) ∧ a = (16384 : Int32)) ∨ (r = (0 : Int32) ∧ ¬ a = (16384 : Int32))) (q : ¬ r = (0 : Int32)) : a = (16384 : Int32) := by
  rcases h with h | h
  · exact h.2
  · exact absurd h.1 q
theorem own_none1 {Z : State} {ta : Addr} {clt : Cell} {x0 : Int32} (T : own_tab Z ta clt) (w0 : own_ws clt x0) : ¬ (own_keep x0) := own_kw T w0
theorem own_none2 {Z : State} {ta : Addr} {clt : Cell} {x0 x1 : Int32} (T : own_tab Z ta clt) (w0 : own_ws clt x0) (w1 : own_ws clt x1) : ¬ (own_keep x0 ∨ own_keep x1) := fun h => h.elim (own_kw T w0) (own_kw T w1)
theorem own_none3 {Z : State} {ta : Addr} {clt : Cell} {x0 x1 x2 : Int32} (T : own_tab Z ta clt) (w0 : own_ws clt x0) (w1 : own_ws clt x1) (w2 : own_ws clt x2) : ¬ (own_keep x0 ∨ own_keep x1 ∨ own_keep x2) := fun h => h.elim (own_kw T w0) (own_none2 T w1 w2)
theorem own_none4 {Z : State} {ta : Addr} {clt : Cell} {x0 x1 x2 x3 : Int32} (T : own_tab Z ta clt) (w0 : own_ws clt x0) (w1 : own_ws clt x1) (w2 : own_ws clt x2) (w3 : own_ws clt x3) : ¬ (own_keep x0 ∨ own_keep x1 ∨ own_keep x2 ∨ own_keep x3) := fun h => h.elim (own_kw T w0) (own_none3 T w1 w2 w3)
theorem own_isl_d0 : decode jdk_42_method_154_code 0 = .ok (.getstatic 38, 3) := by decide +kernel
theorem own_isl_d3 : decode jdk_42_method_154_code 3 = .ok (.ifCond .eq 14, 3) := by decide +kernel
theorem own_isl_d6 : decode jdk_42_method_154_code 6 = .ok (.aload_n 0, 1) := by decide +kernel
theorem own_isl_d7 : decode jdk_42_method_154_code 7 = .ok (.getfield 15, 3) := by decide +kernel
theorem own_isl_d10 : decode jdk_42_method_154_code 10 = .ok (.ifCond .ne 7, 3) := by decide +kernel
theorem own_isl_d13 : decode jdk_42_method_154_code 13 = .ok (.iconst 1, 1) := by decide +kernel
theorem own_isl_d14 : decode jdk_42_method_154_code 14 = .ok (.goto 4, 3) := by decide +kernel
theorem own_isl_d18 : decode jdk_42_method_154_code 18 = .ok (.ireturn, 1) := by decide +kernel
theorem own_isl_pn : plainName "java/lang/String" = true := by first | (simp [plainName, overriddenIn]; done) | decide +kernel
theorem own_isl_ef (m : MethodId) (x0 : Addr) : entryFrame m #[(.ref x0)] 1 = mkF m 0 #[.val (.ref x0)] [] := by first | (simp [entryFrame, mkF, argsToLocals, Value.category]; done) | rfl
def own_isl_Q (Z : State) (zc : Int32) (a : Addr) (h0 : Heap) (n0 : Nat) (vv_ : Option Value) (hh_ : Heap) (LL_ : List Loc) : Prop := vv_ = some (.int (1 : Int32)) ∧ Fr n0 LL_ ∧ hh_ = h0
set_option maxRecDepth 65536 in
set_option maxHeartbeats 40000000 in
theorem own_isl (l : Launch) (Z : State) (a0 : Array Value) (hw : ∀ d ∈ tables_1, d.before a0 Z = true) (ws : List Jvm.Cond) (zc : Int32) (a : Addr) (h0 : Heap) (n0 : Nat) (Z0 : n0 ≤ h0.size) (hOld : Old Z n0 h0) (Scs : Sta Z Z.heap "java/lang/String" "COMPACT_STRINGS" "Z" (.int zc)) (hzc : ¬ zc = (0 : Int32)) (C : Fld Z h0 a "java/lang/String" "coder" "B" (.int (0 : Int32))) :
    MetFree l (⟨"java/lang/String", "isLatin1", "()Z"⟩ : MethodName) (head1 (Jvm.Cond.code (⟨"java/lang/String", "isLatin1", "()Z"⟩ : MethodName) jdk_42_method_154_code 1 (some .boolean) :: ws) ({ frames := 0, cells := 0, slots := 0, locals := 0 } : Room)) (fun aa_ UU_ => aa_ = #[(.ref a)] ∧ Z.Warmed39 UU_.vm ∧ UU_.heap = h0) (fun _ _ _ _ _ => True) (fun _ UU_ oo_ UV_ => ∃ vv_ LL_, oo_ = .returned vv_ ∧ own_isl_Q Z zc a h0 n0 vv_ UV_.heap LL_ ∧ FrameEnd UU_ oo_ UV_ LL_ ({ frames := 0, cells := 0, slots := 0, locals := 0 } : Room).cells ({ frames := 0, cells := 0, slots := 0, locals := 0 } : Room).slots) := by
  refine MetFree.of_bodySF (plainFor_of_name own_isl_pn) hisR ?_
  intro p e s m args below meth c s₁ Bd hml0 hP hK
  obtain ⟨rfl, hZ, hh⟩ := hP
  have hx := Bd.exec
  have hby := Bd.bytes
  have hml : c.maxLocals = 1 := hml0
  have hown : s.vm.findClass "java/lang/String" = some m.cls := findClass_of_methodNamed Bd.named
  have hnm := (name_of_methodNamed Bd.named Bd.method).1
  have X0 : Stand p l e ({ frames := 0, cells := 0, slots := 0, locals := 0 } : Room) s m #[(.ref a)] below meth c s₁ [] 0 0 := Stand.of_body Bd
  have e0 : s₁.heap = h0 := by rw [← hh, Bd.state]; rfl
  have N0 := Fr.nil n0
  have KP0 : Keep h0 h0 [] := Keep.refl _ _
  refine ownFin (Q := own_isl_Q Z zc a h0 n0) ?_
  refine ownStep (fun _ k => castTop (own_isl_ef m a) k) ?_
  show ownGo p.tables e below (s₁.setTop (mkF m 0 #[.val (.ref a)] [])) _
  have Q1 : Sta Z h0 "java/lang/String" "COMPACT_STRINGS" "Z" (.int zc) := Scs.ext hOld.2
  obtain ⟨T2, X2, e2, st2⟩ := getS2 X0 hx hZ hown (host := "") (Or.inl (hw _ (List.mem_of_getElem? (i := 18) rfl))) Via.refl e0 Q1 (g := (mkF m 0 #[.val (.ref a)] [])) rfl (hb hby own_isl_d0)
  refine ownStep st2 ?_
  refine ownStep (fun _ k => XS.ifNo X2.here hx rfl (hb hby own_isl_d3) rfl ((if0 _ _).trans (feq (hzc : ¬ zc = (0 : Int32))).1) k) ?_
  refine ownStep (fun _ k => XS.aloadN X2.here hx rfl (hb hby own_isl_d6) rfl rfl k) ?_
  show ownGo p.tables e below (T2.setTop (mkF m 7 #[.val (.ref a)] [(.ref a)])) _
  obtain ⟨T3, X3, e3, st3⟩ := getF X2 hx hZ hown (host := "") (Or.inl (hw _ (List.mem_of_getElem? (i := 30) rfl))) Via.refl e2 C (g := (mkF m 7 #[.val (.ref a)] [(.ref a)])) rfl rfl (hb hby own_isl_d7)
  refine ownStep st3 ?_
  refine ownStep (fun _ k => XS.ifNo X3.here hx rfl (hb hby own_isl_d10) rfl ((if0 _ _).trans (teq (by decide : (0 : Int32) = (0 : Int32))).2) k) ?_
  refine ownStep (fun _ k => XS.iconst X3.here hx rfl (hb hby own_isl_d13) k) ?_
  refine ownStep (fun _ k => XS.goto X3.here hx rfl (pc0 := 14) (pc' := 18) rfl (hb hby own_isl_d14) (by decide) (by decide) k) ?_
  show ownGo p.tables e below (T3.setTop (mkF m 18 #[.val (.ref a)] [(.int (1 : Int32))])) _
  exact ownRet X3 (v := some (.int (1 : Int32))) Bd.notSynchronized (fun h => by rw [Bd.returns] at h; cases h) (fun _ hr => retN X3 hx (t := .boolean) Bd.returns (by simp) (hb hby own_isl_d18) hr) (by rw [e3]; exact ⟨rfl, N0, rfl⟩) (by decide) (by decide)
theorem own_cod_d0 : decode jdk_42_method_152_code 0 = .ok (.getstatic 38, 3) := by decide +kernel
theorem own_cod_d3 : decode jdk_42_method_152_code 3 = .ok (.ifCond .eq 10, 3) := by decide +kernel
theorem own_cod_d6 : decode jdk_42_method_152_code 6 = .ok (.aload_n 0, 1) := by decide +kernel
theorem own_cod_d7 : decode jdk_42_method_152_code 7 = .ok (.getfield 15, 3) := by decide +kernel
theorem own_cod_d10 : decode jdk_42_method_152_code 10 = .ok (.goto 4, 3) := by decide +kernel
theorem own_cod_d14 : decode jdk_42_method_152_code 14 = .ok (.ireturn, 1) := by decide +kernel
theorem own_cod_pn : plainName "java/lang/String" = true := by first | (simp [plainName, overriddenIn]; done) | decide +kernel
theorem own_cod_ef (m : MethodId) (x0 : Addr) : entryFrame m #[(.ref x0)] 1 = mkF m 0 #[.val (.ref x0)] [] := by first | (simp [entryFrame, mkF, argsToLocals, Value.category]; done) | rfl
def own_cod_Q (Z : State) (zc : Int32) (a : Addr) (h0 : Heap) (n0 : Nat) (vv_ : Option Value) (hh_ : Heap) (LL_ : List Loc) : Prop := vv_ = some (.int (0 : Int32)) ∧ Fr n0 LL_ ∧ hh_ = h0
set_option maxRecDepth 65536 in
set_option maxHeartbeats 40000000 in
theorem own_cod (l : Launch) (Z : State) (a0 : Array Value) (hw : ∀ d ∈ tables_1, d.before a0 Z = true) (ws : List Jvm.Cond) (zc : Int32) (a : Addr) (h0 : Heap) (n0 : Nat) (Z0 : n0 ≤ h0.size) (hOld : Old Z n0 h0) (Scs : Sta Z Z.heap "java/lang/String" "COMPACT_STRINGS" "Z" (.int zc)) (hzc : ¬ zc = (0 : Int32)) (C : Fld Z h0 a "java/lang/String" "coder" "B" (.int (0 : Int32))) :
    MetFree l (⟨"java/lang/String", "coder", "()B"⟩ : MethodName) (head1 (Jvm.Cond.code (⟨"java/lang/String", "coder", "()B"⟩ : MethodName) jdk_42_method_152_code 1 (some .byte) :: ws) ({ frames := 0, cells := 0, slots := 0, locals := 0 } : Room)) (fun aa_ UU_ => aa_ = #[(.ref a)] ∧ Z.Warmed39 UU_.vm ∧ UU_.heap = h0) (fun _ _ _ _ _ => True) (fun _ UU_ oo_ UV_ => ∃ vv_ LL_, oo_ = .returned vv_ ∧ own_cod_Q Z zc a h0 n0 vv_ UV_.heap LL_ ∧ FrameEnd UU_ oo_ UV_ LL_ ({ frames := 0, cells := 0, slots := 0, locals := 0 } : Room).cells ({ frames := 0, cells := 0, slots := 0, locals := 0 } : Room).slots) := by
  refine MetFree.of_bodySF (plainFor_of_name own_cod_pn) hisR ?_
  intro p e s m args below meth c s₁ Bd hml0 hP hK
  obtain ⟨rfl, hZ, hh⟩ := hP
  have hx := Bd.exec
  have hby := Bd.bytes
  have hml : c.maxLocals = 1 := hml0
  have hown : s.vm.findClass "java/lang/String" = some m.cls := findClass_of_methodNamed Bd.named
  have hnm := (name_of_methodNamed Bd.named Bd.method).1
  have X0 : Stand p l e ({ frames := 0, cells := 0, slots := 0, locals := 0 } : Room) s m #[(.ref a)] below meth c s₁ [] 0 0 := Stand.of_body Bd
  have e0 : s₁.heap = h0 := by rw [← hh, Bd.state]; rfl
  have N0 := Fr.nil n0
  have KP0 : Keep h0 h0 [] := Keep.refl _ _
  refine ownFin (Q := own_cod_Q Z zc a h0 n0) ?_
  refine ownStep (fun _ k => castTop (own_cod_ef m a) k) ?_
  show ownGo p.tables e below (s₁.setTop (mkF m 0 #[.val (.ref a)] [])) _
  have Q1 : Sta Z h0 "java/lang/String" "COMPACT_STRINGS" "Z" (.int zc) := Scs.ext hOld.2
  obtain ⟨T2, X2, e2, st2⟩ := getS2 X0 hx hZ hown (host := "") (Or.inl (hw _ (List.mem_of_getElem? (i := 18) rfl))) Via.refl e0 Q1 (g := (mkF m 0 #[.val (.ref a)] [])) rfl (hb hby own_cod_d0)
  refine ownStep st2 ?_
  refine ownStep (fun _ k => XS.ifNo X2.here hx rfl (hb hby own_cod_d3) rfl ((if0 _ _).trans (feq (hzc : ¬ zc = (0 : Int32))).1) k) ?_
  refine ownStep (fun _ k => XS.aloadN X2.here hx rfl (hb hby own_cod_d6) rfl rfl k) ?_
  show ownGo p.tables e below (T2.setTop (mkF m 7 #[.val (.ref a)] [(.ref a)])) _
  obtain ⟨T3, X3, e3, st3⟩ := getF X2 hx hZ hown (host := "") (Or.inl (hw _ (List.mem_of_getElem? (i := 30) rfl))) Via.refl e2 C (g := (mkF m 7 #[.val (.ref a)] [(.ref a)])) rfl rfl (hb hby own_cod_d7)
  refine ownStep st3 ?_
  refine ownStep (fun _ k => XS.goto X3.here hx rfl (pc0 := 10) (pc' := 14) rfl (hb hby own_cod_d10) (by decide) (by decide) k) ?_
  show ownGo p.tables e below (T3.setTop (mkF m 14 #[.val (.ref a)] [(.int (0 : Int32))])) _
  exact ownRet X3 (v := some (.int (0 : Int32))) Bd.notSynchronized (fun h => by rw [Bd.returns] at h; cases h) (fun _ hr => retN X3 hx (t := .byte) Bd.returns (by simp) (hb hby own_cod_d14) hr) (by rw [e3]; exact ⟨rfl, N0, rfl⟩) (by decide) (by decide)
theorem own_gp_d0 : decode jdk_116_method_1_code 0 = .ok (.iload_n 1, 1) := by decide +kernel
theorem own_gp_d1 : decode jdk_116_method_1_code 1 = .ok (.i2c, 1) := by decide +kernel
theorem own_gp_d2 : decode jdk_116_method_1_code 2 = .ok (.istore_n 2, 1) := by decide +kernel
theorem own_gp_d3 : decode jdk_116_method_1_code 3 = .ok (.getstatic 1, 3) := by decide +kernel
theorem own_gp_d6 : decode jdk_116_method_1_code 6 = .ok (.iload_n 2, 1) := by decide +kernel
theorem own_gp_d7 : decode jdk_116_method_1_code 7 = .ok (.iaload, 1) := by decide +kernel
theorem own_gp_d8 : decode jdk_116_method_1_code 8 = .ok (.istore_n 3, 1) := by decide +kernel
theorem own_gp_d9 : decode jdk_116_method_1_code 9 = .ok (.iload_n 3, 1) := by decide +kernel
theorem own_gp_d10 : decode jdk_116_method_1_code 10 = .ok (.ireturn, 1) := by decide +kernel
theorem own_gp_pn : plainName "java/lang/CharacterDataLatin1" = true := by first | (simp [plainName, overriddenIn]; done) | decide +kernel
theorem own_gp_ef (m : MethodId) (x0 : Addr) (x1 : Int32) : entryFrame m #[(.ref x0), (.int x1)] 4 = mkF m 0 #[.val (.ref x0), .val (.int x1), .unset, .unset] [] := by first | (simp [entryFrame, mkF, argsToLocals, Value.category]; done) | rfl
def own_gp_Q (Z : State) (ci : Addr) (ta : Addr) (clt : Cell) (a : Addr) (ch : Int32) (h0 : Heap) (n0 : Nat) (vv_ : Option Value) (hh_ : Heap) (LL_ : List Loc) : Prop := vv_ = some (.int (atv clt ch)) ∧ Fr n0 LL_ ∧ hh_ = h0
set_option maxRecDepth 65536 in
set_option maxHeartbeats 40000000 in
theorem own_gp (l : Launch) (Z : State) (a0 : Array Value) (hw : ∀ d ∈ tables_1, d.before a0 Z = true) (ws : List Jvm.Cond) (ci : Addr) (ta : Addr) (clt : Cell) (a : Addr) (ch : Int32) (h0 : Heap) (n0 : Nat) (Z0 : n0 ≤ h0.size) (hOld : Old Z n0 h0) (Sci : Sta Z Z.heap "java/lang/CharacterDataLatin1" "instance" "Ljava/lang/CharacterDataLatin1;" (.ref ci)) (Eci : Exa Z Z.heap ci "java/lang/CharacterDataLatin1") (Sca : Sta Z Z.heap "java/lang/CharacterDataLatin1" "A" "[I" (.ref ta)) (Tab : own_tab Z ta clt) (l_ch : ¬ ch < (0 : Int32)) (u_ch : ¬ (255 : Int32) < ch) :
    MetFree l (⟨"java/lang/CharacterDataLatin1", "getProperties", "(I)I"⟩ : MethodName) (head1 (Jvm.Cond.code (⟨"java/lang/CharacterDataLatin1", "getProperties", "(I)I"⟩ : MethodName) jdk_116_method_1_code 4 (some .int) :: ws) ({ frames := 0, cells := 0, slots := 0, locals := 0 } : Room)) (fun aa_ UU_ => aa_ = #[(.ref a), (.int ch)] ∧ Z.Warmed39 UU_.vm ∧ UU_.heap = h0) (fun _ _ _ _ _ => True) (fun _ UU_ oo_ UV_ => ∃ vv_ LL_, oo_ = .returned vv_ ∧ own_gp_Q Z ci ta clt a ch h0 n0 vv_ UV_.heap LL_ ∧ FrameEnd UU_ oo_ UV_ LL_ ({ frames := 0, cells := 0, slots := 0, locals := 0 } : Room).cells ({ frames := 0, cells := 0, slots := 0, locals := 0 } : Room).slots) := by
  refine MetFree.of_bodySF (plainFor_of_name own_gp_pn) hisR ?_
  intro p e s m args below meth c s₁ Bd hml0 hP hK
  obtain ⟨rfl, hZ, hh⟩ := hP
  have hx := Bd.exec
  have hby := Bd.bytes
  have hml : c.maxLocals = 4 := hml0
  have hown : s.vm.findClass "java/lang/CharacterDataLatin1" = some m.cls := findClass_of_methodNamed Bd.named
  have hnm := (name_of_methodNamed Bd.named Bd.method).1
  have X0 : Stand p l e ({ frames := 0, cells := 0, slots := 0, locals := 0 } : Room) s m #[(.ref a), (.int ch)] below meth c s₁ [] 0 0 := Stand.of_body Bd
  have e0 : s₁.heap = h0 := by rw [← hh, Bd.state]; rfl
  have N0 := Fr.nil n0
  have KP0 : Keep h0 h0 [] := Keep.refl _ _
  refine ownFin (Q := own_gp_Q Z ci ta clt a ch h0 n0) ?_
  refine ownStep (fun _ k => castTop (own_gp_ef m a ch) k) ?_
  show ownGo p.tables e below (s₁.setTop (mkF m 0 #[.val (.ref a), .val (.int ch), .unset, .unset] [])) _
  refine ownStep (fun _ k => XS.iloadN X0.here hx rfl (hb hby own_gp_d0) rfl  k) ?_
  refine ownStep (fun _ k => XS.i2c X0.here hx rfl (hb hby own_gp_d1) rfl k) ?_
  show ownGo p.tables e below (s₁.setTop (mkF m 2 #[.val (.ref a), .val (.int ch), .unset, .unset] [(.int (ch.toUInt32.toUInt16.toUInt32.toInt32))])) _
  rw [own_nc l_ch u_ch]
  refine ownStep (fun _ k => XS.istoreN X0.here hx rfl (hb hby own_gp_d2) rfl (l' := #[.val (.ref a), .val (.int ch), .val (.int ch), .unset]) rfl k) ?_
  show ownGo p.tables e below (s₁.setTop (mkF m 3 #[.val (.ref a), .val (.int ch), .val (.int ch), .unset] [])) _
  have Q1 : Sta Z h0 "java/lang/CharacterDataLatin1" "A" "[I" (.ref ta) := Sca.ext hOld.2
  obtain ⟨T2, X2, e2, st2⟩ := getS2 X0 hx hZ hown (host := "") (Or.inl (hw _ (List.mem_of_getElem? (i := 85) rfl))) Via.refl e0 Q1 (g := (mkF m 3 #[.val (.ref a), .val (.int ch), .val (.int ch), .unset] [])) rfl (hb hby own_gp_d3)
  refine ownStep st2 ?_
  refine ownStep (fun _ k => XS.iloadN X2.here hx rfl (hb hby own_gp_d6) rfl  k) ?_
  show ownGo p.tables e below (T2.setTop (mkF m 7 #[.val (.ref a), .val (.int ch), .val (.int ch), .unset] [(.int ch), (.ref ta)])) _
  have Sq3 := (own_tab_scr Tab).ext hOld.2
  have hin3 : ¬ (ch < 0 ∨ clt.slots.size ≤ ch.toNatClampNeg) := inb_of Sq3.2.1 ⟨l_ch, own_lt256 u_ch⟩
  refine ownStep (X2.iaload hx (j := ch) (v := (.int (atv clt ch))) (by rw [e2]; exact Sq3.1.1) (State.isArrayOf_alike hZ.alike Sq3.1.2.1) Sq3.1.2.2 hin3 (Sq3.2.2.2 _ hin3) (g := (mkF m 7 #[.val (.ref a), .val (.int ch), .val (.int ch), .unset] [(.int ch), (.ref ta)])) rfl rfl (hb hby own_gp_d7)) ?_
  refine ownStep (fun _ k => XS.istoreN X2.here hx rfl (hb hby own_gp_d8) rfl (l' := #[.val (.ref a), .val (.int ch), .val (.int ch), .val (.int (atv clt ch))]) rfl k) ?_
  refine ownStep (fun _ k => XS.iloadN X2.here hx rfl (hb hby own_gp_d9) rfl  k) ?_
  show ownGo p.tables e below (T2.setTop (mkF m 10 #[.val (.ref a), .val (.int ch), .val (.int ch), .val (.int (atv clt ch))] [(.int (atv clt ch))])) _
  exact ownRet X2 (v := some (.int (atv clt ch))) Bd.notSynchronized (fun h => by rw [Bd.returns] at h; cases h) (fun _ hr => retI X2 hx Bd.returns (hb hby own_gp_d10) hr) (by rw [e2]; exact ⟨rfl, N0, rfl⟩) (by decide) (by decide)
theorem own_iw_d0 : decode jdk_116_method_26_code 0 = .ok (.aload_n 0, 1) := by decide +kernel
theorem own_iw_d1 : decode jdk_116_method_26_code 1 = .ok (.iload_n 1, 1) := by decide +kernel
theorem own_iw_d2 : decode jdk_116_method_26_code 2 = .ok (.invokevirtual 15, 3) := by decide +kernel
theorem own_iw_d5 : decode jdk_116_method_26_code 5 = .ok (.istore_n 2, 1) := by decide +kernel
theorem own_iw_d6 : decode jdk_116_method_26_code 6 = .ok (.iload_n 2, 1) := by decide +kernel
theorem own_iw_d7 : decode jdk_116_method_26_code 7 = .ok (.sipush 28672, 3) := by decide +kernel
theorem own_iw_d10 : decode jdk_116_method_26_code 10 = .ok (.iand, 1) := by decide +kernel
theorem own_iw_d11 : decode jdk_116_method_26_code 11 = .ok (.sipush 16384, 3) := by decide +kernel
theorem own_iw_d14 : decode jdk_116_method_26_code 14 = .ok (.if_icmp .ne 7, 3) := by decide +kernel
theorem own_iw_d17 : decode jdk_116_method_26_code 17 = .ok (.iconst 1, 1) := by decide +kernel
theorem own_iw_d18 : decode jdk_116_method_26_code 18 = .ok (.goto 4, 3) := by decide +kernel
theorem own_iw_d21 : decode jdk_116_method_26_code 21 = .ok (.iconst 0, 1) := by decide +kernel
theorem own_iw_d22 : decode jdk_116_method_26_code 22 = .ok (.ireturn, 1) := by decide +kernel
theorem own_iw_pn : plainName "java/lang/CharacterDataLatin1" = true := by first | (simp [plainName, overriddenIn]; done) | decide +kernel
theorem own_iw_pd0 : parseMethodDescriptor "(I)I" = some ⟨[.int], some .int⟩ := by decide +kernel
theorem own_iw_ef (m : MethodId) (x0 : Addr) (x1 : Int32) : entryFrame m #[(.ref x0), (.int x1)] 3 = mkF m 0 #[.val (.ref x0), .val (.int x1), .unset] [] := by first | (simp [entryFrame, mkF, argsToLocals, Value.category]; done) | rfl
def own_iw_Q (Z : State) (ci : Addr) (ta : Addr) (clt : Cell) (a : Addr) (ch : Int32) (h0 : Heap) (n0 : Nat) (vv_ : Option Value) (hh_ : Heap) (LL_ : List Loc) : Prop := ∃ r : Int32, vv_ = some (.int r) ∧ Fr n0 LL_ ∧ hh_ = h0 ∧ ((r = (1 : Int32) ∧ (atv clt ch &&& (28672 : Int32)) = (16384 : Int32)) ∨ (r = (0 : Int32) ∧ ¬ (atv clt ch &&& (28672 : Int32)) = (16384 : Int32)))
set_option maxRecDepth 65536 in
set_option maxHeartbeats 40000000 in
theorem own_iw (l : Launch) (Z : State) (a0 : Array Value) (hw : ∀ d ∈ tables_1, d.before a0 Z = true) (ws : List Jvm.Cond) (ci : Addr) (ta : Addr) (clt : Cell) (a : Addr) (ch : Int32) (h0 : Heap) (n0 : Nat) (Z0 : n0 ≤ h0.size) (hOld : Old Z n0 h0) (Ea : Exa Z h0 a "java/lang/CharacterDataLatin1") (Sci : Sta Z Z.heap "java/lang/CharacterDataLatin1" "instance" "Ljava/lang/CharacterDataLatin1;" (.ref ci)) (Eci : Exa Z Z.heap ci "java/lang/CharacterDataLatin1") (Sca : Sta Z Z.heap "java/lang/CharacterDataLatin1" "A" "[I" (.ref ta)) (Tab : own_tab Z ta clt) (l_ch : ¬ ch < (0 : Int32)) (u_ch : ¬ (255 : Int32) < ch) :
    MetFree l (⟨"java/lang/CharacterDataLatin1", "isWhitespace", "(I)Z"⟩ : MethodName) (head1 (Jvm.Cond.code (⟨"java/lang/CharacterDataLatin1", "isWhitespace", "(I)Z"⟩ : MethodName) jdk_116_method_26_code 3 (some .boolean) :: ws) ({ frames := 1, cells := 0, slots := 0, locals := 15 } : Room)) (fun aa_ UU_ => aa_ = #[(.ref a), (.int ch)] ∧ Z.Warmed39 UU_.vm ∧ UU_.heap = h0) (fun _ _ _ _ _ => True) (fun _ UU_ oo_ UV_ => ∃ vv_ LL_, oo_ = .returned vv_ ∧ own_iw_Q Z ci ta clt a ch h0 n0 vv_ UV_.heap LL_ ∧ FrameEnd UU_ oo_ UV_ LL_ ({ frames := 1, cells := 0, slots := 0, locals := 15 } : Room).cells ({ frames := 1, cells := 0, slots := 0, locals := 15 } : Room).slots) := by
  refine MetFree.of_bodySF (plainFor_of_name own_iw_pn) hisR ?_
  intro p e s m args below meth c s₁ Bd hml0 hP hK
  obtain ⟨rfl, hZ, hh⟩ := hP
  have hx := Bd.exec
  have hby := Bd.bytes
  have hml : c.maxLocals = 3 := hml0
  have hown : s.vm.findClass "java/lang/CharacterDataLatin1" = some m.cls := findClass_of_methodNamed Bd.named
  have hnm := (name_of_methodNamed Bd.named Bd.method).1
  have X0 : Stand p l e ({ frames := 1, cells := 0, slots := 0, locals := 15 } : Room) s m #[(.ref a), (.int ch)] below meth c s₁ [] 0 0 := Stand.of_body Bd
  have e0 : s₁.heap = h0 := by rw [← hh, Bd.state]; rfl
  have N0 := Fr.nil n0
  have KP0 : Keep h0 h0 [] := Keep.refl _ _
  refine ownFin (Q := own_iw_Q Z ci ta clt a ch h0 n0) ?_
  refine ownStep (fun _ k => castTop (own_iw_ef m a ch) k) ?_
  show ownGo p.tables e below (s₁.setTop (mkF m 0 #[.val (.ref a), .val (.int ch), .unset] [])) _
  refine ownStep (fun _ k => XS.aloadN X0.here hx rfl (hb hby own_iw_d0) rfl rfl k) ?_
  refine ownStep (fun _ k => XS.iloadN X0.here hx rfl (hb hby own_iw_d1) rfl  k) ?_
  show ownGo p.tables e below (s₁.setTop (mkF m 2 #[.val (.ref a), .val (.int ch), .unset] [(.int ch), (.ref a)])) _
  have Zs2 : n0 ≤ h0.size := Nat.le_trans Z0 KP0.1
  obtain ⟨cq1, kq1, q1a, q1b, q1c⟩ := isOf hZ e0 Ea
  obtain ⟨_, _, ⟨T1, L1, k1, n1⟩, -, X1, ⟨Lc1, hQ1, l1, y1, z1⟩, st1⟩ := X0.virtualBack hx (y := (⟨"java/lang/CharacterDataLatin1", "getProperties", "(I)I"⟩ : MethodName)) (z := (⟨"java/lang/CharacterDataLatin1", "getProperties", "(I)I"⟩ : MethodName)) hown (mvT hZ (hw _ (List.mem_of_getElem? (i := 80) rfl))) (mvT hZ (hw _ (List.mem_of_getElem? (i := 81) rfl))) (notFace_of_selects (args := #[]) (mvT hZ (hw _ (List.mem_of_getElem? (i := 83) rfl)))) (mvT hZ (hw _ (List.mem_of_getElem? (i := 83) rfl))) (mvT hZ (hw _ (List.mem_of_getElem? (i := 82) rfl))) (by decide) (backOf (W := 0) (own_gp l Z a0 hw [] ci ta clt a ch h0 n0 Zs2 hOld Sci Eci Sca Tab l_ch u_ch) hZ (hw _ (List.mem_of_getElem? (i := 84) rfl)) (hw _ (List.mem_of_getElem? (i := 74) rfl)) (by decide) (by decide)) q1a q1c (g := (mkF m 2 #[.val (.ref a), .val (.int ch), .unset] [(.int ch), (.ref a)])) rfl (by rw [hml]; rfl) (Steps.refl _) (argsL := [(.int ch)]) (rest := []) (lenOf own_iw_pd0 rfl) rfl (by show 2 * 0 + _ ≤ _; exact Nat.le_of_eq rfl) (hb hby own_iw_d2) (fun _ _ => ⟨rfl, e0, (by decide : 0 + 0 ≤ _), (by decide : 0 + 0 ≤ _)⟩)
  dsimp only [Pt.U, Pt.locs, Pt.cells, Pt.slots] at X1 l1 y1 z1 st1 hQ1
  obtain rfl : k1 = 0 := y1
  obtain rfl : n1 = 0 := z1
  obtain ⟨rfl, N1q, R1⟩ := hQ1
  have N1 : Fr n0 L1 := l1 ▸ Fr.app N0 N1q
  refine ownStep (fun _ k => st1.trans k) ?_
  refine ownStep (fun _ k => XS.istoreN X1.here hx rfl (hb hby own_iw_d5) rfl (l' := #[.val (.ref a), .val (.int ch), .val (.int (atv clt ch))]) rfl k) ?_
  refine ownStep (fun _ k => XS.iloadN X1.here hx rfl (hb hby own_iw_d6) rfl  k) ?_
  refine ownStep (fun _ k => XS.sipush X1.here hx rfl (hb hby own_iw_d7) k) ?_
  refine ownStep (fun _ k => XS.iand X1.here hx rfl (hb hby own_iw_d10) rfl k) ?_
  show ownGo p.tables e below (T1.setTop (mkF m 11 #[.val (.ref a), .val (.int ch), .val (.int (atv clt ch))] [(.int ((atv clt ch) &&& (28672 : Int32)))])) _
  refine ownStep (fun _ k => XS.sipush X1.here hx rfl (hb hby own_iw_d11) k) ?_
  show ownGo p.tables e below (T1.setTop (mkF m 14 #[.val (.ref a), .val (.int ch), .val (.int (atv clt ch))] [(.int (16384 : Int32)), (.int ((atv clt ch) &&& (28672 : Int32)))])) _
  by_cases hc14 : ((atv clt ch) &&& (28672 : Int32)) = (16384 : Int32)
  · skip
    refine ownStep (fun _ k => XS.icmpNo X1.here hx rfl (hb hby own_iw_d14) rfl (teq (hc14 : ((atv clt ch) &&& (28672 : Int32)) = (16384 : Int32))).2 k) ?_
    refine ownStep (fun _ k => XS.iconst X1.here hx rfl (hb hby own_iw_d17) k) ?_
    refine ownStep (fun _ k => XS.goto X1.here hx rfl (pc0 := 18) (pc' := 22) rfl (hb hby own_iw_d18) (by decide) (by decide) k) ?_
    show ownGo p.tables e below (T1.setTop (mkF m 22 #[.val (.ref a), .val (.int ch), .val (.int (atv clt ch))] [(.int (1 : Int32))])) _
    exact ownRet X1 (v := some (.int (1 : Int32))) Bd.notSynchronized (fun h => by rw [Bd.returns] at h; cases h) (fun _ hr => retN X1 hx (t := .boolean) Bd.returns (by simp) (hb hby own_iw_d22) hr) (by rw [R1]; exact ⟨(1 : Int32), rfl, N1, rfl, (Or.inl ⟨rfl, hc14⟩)⟩) (by decide) (by decide)
  · skip
    refine ownStep (fun _ k => XS.icmpYes X1.here hx rfl (pc0 := 14) (pc' := 21) rfl (hb hby own_iw_d14) rfl (feq (hc14 : ¬ ((atv clt ch) &&& (28672 : Int32)) = (16384 : Int32))).2 (by decide) (by decide) k) ?_
    refine ownStep (fun _ k => XS.iconst X1.here hx rfl (hb hby own_iw_d21) k) ?_
    show ownGo p.tables e below (T1.setTop (mkF m 22 #[.val (.ref a), .val (.int ch), .val (.int (atv clt ch))] [(.int (0 : Int32))])) _
    exact ownRet X1 (v := some (.int (0 : Int32))) Bd.notSynchronized (fun h => by rw [Bd.returns] at h; cases h) (fun _ hr => retN X1 hx (t := .boolean) Bd.returns (by simp) (hb hby own_iw_d22) hr) (by rw [R1]; exact ⟨(0 : Int32), rfl, N1, rfl, (Or.inr ⟨rfl, hc14⟩)⟩) (by decide) (by decide)
theorem own_eq_d0 : decode jdk_42_method_66_code 0 = .ok (.aload_n 0, 1) := by decide +kernel
theorem own_eq_d1 : decode jdk_42_method_66_code 1 = .ok (.aload_n 1, 1) := by decide +kernel
theorem own_eq_d2 : decode jdk_42_method_66_code 2 = .ok (.if_acmp .ne 5, 3) := by decide +kernel
theorem own_eq_d5 : decode jdk_42_method_66_code 5 = .ok (.iconst 1, 1) := by decide +kernel
theorem own_eq_d6 : decode jdk_42_method_66_code 6 = .ok (.ireturn, 1) := by decide +kernel
theorem own_eq_pn : plainName "java/lang/String" = true := by first | (simp [plainName, overriddenIn]; done) | decide +kernel
theorem own_eq_ef (m : MethodId) (x0 : Addr) (x1 : Addr) : entryFrame m #[(.ref x0), (.ref x1)] 3 = mkF m 0 #[.val (.ref x0), .val (.ref x1), .unset] [] := by first | (simp [entryFrame, mkF, argsToLocals, Value.category]; done) | rfl
def own_eq_Q (Z : State) (a : Addr) (h0 : Heap) (n0 : Nat) (vv_ : Option Value) (hh_ : Heap) (LL_ : List Loc) : Prop := vv_ = some (.int (1 : Int32)) ∧ Fr n0 LL_ ∧ hh_ = h0
set_option maxRecDepth 65536 in
set_option maxHeartbeats 40000000 in
theorem own_eq (l : Launch) (Z : State) (a0 : Array Value) (hw : ∀ d ∈ tables_1, d.before a0 Z = true) (ws : List Jvm.Cond) (a : Addr) (h0 : Heap) (n0 : Nat) (Z0 : n0 ≤ h0.size) :
    MetFree l (⟨"java/lang/String", "equals", "(Ljava/lang/Object;)Z"⟩ : MethodName) (head1 (Jvm.Cond.code (⟨"java/lang/String", "equals", "(Ljava/lang/Object;)Z"⟩ : MethodName) jdk_42_method_66_code 3 (some .boolean) :: ws) ({ frames := 0, cells := 0, slots := 0, locals := 0 } : Room)) (fun aa_ UU_ => aa_ = #[(.ref a), (.ref a)] ∧ Z.Warmed39 UU_.vm ∧ UU_.heap = h0) (fun _ _ _ _ _ => True) (fun _ UU_ oo_ UV_ => ∃ vv_ LL_, oo_ = .returned vv_ ∧ own_eq_Q Z a h0 n0 vv_ UV_.heap LL_ ∧ FrameEnd UU_ oo_ UV_ LL_ ({ frames := 0, cells := 0, slots := 0, locals := 0 } : Room).cells ({ frames := 0, cells := 0, slots := 0, locals := 0 } : Room).slots) := by
  refine MetFree.of_bodySF (plainFor_of_name own_eq_pn) hisR ?_
  intro p e s m args below meth c s₁ Bd hml0 hP hK
  obtain ⟨rfl, hZ, hh⟩ := hP
  have hx := Bd.exec
  have hby := Bd.bytes
  have hml : c.maxLocals = 3 := hml0
  have hown : s.vm.findClass "java/lang/String" = some m.cls := findClass_of_methodNamed Bd.named
  have hnm := (name_of_methodNamed Bd.named Bd.method).1
  have X0 : Stand p l e ({ frames := 0, cells := 0, slots := 0, locals := 0 } : Room) s m #[(.ref a), (.ref a)] below meth c s₁ [] 0 0 := Stand.of_body Bd
  have e0 : s₁.heap = h0 := by rw [← hh, Bd.state]; rfl
  have N0 := Fr.nil n0
  have KP0 : Keep h0 h0 [] := Keep.refl _ _
  refine ownFin (Q := own_eq_Q Z a h0 n0) ?_
  refine ownStep (fun _ k => castTop (own_eq_ef m a a) k) ?_
  show ownGo p.tables e below (s₁.setTop (mkF m 0 #[.val (.ref a), .val (.ref a), .unset] [])) _
  refine ownStep (fun _ k => XS.aloadN X0.here hx rfl (hb hby own_eq_d0) rfl rfl k) ?_
  refine ownStep (fun _ k => XS.aloadN X0.here hx rfl (hb hby own_eq_d1) rfl rfl k) ?_
  show ownGo p.tables e below (s₁.setTop (mkF m 2 #[.val (.ref a), .val (.ref a), .unset] [(.ref a), (.ref a)])) _
  refine ownStep (fun _ k => Jvm.RoadKit.acmp (g := (mkF m 2 #[.val (.ref a), .val (.ref a), .unset] [(.ref a), (.ref a)])) X0 hx rfl rfl rfl (pc0 := 2) (pc' := 5) (same := true) rfl (hb hby own_eq_d2) rfl (decide_eq_true rfl) (by decide) (by decide) k) ?_
  refine ownStep (fun _ k => XS.iconst X0.here hx rfl (hb hby own_eq_d5) k) ?_
  show ownGo p.tables e below (s₁.setTop (mkF m 6 #[.val (.ref a), .val (.ref a), .unset] [(.int (1 : Int32))])) _
  exact ownRet X0 (v := some (.int (1 : Int32))) Bd.notSynchronized (fun h => by rw [Bd.returns] at h; cases h) (fun _ hr => retN X0 hx (t := .boolean) Bd.returns (by simp) (hb hby own_eq_d6) hr) (by rw [e0]; exact ⟨rfl, N0, rfl⟩) (by decide) (by decide)
theorem own_ce_d0 : decode jdk_43_method_3_code 0 = .ok (.iload_n 0, 1) := by decide +kernel
theorem own_ce_d1 : decode jdk_43_method_3_code 1 = .ok (.sipush 255, 3) := by decide +kernel
theorem own_ce_d4 : decode jdk_43_method_3_code 4 = .ok (.if_icmp .gt 7, 3) := by decide +kernel
theorem own_ce_d7 : decode jdk_43_method_3_code 7 = .ok (.iconst 1, 1) := by decide +kernel
theorem own_ce_d8 : decode jdk_43_method_3_code 8 = .ok (.goto 4, 3) := by decide +kernel
theorem own_ce_d12 : decode jdk_43_method_3_code 12 = .ok (.ireturn, 1) := by decide +kernel
theorem own_ce_pn : plainName "java/lang/StringLatin1" = true := by first | (simp [plainName, overriddenIn]; done) | decide +kernel
theorem own_ce_ef (m : MethodId) (x0 : Int32) : entryFrame m #[(.int x0)] 1 = mkF m 0 #[.val (.int x0)] [] := by first | (simp [entryFrame, mkF, argsToLocals, Value.category]; done) | rfl
def own_ce_Q (Z : State) (ch : Int32) (h0 : Heap) (n0 : Nat) (vv_ : Option Value) (hh_ : Heap) (LL_ : List Loc) : Prop := vv_ = some (.int (1 : Int32)) ∧ Fr n0 LL_ ∧ hh_ = h0
set_option maxRecDepth 65536 in
set_option maxHeartbeats 40000000 in
theorem own_ce (l : Launch) (Z : State) (a0 : Array Value) (hw : ∀ d ∈ tables_1, d.before a0 Z = true) (ws : List Jvm.Cond) (ch : Int32) (h0 : Heap) (n0 : Nat) (Z0 : n0 ≤ h0.size) (l_ch : ¬ ch < (0 : Int32)) (u_ch : ¬ (255 : Int32) < ch) :
    MetFree l (⟨"java/lang/StringLatin1", "canEncode", "(C)Z"⟩ : MethodName) (head1 (Jvm.Cond.code (⟨"java/lang/StringLatin1", "canEncode", "(C)Z"⟩ : MethodName) jdk_43_method_3_code 1 (some .boolean) :: ws) ({ frames := 0, cells := 0, slots := 0, locals := 0 } : Room)) (fun aa_ UU_ => aa_ = #[(.int ch)] ∧ Z.Warmed39 UU_.vm ∧ UU_.heap = h0) (fun _ _ _ _ _ => True) (fun _ UU_ oo_ UV_ => ∃ vv_ LL_, oo_ = .returned vv_ ∧ own_ce_Q Z ch h0 n0 vv_ UV_.heap LL_ ∧ FrameEnd UU_ oo_ UV_ LL_ ({ frames := 0, cells := 0, slots := 0, locals := 0 } : Room).cells ({ frames := 0, cells := 0, slots := 0, locals := 0 } : Room).slots) := by
  refine MetFree.of_bodySF (plainFor_of_name own_ce_pn) hisR ?_
  intro p e s m args below meth c s₁ Bd hml0 hP hK
  obtain ⟨rfl, hZ, hh⟩ := hP
  have hx := Bd.exec
  have hby := Bd.bytes
  have hml : c.maxLocals = 1 := hml0
  have hown : s.vm.findClass "java/lang/StringLatin1" = some m.cls := findClass_of_methodNamed Bd.named
  have hnm := (name_of_methodNamed Bd.named Bd.method).1
  have X0 : Stand p l e ({ frames := 0, cells := 0, slots := 0, locals := 0 } : Room) s m #[(.int ch)] below meth c s₁ [] 0 0 := Stand.of_body Bd
  have e0 : s₁.heap = h0 := by rw [← hh, Bd.state]; rfl
  have N0 := Fr.nil n0
  have KP0 : Keep h0 h0 [] := Keep.refl _ _
  refine ownFin (Q := own_ce_Q Z ch h0 n0) ?_
  refine ownStep (fun _ k => castTop (own_ce_ef m ch) k) ?_
  show ownGo p.tables e below (s₁.setTop (mkF m 0 #[.val (.int ch)] [])) _
  refine ownStep (fun _ k => XS.iloadN X0.here hx rfl (hb hby own_ce_d0) rfl  k) ?_
  refine ownStep (fun _ k => XS.sipush X0.here hx rfl (hb hby own_ce_d1) k) ?_
  refine ownStep (fun _ k => XS.icmpNo X0.here hx rfl (hb hby own_ce_d4) rfl (flt (u_ch : ¬ (255 : Int32) < ch)).2.2.1 k) ?_
  refine ownStep (fun _ k => XS.iconst X0.here hx rfl (hb hby own_ce_d7) k) ?_
  refine ownStep (fun _ k => XS.goto X0.here hx rfl (pc0 := 8) (pc' := 12) rfl (hb hby own_ce_d8) (by decide) (by decide) k) ?_
  show ownGo p.tables e below (s₁.setTop (mkF m 12 #[.val (.int ch)] [(.int (1 : Int32))])) _
  exact ownRet X0 (v := some (.int (1 : Int32))) Bd.notSynchronized (fun h => by rw [Bd.returns] at h; cases h) (fun _ hr => retN X0 hx (t := .boolean) Bd.returns (by simp) (hb hby own_ce_d12) hr) (by rw [e0]; exact ⟨rfl, N0, rfl⟩) (by decide) (by decide)
theorem own_tb_d0 : decode jdk_43_method_46_code 0 = .ok (.iconst 1, 1) := by decide +kernel
theorem own_tb_d1 : decode jdk_43_method_46_code 1 = .ok (.newarray .byte, 2) := by decide +kernel
theorem own_tb_d3 : decode jdk_43_method_46_code 3 = .ok (.dup, 1) := by decide +kernel
theorem own_tb_d4 : decode jdk_43_method_46_code 4 = .ok (.iconst 0, 1) := by decide +kernel
theorem own_tb_d5 : decode jdk_43_method_46_code 5 = .ok (.iload_n 0, 1) := by decide +kernel
theorem own_tb_d6 : decode jdk_43_method_46_code 6 = .ok (.i2b, 1) := by decide +kernel
theorem own_tb_d7 : decode jdk_43_method_46_code 7 = .ok (.bastore, 1) := by decide +kernel
theorem own_tb_d8 : decode jdk_43_method_46_code 8 = .ok (.areturn, 1) := by decide +kernel
theorem own_tb_pn : plainName "java/lang/StringLatin1" = true := by first | (simp [plainName, overriddenIn]; done) | decide +kernel
theorem own_tb_ef (m : MethodId) (x0 : Int32) : entryFrame m #[(.int x0)] 1 = mkF m 0 #[.val (.int x0)] [] := by first | (simp [entryFrame, mkF, argsToLocals, Value.category]; done) | rfl
def own_tb_Q (Z : State) (ch : Int32) (h0 : Heap) (n0 : Nat) (vv_ : Option Value) (hh_ : Heap) (LL_ : List Loc) : Prop := ∃ bb : Addr, vv_ = some (.ref bb) ∧ Fr n0 LL_ ∧ Ext h0 hh_ ∧ (h0.size ≤ bb)
set_option maxRecDepth 65536 in
set_option maxHeartbeats 40000000 in
theorem own_tb (l : Launch) (Z : State) (a0 : Array Value) (hw : ∀ d ∈ tables_1, d.before a0 Z = true) (ws : List Jvm.Cond) (ch : Int32) (h0 : Heap) (n0 : Nat) (Z0 : n0 ≤ h0.size) :
    MetFree l (⟨"java/lang/StringLatin1", "toBytes", "(C)[B"⟩ : MethodName) (head1 (Jvm.Cond.code (⟨"java/lang/StringLatin1", "toBytes", "(C)[B"⟩ : MethodName) jdk_43_method_46_code 1 (some (.array .byte)) :: ws) ({ frames := 0, cells := 1, slots := 1, locals := 0 } : Room)) (fun aa_ UU_ => aa_ = #[(.int ch)] ∧ Z.Warmed39 UU_.vm ∧ UU_.heap = h0) (fun _ _ _ _ _ => True) (fun _ UU_ oo_ UV_ => ∃ vv_ LL_, oo_ = .returned vv_ ∧ own_tb_Q Z ch h0 n0 vv_ UV_.heap LL_ ∧ FrameEnd UU_ oo_ UV_ LL_ ({ frames := 0, cells := 1, slots := 1, locals := 0 } : Room).cells ({ frames := 0, cells := 1, slots := 1, locals := 0 } : Room).slots) := by
  refine MetFree.of_bodySF (plainFor_of_name own_tb_pn) hisR ?_
  intro p e s m args below meth c s₁ Bd hml0 hP hK
  obtain ⟨rfl, hZ, hh⟩ := hP
  have hx := Bd.exec
  have hby := Bd.bytes
  have hml : c.maxLocals = 1 := hml0
  have hown : s.vm.findClass "java/lang/StringLatin1" = some m.cls := findClass_of_methodNamed Bd.named
  have hnm := (name_of_methodNamed Bd.named Bd.method).1
  have X0 : Stand p l e ({ frames := 0, cells := 1, slots := 1, locals := 0 } : Room) s m #[(.int ch)] below meth c s₁ [] 0 0 := Stand.of_body Bd
  have e0 : s₁.heap = h0 := by rw [← hh, Bd.state]; rfl
  have N0 := Fr.nil n0
  have KP0 : Keep h0 h0 [] := Keep.refl _ _
  refine ownFin (Q := own_tb_Q Z ch h0 n0) ?_
  refine ownStep (fun _ k => castTop (own_tb_ef m ch) k) ?_
  show ownGo p.tables e below (s₁.setTop (mkF m 0 #[.val (.int ch)] [])) _
  refine ownStep (fun _ k => XS.iconst X0.here hx rfl (hb hby own_tb_d0) k) ?_
  show ownGo p.tables e below (s₁.setTop (mkF m 1 #[.val (.int ch)] [(.int (1 : Int32))])) _
  obtain ⟨T1, h1, k1, X1, e1, E1, A1, st1⟩ := newP X0 hx hZ (hw _ (List.mem_of_getElem? (i := 23) rfl)) e0 (g := (mkF m 1 #[.val (.int ch)] [(.int (1 : Int32))])) rfl (hb hby own_tb_d1) rfl (by decide) (cap := 1) (by decide) (by decide) (by decide) (by decide)
  obtain ⟨b1, g1⟩ : ∃ z, z = h0.size := ⟨_, rfl⟩
  rw [← g1] at A1 st1
  have gh_b1 : h0.size ≤ b1 := Nat.le_trans KP0.1 (Nat.le_of_eq g1.symm)
  have gn_b1 : n0 ≤ b1 := Nat.le_trans Z0 gh_b1
  have KP2 : Keep h0 h1 [] := KP0.ext E1
  have V1 : Arv Z h1 b1 k1 .byte (1 : Int32) [(.int (0 : Int32))] (.int (0 : Int32)) := (Arv.new A1 (by decide)).pad (pad_rep [] (.int (0 : Int32)) 1)
  refine ownStep st1 ?_
  refine ownStep (fun _ k => XS.dup X1.here hx rfl (hb hby own_tb_d3) rfl rfl k) ?_
  refine ownStep (fun _ k => XS.iconst X1.here hx rfl (hb hby own_tb_d4) k) ?_
  refine ownStep (fun _ k => XS.iloadN X1.here hx rfl (hb hby own_tb_d5) rfl  k) ?_
  refine ownStep (fun _ k => XS.i2b X1.here hx rfl (hb hby own_tb_d6) rfl k) ?_
  show ownGo p.tables e below (T1.setTop (mkF m 7 #[.val (.int ch)] [(.int (ch.toInt8.toInt32)), (.int (0 : Int32)), (.ref b1), (.ref b1)])) _
  have Vo3 := V1
  obtain ⟨cl3, Ar3, q3, S3, N3, H3, G3⟩ := Vo3
  have hin3 : ¬ ((0 : Int32) < 0 ∨ cl3.slots.size ≤ ((0 : Int32)).toNatClampNeg) := inb_of S3 ⟨by decide, by decide⟩
  obtain ⟨T4, h4, X4, e4, W4, st4⟩ := stB X1 hx hZ e1 Ar3 (j := (0 : Int32)) hin3 (g := (mkF m 7 #[.val (.int ch)] [(.int (ch.toInt8.toInt32)), (.int (0 : Int32)), (.ref b1), (.ref b1)])) rfl rfl (hb hby own_tb_d7)
  have N5 := Fr.snoc X4 N0 gn_b1
  have KP6 : Keep h0 h4 [] := KP2.wr W4 (Or.inr gh_b1)
  have V7 : Arv Z h4 b1 k1 .byte (1 : Int32) [(.int (ch.toInt8.toInt32).toInt8.toInt32)] (.int (0 : Int32)) := Arv.set Ar3 q3 S3 N3 H3 G3 (fits_nar_byte _) W4 0 rfl (Nat.le_of_ble_eq_true rfl)
  refine ownStep st4 ?_
  show ownGo p.tables e below (T4.setTop (mkF m 8 #[.val (.int ch)] [(.ref b1)])) _
  exact ownRet X4 (v := some (.ref b1)) Bd.notSynchronized (fun h => by rw [Bd.returns] at h; cases h) (fun _ hr => retOut X4 hx (t := (.array .byte)) Bd.returns rfl (Or.inr (Or.inr (Or.inr (Or.inr ⟨rfl, rfl, rfl⟩)))) (hb hby own_tb_d8) hr) (by rw [e4]; exact ⟨b1, rfl, N5, (own_extOf KP6), gh_b1⟩) (by decide) (by decide)
theorem own_si_d0 : decode jdk_42_method_151_code 0 = .ok (.aload_n 0, 1) := by decide +kernel
theorem own_si_d1 : decode jdk_42_method_151_code 1 = .ok (.invokespecial 1, 3) := by decide +kernel
theorem own_si_d4 : decode jdk_42_method_151_code 4 = .ok (.aload_n 0, 1) := by decide +kernel
theorem own_si_d5 : decode jdk_42_method_151_code 5 = .ok (.aload_n 1, 1) := by decide +kernel
theorem own_si_d6 : decode jdk_42_method_151_code 6 = .ok (.putfield 9, 3) := by decide +kernel
theorem own_si_d9 : decode jdk_42_method_151_code 9 = .ok (.aload_n 0, 1) := by decide +kernel
theorem own_si_d10 : decode jdk_42_method_151_code 10 = .ok (.iload_n 2, 1) := by decide +kernel
theorem own_si_d11 : decode jdk_42_method_151_code 11 = .ok (.putfield 15, 3) := by decide +kernel
theorem own_si_d14 : decode jdk_42_method_151_code 14 = .ok (.return_, 1) := by decide +kernel
theorem own_si_pn : plainName "java/lang/String" = true := by first | (simp [plainName, overriddenIn]; done) | decide +kernel
theorem own_si_ef (m : MethodId) (x0 : Addr) (x1 : Addr) (x2 : Int32) : entryFrame m #[(.ref x0), (.ref x1), (.int x2)] 3 = mkF m 0 #[.val (.ref x0), .val (.ref x1), .val (.int x2)] [] := by first | (simp [entryFrame, mkF, argsToLocals, Value.category]; done) | rfl
def own_si_Q (Z : State) (a : Addr) (bb : Addr) (h0 : Heap) (n0 : Nat) (vv_ : Option Value) (hh_ : Heap) (LL_ : List Loc) : Prop := vv_ = none ∧ Fr n0 LL_ ∧ Keep h0 hh_ [a]
set_option maxRecDepth 65536 in
set_option maxHeartbeats 40000000 in
theorem own_si (l : Launch) (Z : State) (a0 : Array Value) (hw : ∀ d ∈ tables_1, d.before a0 Z = true) (ws : List Jvm.Cond) (a : Addr) (bb : Addr) (h0 : Heap) (n0 : Nat) (Z0 : n0 ≤ h0.size) (E : Exa Z h0 a "java/lang/String") (Fv : Fld Z h0 a "java/lang/String" "value" "[B" .null) (Fc : Fld Z h0 a "java/lang/String" "coder" "B" (.int (0 : Int32))) (g : n0 ≤ a) :
    MetFree l (⟨"java/lang/String", "<init>", "([BB)V"⟩ : MethodName) (head1 (Jvm.Cond.code (⟨"java/lang/String", "<init>", "([BB)V"⟩ : MethodName) jdk_42_method_151_code 3 none :: ws) ({ frames := 1, cells := 0, slots := 0, locals := 12 } : Room)) (fun aa_ UU_ => aa_ = #[(.ref a), (.ref bb), (.int (0 : Int32))] ∧ Z.Warmed39 UU_.vm ∧ UU_.heap = h0) (fun _ _ _ _ _ => True) (fun _ UU_ oo_ UV_ => ∃ vv_ LL_, oo_ = .returned vv_ ∧ own_si_Q Z a bb h0 n0 vv_ UV_.heap LL_ ∧ FrameEnd UU_ oo_ UV_ LL_ ({ frames := 1, cells := 0, slots := 0, locals := 12 } : Room).cells ({ frames := 1, cells := 0, slots := 0, locals := 12 } : Room).slots) := by
  refine MetFree.of_bodySF (plainFor_of_name own_si_pn) hisR ?_
  intro p e s m args below meth c s₁ Bd hml0 hP hK
  obtain ⟨rfl, hZ, hh⟩ := hP
  have hx := Bd.exec
  have hby := Bd.bytes
  have hml : c.maxLocals = 3 := hml0
  have hown : s.vm.findClass "java/lang/String" = some m.cls := findClass_of_methodNamed Bd.named
  have hnm := (name_of_methodNamed Bd.named Bd.method).1
  have X0 : Stand p l e ({ frames := 1, cells := 0, slots := 0, locals := 12 } : Room) s m #[(.ref a), (.ref bb), (.int (0 : Int32))] below meth c s₁ [] 0 0 := Stand.of_body Bd
  have e0 : s₁.heap = h0 := by rw [← hh, Bd.state]; rfl
  have N0 := Fr.nil n0
  have KP0 : Keep h0 h0 [a] := Keep.refl _ _
  refine ownFin (Q := own_si_Q Z a bb h0 n0) ?_
  refine ownStep (fun _ k => castTop (own_si_ef m a bb (0 : Int32)) k) ?_
  show ownGo p.tables e below (s₁.setTop (mkF m 0 #[.val (.ref a), .val (.ref bb), .val (.int (0 : Int32))] [])) _
  refine ownStep (fun _ k => XS.aloadN X0.here hx rfl (hb hby own_si_d0) rfl rfl k) ?_
  show ownGo p.tables e below (s₁.setTop (mkF m 1 #[.val (.ref a), .val (.ref bb), .val (.int (0 : Int32))] [(.ref a)])) _
  obtain ⟨T1, X1, e1, st1⟩ := initO X0 hx hZ hown (hw _ (List.mem_of_getElem? (i := 15) rfl)) (hw _ (List.mem_of_getElem? (i := 16) rfl)) (hw _ (List.mem_of_getElem? (i := 17) rfl)) e0 (g := (mkF m 1 #[.val (.ref a), .val (.ref bb), .val (.int (0 : Int32))] [(.ref a)])) rfl (by rw [hml]; rfl) rfl (hb hby own_si_d1) (by decide) (W := 0) (by show 2 * 0 + _ ≤ _; exact Nat.le_of_eq rfl) (by decide)
  refine ownStep st1 ?_
  refine ownStep (fun _ k => XS.aloadN X1.here hx rfl (hb hby own_si_d4) rfl rfl k) ?_
  refine ownStep (fun _ k => XS.aloadN X1.here hx rfl (hb hby own_si_d5) rfl rfl k) ?_
  show ownGo p.tables e below (T1.setTop (mkF m 6 #[.val (.ref a), .val (.ref bb), .val (.int (0 : Int32))] [(.ref bb), (.ref a)])) _
  obtain ⟨T2, h2, X2, e2, W2, st2⟩ := putF X1 hx hZ hown (host := "") (Or.inl (hw _ (List.mem_of_getElem? (i := 32) rfl))) Via.refl e1 Fv E (Or.inr ⟨(hw _ (List.mem_of_getElem? (i := 33) rfl)), rfl, hnm⟩) (hw _ (List.mem_of_getElem? (i := 5) rfl)) (ty := (.array .byte)) (by decide) rfl rfl (g := (mkF m 6 #[.val (.ref a), .val (.ref bb), .val (.int (0 : Int32))] [(.ref bb), (.ref a)])) rfl rfl (hb hby own_si_d6)
  have N3 := Fr.snoc X2 N0 g
  have KP4 : Keep h0 h2 [a] := KP0.wr W2 (Or.inl (List.mem_of_getElem? (i := 0) rfl))
  have F5 : Fld Z h2 a "java/lang/String" "value" "[B" (.ref bb) := Fv.same W2
  refine ownStep st2 ?_
  refine ownStep (fun _ k => XS.aloadN X2.here hx rfl (hb hby own_si_d9) rfl rfl k) ?_
  refine ownStep (fun _ k => XS.iloadN X2.here hx rfl (hb hby own_si_d10) rfl  k) ?_
  show ownGo p.tables e below (T2.setTop (mkF m 11 #[.val (.ref a), .val (.ref bb), .val (.int (0 : Int32))] [(.int (0 : Int32)), (.ref a)])) _
  have Q6 : Fld Z h2 a "java/lang/String" "coder" "B" (.int (0 : Int32)) := (Fc.other W2 (Or.inr (slot_ne (Or.inr (hw _ (List.mem_of_getElem? (i := 31) rfl))) (Or.inr (hw _ (List.mem_of_getElem? (i := 33) rfl))) (by decide) (t := .byte) (t' := (.array .byte)) (by decide) (by decide))))
  have Q7 : Exa Z h2 a "java/lang/String" := (E.wr W2)
  obtain ⟨T8, h8, X8, e8, W8, st8⟩ := putFN X2 hx hZ hown (hw _ (List.mem_of_getElem? (i := 30) rfl)) Via.refl e2 Q6 Q7 (Or.inr ⟨(hw _ (List.mem_of_getElem? (i := 31) rfl)), rfl, hnm⟩) (hw _ (List.mem_of_getElem? (i := 5) rfl)) (ty := .byte) (v' := (.int (0 : Int32))) (by decide) rfl rfl (g := (mkF m 11 #[.val (.ref a), .val (.ref bb), .val (.int (0 : Int32))] [(.int (0 : Int32)), (.ref a)])) rfl rfl (hb hby own_si_d11)
  have N9 := Fr.snoc X8 N3 g
  have KP10 : Keep h0 h8 [a] := KP4.wr W8 (Or.inl (List.mem_of_getElem? (i := 0) rfl))
  have F11 : Fld Z h8 a "java/lang/String" "coder" "B" (.int (0 : Int32)) := Q6.same W8
  refine ownStep st8 ?_
  show ownGo p.tables e below (T8.setTop (mkF m 14 #[.val (.ref a), .val (.ref bb), .val (.int (0 : Int32))] [])) _
  exact ownRet X8 (v := none) Bd.notSynchronized (fun _ => rfl) (fun _ hr => X8.returnOut hx Bd.returns (hb hby own_si_d14) hr) (by rw [e8]; exact ⟨rfl, N9, KP10⟩) (by decide) (by decide)
theorem own_vo_d0 : decode jdk_42_method_139_code 0 = .ok (.getstatic 38, 3) := by decide +kernel
theorem own_vo_d3 : decode jdk_42_method_139_code 3 = .ok (.ifCond .eq 23, 3) := by decide +kernel
theorem own_vo_d6 : decode jdk_42_method_139_code 6 = .ok (.iload_n 0, 1) := by decide +kernel
theorem own_vo_d7 : decode jdk_42_method_139_code 7 = .ok (.invokestatic 1015, 3) := by decide +kernel
theorem own_vo_d10 : decode jdk_42_method_139_code 10 = .ok (.ifCond .eq 16, 3) := by decide +kernel
theorem own_vo_d13 : decode jdk_42_method_139_code 13 = .ok (.new 10, 3) := by decide +kernel
theorem own_vo_d16 : decode jdk_42_method_139_code 16 = .ok (.dup, 1) := by decide +kernel
theorem own_vo_d17 : decode jdk_42_method_139_code 17 = .ok (.iload_n 0, 1) := by decide +kernel
theorem own_vo_d18 : decode jdk_42_method_139_code 18 = .ok (.invokestatic 1018, 3) := by decide +kernel
theorem own_vo_d21 : decode jdk_42_method_139_code 21 = .ok (.iconst 0, 1) := by decide +kernel
theorem own_vo_d22 : decode jdk_42_method_139_code 22 = .ok (.invokespecial 209, 3) := by decide +kernel
theorem own_vo_d25 : decode jdk_42_method_139_code 25 = .ok (.areturn, 1) := by decide +kernel
theorem own_vo_pn : plainName "java/lang/String" = true := by first | (simp [plainName, overriddenIn]; done) | decide +kernel
theorem own_vo_pd0 : parseMethodDescriptor "(C)Z" = some ⟨[.char], some .boolean⟩ := by decide +kernel
theorem own_vo_pd1 : parseMethodDescriptor "(C)[B" = some ⟨[.char], some (.array .byte)⟩ := by decide +kernel
theorem own_vo_pd2 : parseMethodDescriptor "([BB)V" = some ⟨[(.array .byte), .byte], none⟩ := by decide +kernel
theorem own_vo_ef (m : MethodId) (x0 : Int32) : entryFrame m #[(.int x0)] 1 = mkF m 0 #[.val (.int x0)] [] := by first | (simp [entryFrame, mkF, argsToLocals, Value.category]; done) | rfl
def own_vo_Q (Z : State) (zc : Int32) (ch : Int32) (h0 : Heap) (n0 : Nat) (vv_ : Option Value) (hh_ : Heap) (LL_ : List Loc) : Prop := ∃ sb : Addr, vv_ = some (.ref sb) ∧ Fr n0 LL_ ∧ Ext h0 hh_ ∧ (Exa Z hh_ sb "java/lang/String")
set_option maxRecDepth 65536 in
set_option maxHeartbeats 40000000 in
theorem own_vo (l : Launch) (Z : State) (a0 : Array Value) (hw : ∀ d ∈ tables_1, d.before a0 Z = true) (ws : List Jvm.Cond) (zc : Int32) (ch : Int32) (h0 : Heap) (n0 : Nat) (Z0 : n0 ≤ h0.size) (hOld : Old Z n0 h0) (Scs : Sta Z Z.heap "java/lang/String" "COMPACT_STRINGS" "Z" (.int zc)) (hzc : ¬ zc = (0 : Int32)) (l_ch : ¬ ch < (0 : Int32)) (u_ch : ¬ (255 : Int32) < ch) :
    MetFree l (⟨"java/lang/String", "valueOf", "(C)Ljava/lang/String;"⟩ : MethodName) (head1 (Jvm.Cond.code (⟨"java/lang/String", "valueOf", "(C)Ljava/lang/String;"⟩ : MethodName) jdk_42_method_139_code 1 (some (.object "java/lang/String")) :: ws) ({ frames := 2, cells := 2, slots := 5, locals := 27 } : Room)) (fun aa_ UU_ => aa_ = #[(.int ch)] ∧ Z.Warmed39 UU_.vm ∧ UU_.heap = h0) (fun _ _ _ _ _ => True) (fun _ UU_ oo_ UV_ => ∃ vv_ LL_, oo_ = .returned vv_ ∧ own_vo_Q Z zc ch h0 n0 vv_ UV_.heap LL_ ∧ FrameEnd UU_ oo_ UV_ LL_ ({ frames := 2, cells := 2, slots := 5, locals := 27 } : Room).cells ({ frames := 2, cells := 2, slots := 5, locals := 27 } : Room).slots) := by
  refine MetFree.of_bodySF (plainFor_of_name own_vo_pn) hisR ?_
  intro p e s m args below meth c s₁ Bd hml0 hP hK
  obtain ⟨rfl, hZ, hh⟩ := hP
  have hx := Bd.exec
  have hby := Bd.bytes
  have hml : c.maxLocals = 1 := hml0
  have hown : s.vm.findClass "java/lang/String" = some m.cls := findClass_of_methodNamed Bd.named
  have hnm := (name_of_methodNamed Bd.named Bd.method).1
  have X0 : Stand p l e ({ frames := 2, cells := 2, slots := 5, locals := 27 } : Room) s m #[(.int ch)] below meth c s₁ [] 0 0 := Stand.of_body Bd
  have e0 : s₁.heap = h0 := by rw [← hh, Bd.state]; rfl
  have N0 := Fr.nil n0
  have KP0 : Keep h0 h0 [] := Keep.refl _ _
  refine ownFin (Q := own_vo_Q Z zc ch h0 n0) ?_
  refine ownStep (fun _ k => castTop (own_vo_ef m ch) k) ?_
  show ownGo p.tables e below (s₁.setTop (mkF m 0 #[.val (.int ch)] [])) _
  have Q1 : Sta Z h0 "java/lang/String" "COMPACT_STRINGS" "Z" (.int zc) := Scs.ext hOld.2
  obtain ⟨T2, X2, e2, st2⟩ := getS2 X0 hx hZ hown (host := "") (Or.inl (hw _ (List.mem_of_getElem? (i := 18) rfl))) Via.refl e0 Q1 (g := (mkF m 0 #[.val (.int ch)] [])) rfl (hb hby own_vo_d0)
  refine ownStep st2 ?_
  refine ownStep (fun _ k => XS.ifNo X2.here hx rfl (hb hby own_vo_d3) rfl ((if0 _ _).trans (feq (hzc : ¬ zc = (0 : Int32))).1) k) ?_
  refine ownStep (fun _ k => XS.iloadN X2.here hx rfl (hb hby own_vo_d6) rfl  k) ?_
  show ownGo p.tables e below (T2.setTop (mkF m 7 #[.val (.int ch)] [(.int ch)])) _
  have Zs4 : n0 ≤ h0.size := Nat.le_trans Z0 KP0.1
  obtain ⟨_, _, ⟨T3, L3, k3, n3⟩, -, X3, ⟨Lc3, hQ3, l3, y3, z3⟩, st3⟩ := Jvm.LawKit.callS X2 hx (y := (⟨"java/lang/StringLatin1", "canEncode", "(C)Z"⟩ : MethodName)) hown (mvT hZ (hw _ (List.mem_of_getElem? (i := 37) rfl))) (mvT hZ (hw _ (List.mem_of_getElem? (i := 38) rfl))) (mvT hZ (hw _ (List.mem_of_getElem? (i := 39) rfl))) (mvT hZ (hw _ (List.mem_of_getElem? (i := 40) rfl))) (by decide) (backOf (W := 0) (own_ce l Z a0 hw [] ch h0 n0 Zs4 l_ch u_ch) hZ (hw _ (List.mem_of_getElem? (i := 40) rfl)) (hw _ (List.mem_of_getElem? (i := 39) rfl)) (by decide) (by decide)) (g := (mkF m 7 #[.val (.int ch)] [(.int ch)])) rfl (by rw [hml]; rfl) (argsL := [(.int ch)]) (rest := []) (lenOf own_vo_pd0 rfl) rfl (by show 2 * 0 + _ ≤ _; exact Nat.le_of_eq rfl) (hb hby own_vo_d7) (fun _ _ => ⟨rfl, e2, (by decide : 0 + 0 ≤ _), (by decide : 0 + 0 ≤ _)⟩)
  dsimp only [Pt.U, Pt.locs, Pt.cells, Pt.slots] at X3 l3 y3 z3 st3 hQ3
  obtain rfl : k3 = 0 := y3
  obtain rfl : n3 = 0 := z3
  obtain ⟨rfl, N3q, R3⟩ := hQ3
  have N3 : Fr n0 L3 := l3 ▸ Fr.app N0 N3q
  refine ownStep (fun _ k => st3 _ k) ?_
  refine ownStep (fun _ k => XS.ifNo X3.here hx rfl (hb hby own_vo_d10) rfl ((if0 _ _).trans (feq (by decide : ¬ (1 : Int32) = (0 : Int32))).1) k) ?_
  show ownGo p.tables e below (T3.setTop (mkF m 13 #[.val (.int ch)] [])) _
  obtain ⟨T5, h5, X5, e5, E5, A5, D5, U5, st5⟩ := newO X3 hx hZ hown (hw _ (List.mem_of_getElem? (i := 41) rfl)) (hw _ (List.mem_of_getElem? (i := 5) rfl)) (hw _ (List.mem_of_getElem? (i := 6) rfl)) R3 (g := (mkF m 13 #[.val (.int ch)] [])) rfl (hb hby own_vo_d13) (by decide) (by decide)
  obtain ⟨b5, g5⟩ : ∃ z, z = h0.size := ⟨_, rfl⟩
  rw [← g5] at A5 D5 U5 st5
  have gh_b5 : h0.size ≤ b5 := Nat.le_trans KP0.1 (Nat.le_of_eq g5.symm)
  have gn_b5 : n0 ≤ b5 := Nat.le_trans Z0 gh_b5
  have KP6 : Keep h0 h5 [] := KP0.ext E5
  have F7 : Fld Z h5 b5 "java/lang/String" "coder" "B" (.int (0 : Int32)) := D5 (Or.inr (hw _ (List.mem_of_getElem? (i := 31) rfl))) (ty := .byte) (by decide)
  have F8 : Fld Z h5 b5 "java/lang/String" "value" "[B" .null := D5 (Or.inr (hw _ (List.mem_of_getElem? (i := 33) rfl))) (ty := (.array .byte)) (by decide)
  refine ownStep st5 ?_
  refine ownStep (fun _ k => XS.dup X5.here hx rfl (hb hby own_vo_d16) rfl rfl k) ?_
  refine ownStep (fun _ k => XS.iloadN X5.here hx rfl (hb hby own_vo_d17) rfl  k) ?_
  show ownGo p.tables e below (T5.setTop (mkF m 18 #[.val (.int ch)] [(.int ch), (.ref b5), (.ref b5)])) _
  have Zs10 : n0 ≤ h5.size := Nat.le_trans Z0 KP6.1
  obtain ⟨_, _, ⟨T9, L9, k9, n9⟩, -, X9, ⟨Lc9, hQ9, l9, y9, z9⟩, st9⟩ := Jvm.LawKit.callS X5 hx (y := (⟨"java/lang/StringLatin1", "toBytes", "(C)[B"⟩ : MethodName)) hown (mvT hZ (hw _ (List.mem_of_getElem? (i := 42) rfl))) (mvT hZ (hw _ (List.mem_of_getElem? (i := 43) rfl))) (mvT hZ (hw _ (List.mem_of_getElem? (i := 39) rfl))) (mvT hZ (hw _ (List.mem_of_getElem? (i := 44) rfl))) (by decide) (backOf (W := 2) (own_tb l Z a0 hw [] ch h5 n0 Zs10 ) hZ (hw _ (List.mem_of_getElem? (i := 44) rfl)) (hw _ (List.mem_of_getElem? (i := 39) rfl)) (by decide) (by decide)) (g := (mkF m 18 #[.val (.int ch)] [(.int ch), (.ref b5), (.ref b5)])) rfl (by rw [hml]; rfl) (argsL := [(.int ch)]) (rest := [(.ref b5), (.ref b5)]) (lenOf own_vo_pd1 rfl) rfl (by show 2 * 0 + _ ≤ _; exact Nat.le_of_eq rfl) (hb hby own_vo_d18) (fun _ _ => ⟨rfl, e5, (by decide : 1 + 1 ≤ _), (by decide : 4 + 1 ≤ _)⟩)
  dsimp only [Pt.U, Pt.locs, Pt.cells, Pt.slots] at X9 l9 y9 z9 st9 hQ9
  obtain rfl : k9 = 2 := y9
  obtain rfl : n9 = 5 := z9
  obtain ⟨bb_9, rfl, N9q, R9, P11⟩ := hQ9
  have N9 : Fr n0 L9 := l9 ▸ Fr.app N3 N9q
  have gh_bb_9 : h0.size ≤ bb_9 := Nat.le_trans KP6.1 P11
  have gn_bb_9 : n0 ≤ bb_9 := Nat.le_trans Z0 gh_bb_9
  refine ownStep (fun _ k => st9 _ k) ?_
  have KP12 : Keep h0 T9.heap [] := KP6.ext R9
  refine ownStep (fun _ k => XS.iconst X9.here hx rfl (hb hby own_vo_d21) k) ?_
  show ownGo p.tables e below (T9.setTop (mkF m 22 #[.val (.int ch)] [(.int (0 : Int32)), (.ref bb_9), (.ref b5), (.ref b5)])) _
  have Q13 : Exa Z T9.heap b5 "java/lang/String" := (A5.ext R9)
  have Q14 : Fld Z T9.heap b5 "java/lang/String" "value" "[B" .null := (F8.ext R9)
  have Q15 : Fld Z T9.heap b5 "java/lang/String" "coder" "B" (.int (0 : Int32)) := (F7.ext R9)
  have Zs17 : n0 ≤ T9.heap.size := Nat.le_trans Z0 KP12.1
  obtain ⟨_, _, ⟨T16, L16, k16, n16⟩, -, X16, ⟨Lc16, hQ16, l16, y16, z16⟩, st16⟩ := X9.specialBack hx (y := (⟨"java/lang/String", "<init>", "([BB)V"⟩ : MethodName)) rfl hown (mvT hZ (hw _ (List.mem_of_getElem? (i := 45) rfl))) (mvT hZ (hw _ (List.mem_of_getElem? (i := 46) rfl))) (mvT hZ (hw _ (List.mem_of_getElem? (i := 47) rfl))) (by decide) (backOf (W := 1) (own_si l Z a0 hw [] b5 bb_9 T9.heap n0 Zs17 Q13 Q14 Q15 gn_b5) hZ (hw _ (List.mem_of_getElem? (i := 47) rfl)) (hw _ (List.mem_of_getElem? (i := 6) rfl)) (by decide) (by decide)) (g := (mkF m 22 #[.val (.int ch)] [(.int (0 : Int32)), (.ref bb_9), (.ref b5), (.ref b5)])) rfl (by rw [hml]; rfl) (Steps.refl _) (a := b5) (argsL := [(.ref bb_9), (.int (0 : Int32))]) (rest := [(.ref b5)]) (lenOf own_vo_pd2 rfl) rfl (by show 2 * 0 + _ ≤ _; exact Nat.le_of_eq rfl) (hb hby own_vo_d22) (fun _ _ => ⟨rfl, rfl, (by decide : 2 + 0 ≤ _), (by decide : 5 + 0 ≤ _)⟩)
  dsimp only [Pt.U, Pt.locs, Pt.cells, Pt.slots] at X16 l16 y16 z16 st16 hQ16
  obtain rfl : k16 = 2 := y16
  obtain rfl : n16 = 5 := z16
  obtain ⟨rfl, N16q, R16⟩ := hQ16
  have N16 : Fr n0 L16 := l16 ▸ Fr.app N9 N16q
  refine ownStep (fun _ k => st16.trans k) ?_
  have KP18 : Keep h0 T16.heap [] := KP12.trans R16 (allS (Or.inr gh_b5) all0)
  show ownGo p.tables e below (T16.setTop (mkF m 25 #[.val (.int ch)] [(.ref b5)])) _
  have Q19 : Exa Z T16.heap b5 "java/lang/String" := (Q13.keep R16)
  exact ownRet X16 (v := some (.ref b5)) Bd.notSynchronized (fun h => by rw [Bd.returns] at h; cases h) (fun _ hr => retOut X16 hx (t := (.object "java/lang/String")) Bd.returns rfl (Or.inr (Or.inr (Or.inr (Or.inr ⟨rfl, rfl, rfl⟩)))) (hb hby own_vo_d25) hr) (⟨b5, rfl, N16, (own_extOf KP18), Q19⟩) (by decide) (by decide)
theorem own_mk1_d0 : decode method_3_code 0 = .ok (.iload_n 0, 1) := by decide +kernel
theorem own_mk1_d1 : decode method_3_code 1 = .ok (.iconst 1, 1) := by decide +kernel
theorem own_mk1_d2 : decode method_3_code 2 = .ok (.if_icmp .ne 18, 3) := by decide +kernel
theorem own_mk1_d5 : decode method_3_code 5 = .ok (.new 14, 3) := by decide +kernel
theorem own_mk1_d8 : decode method_3_code 8 = .ok (.dup, 1) := by decide +kernel
theorem own_mk1_d9 : decode method_3_code 9 = .ok (.iconst 1, 1) := by decide +kernel
theorem own_mk1_d10 : decode method_3_code 10 = .ok (.newarray .char, 2) := by decide +kernel
theorem own_mk1_d12 : decode method_3_code 12 = .ok (.dup, 1) := by decide +kernel
theorem own_mk1_d13 : decode method_3_code 13 = .ok (.iconst 0, 1) := by decide +kernel
theorem own_mk1_d14 : decode method_3_code 14 = .ok (.iload_n 1, 1) := by decide +kernel
theorem own_mk1_d15 : decode method_3_code 15 = .ok (.castore, 1) := by decide +kernel
theorem own_mk1_d16 : decode method_3_code 16 = .ok (.invokespecial 33, 3) := by decide +kernel
theorem own_mk1_d19 : decode method_3_code 19 = .ok (.areturn, 1) := by decide +kernel
theorem own_mk1_pn : plainName "com/example/circuline/circuline/circulation/BarcodesRequiredPinLaw" = true := by first | (simp [plainName, overriddenIn]; done) | decide +kernel
theorem own_mk1_pd0 : parseMethodDescriptor "([C)V" = some ⟨[(.array .char)], none⟩ := by decide +kernel
theorem own_mk1_ef (m : MethodId) (x0 : Int32) (x1 : Int32) (x2 : Int32) (x3 : Int32) (x4 : Int32) : entryFrame m #[(.int x0), (.int x1), (.int x2), (.int x3), (.int x4)] 5 = mkF m 0 #[.val (.int x0), .val (.int x1), .val (.int x2), .val (.int x3), .val (.int x4)] [] := by first | (simp [entryFrame, mkF, argsToLocals, Value.category]; done) | rfl
def own_mk1_Q (Z : State) (zc : Int32) (d0 : Int32) (d1 : Int32) (d2 : Int32) (d3 : Int32) (h0 : Heap) (n0 : Nat) (vv_ : Option Value) (hh_ : Heap) (LL_ : List Loc) : Prop := ∃ sb : Addr, ∃ tb : Addr, ∃ kb : ClassId, vv_ = some (.ref sb) ∧ Fr n0 LL_ ∧ Ext h0 hh_ ∧ (Exa Z hh_ sb "java/lang/String") ∧ (Fld Z hh_ sb "java/lang/String" "coder" "B" (.int (0 : Int32))) ∧ (Fld Z hh_ sb "java/lang/String" "value" "[B" (.ref tb)) ∧ (Arv Z hh_ tb kb .byte (1 : Int32) [(.int d0.toInt8.toInt32)] (.int (0 : Int32)))
set_option maxRecDepth 65536 in
set_option maxHeartbeats 40000000 in
theorem own_mk1 (l : Launch) (Z : State) (a0 : Array Value) (hw : ∀ d ∈ tables_1, d.before a0 Z = true) (ws : List Jvm.Cond) (zc : Int32) (d0 : Int32) (d1 : Int32) (d2 : Int32) (d3 : Int32) (h0 : Heap) (n0 : Nat) (Z0 : n0 ≤ h0.size) (hOld : Old Z n0 h0) (Scs : Sta Z Z.heap "java/lang/String" "COMPACT_STRINGS" "Z" (.int zc)) (hzc : ¬ zc = (0 : Int32)) (l_d0 : ¬ d0 < (0 : Int32)) (u_d0 : ¬ (255 : Int32) < d0) (l_d1 : ¬ d1 < (0 : Int32)) (u_d1 : ¬ (255 : Int32) < d1) (l_d2 : ¬ d2 < (0 : Int32)) (u_d2 : ¬ (255 : Int32) < d2) (l_d3 : ¬ d3 < (0 : Int32)) (u_d3 : ¬ (255 : Int32) < d3) :
    MetFree l (⟨"com/example/circuline/circuline/circulation/BarcodesRequiredPinLaw", "make", "(ICCCC)Ljava/lang/String;"⟩ : MethodName) (head1 (Jvm.Cond.code (⟨"com/example/circuline/circuline/circulation/BarcodesRequiredPinLaw", "make", "(ICCCC)Ljava/lang/String;"⟩ : MethodName) method_3_code 5 (some (.object "java/lang/String")) :: ws) ({ frames := 4, cells := 3, slots := 6, locals := 66 } : Room)) (fun aa_ UU_ => aa_ = #[(.int (1 : Int32)), (.int d0), (.int d1), (.int d2), (.int d3)] ∧ Z.Warmed39 UU_.vm ∧ UU_.heap = h0) (fun _ _ _ _ _ => True) (fun _ UU_ oo_ UV_ => ∃ vv_ LL_, oo_ = .returned vv_ ∧ own_mk1_Q Z zc d0 d1 d2 d3 h0 n0 vv_ UV_.heap LL_ ∧ FrameEnd UU_ oo_ UV_ LL_ ({ frames := 4, cells := 3, slots := 6, locals := 66 } : Room).cells ({ frames := 4, cells := 3, slots := 6, locals := 66 } : Room).slots) := by
  refine MetFree.of_bodySF (plainFor_of_name own_mk1_pn) hisR ?_
  intro p e s m args below meth c s₁ Bd hml0 hP hK
  obtain ⟨rfl, hZ, hh⟩ := hP
  have hx := Bd.exec
  have hby := Bd.bytes
  have hml : c.maxLocals = 5 := hml0
  have hown : s.vm.findClass "com/example/circuline/circuline/circulation/BarcodesRequiredPinLaw" = some m.cls := findClass_of_methodNamed Bd.named
  have hnm := (name_of_methodNamed Bd.named Bd.method).1
  have X0 : Stand p l e ({ frames := 4, cells := 3, slots := 6, locals := 66 } : Room) s m #[(.int (1 : Int32)), (.int d0), (.int d1), (.int d2), (.int d3)] below meth c s₁ [] 0 0 := Stand.of_body Bd
  have e0 : s₁.heap = h0 := by rw [← hh, Bd.state]; rfl
  have N0 := Fr.nil n0
  have KP0 : Keep h0 h0 [] := Keep.refl _ _
  refine ownFin (Q := own_mk1_Q Z zc d0 d1 d2 d3 h0 n0) ?_
  refine ownStep (fun _ k => castTop (own_mk1_ef m (1 : Int32) d0 d1 d2 d3) k) ?_
  show ownGo p.tables e below (s₁.setTop (mkF m 0 #[.val (.int (1 : Int32)), .val (.int d0), .val (.int d1), .val (.int d2), .val (.int d3)] [])) _
  refine ownStep (fun _ k => XS.iloadN X0.here hx rfl (hb hby own_mk1_d0) rfl  k) ?_
  refine ownStep (fun _ k => XS.iconst X0.here hx rfl (hb hby own_mk1_d1) k) ?_
  refine ownStep (fun _ k => XS.icmpNo X0.here hx rfl (hb hby own_mk1_d2) rfl (teq (by decide : (1 : Int32) = (1 : Int32))).2 k) ?_
  show ownGo p.tables e below (s₁.setTop (mkF m 5 #[.val (.int (1 : Int32)), .val (.int d0), .val (.int d1), .val (.int d2), .val (.int d3)] [])) _
  obtain ⟨T1, h1, X1, e1, E1, A1, D1, U1, st1⟩ := newO X0 hx hZ hown (hw _ (List.mem_of_getElem? (i := 4) rfl)) (hw _ (List.mem_of_getElem? (i := 5) rfl)) (hw _ (List.mem_of_getElem? (i := 6) rfl)) e0 (g := (mkF m 5 #[.val (.int (1 : Int32)), .val (.int d0), .val (.int d1), .val (.int d2), .val (.int d3)] [])) rfl (hb hby own_mk1_d5) (by decide) (by decide)
  obtain ⟨b1, g1⟩ : ∃ z, z = h0.size := ⟨_, rfl⟩
  rw [← g1] at A1 D1 U1 st1
  have gh_b1 : h0.size ≤ b1 := Nat.le_trans KP0.1 (Nat.le_of_eq g1.symm)
  have gn_b1 : n0 ≤ b1 := Nat.le_trans Z0 gh_b1
  have KP2 : Keep h0 h1 [] := KP0.ext E1
  have F3 : Fld Z h1 b1 "java/lang/String" "coder" "B" (.int (0 : Int32)) := D1 (Or.inr (hw _ (List.mem_of_getElem? (i := 31) rfl))) (ty := .byte) (by decide)
  have F4 : Fld Z h1 b1 "java/lang/String" "value" "[B" .null := D1 (Or.inr (hw _ (List.mem_of_getElem? (i := 33) rfl))) (ty := (.array .byte)) (by decide)
  refine ownStep st1 ?_
  refine ownStep (fun _ k => XS.dup X1.here hx rfl (hb hby own_mk1_d8) rfl rfl k) ?_
  refine ownStep (fun _ k => XS.iconst X1.here hx rfl (hb hby own_mk1_d9) k) ?_
  show ownGo p.tables e below (T1.setTop (mkF m 10 #[.val (.int (1 : Int32)), .val (.int d0), .val (.int d1), .val (.int d2), .val (.int d3)] [(.int (1 : Int32)), (.ref b1), (.ref b1)])) _
  obtain ⟨T5, h5, k5, X5, e5, E5, A5, st5⟩ := newP X1 hx hZ (hw _ (List.mem_of_getElem? (i := 7) rfl)) e1 (g := (mkF m 10 #[.val (.int (1 : Int32)), .val (.int d0), .val (.int d1), .val (.int d2), .val (.int d3)] [(.int (1 : Int32)), (.ref b1), (.ref b1)])) rfl (hb hby own_mk1_d10) rfl (by decide) (cap := 1) (by decide) (by decide) (by decide) (by decide)
  obtain ⟨b5, g5⟩ : ∃ z, z = h1.size := ⟨_, rfl⟩
  rw [← g5] at A5 st5
  have gh_b5 : h0.size ≤ b5 := Nat.le_trans KP2.1 (Nat.le_of_eq g5.symm)
  have gn_b5 : n0 ≤ b5 := Nat.le_trans Z0 gh_b5
  have KP6 : Keep h0 h5 [] := KP2.ext E5
  have V5 : Arv Z h5 b5 k5 .char (1 : Int32) [(.int (0 : Int32))] (.int (0 : Int32)) := (Arv.new A5 (by decide)).pad (pad_rep [] (.int (0 : Int32)) 1)
  refine ownStep st5 ?_
  refine ownStep (fun _ k => XS.dup X5.here hx rfl (hb hby own_mk1_d12) rfl rfl k) ?_
  refine ownStep (fun _ k => XS.iconst X5.here hx rfl (hb hby own_mk1_d13) k) ?_
  refine ownStep (fun _ k => XS.iloadN X5.here hx rfl (hb hby own_mk1_d14) rfl  k) ?_
  show ownGo p.tables e below (T5.setTop (mkF m 15 #[.val (.int (1 : Int32)), .val (.int d0), .val (.int d1), .val (.int d2), .val (.int d3)] [(.int d0), (.int (0 : Int32)), (.ref b5), (.ref b5), (.ref b1), (.ref b1)])) _
  have Vo7 := V5
  obtain ⟨cl7, Ar7, q7, S7, N7, H7, G7⟩ := Vo7
  have hin7 : ¬ ((0 : Int32) < 0 ∨ cl7.slots.size ≤ ((0 : Int32)).toNatClampNeg) := inb_of S7 ⟨by decide, by decide⟩
  obtain ⟨T8, h8, X8, e8, W8, st8⟩ := stC X5 hx hZ e5 Ar7 (j := (0 : Int32)) hin7 (g := (mkF m 15 #[.val (.int (1 : Int32)), .val (.int d0), .val (.int d1), .val (.int d2), .val (.int d3)] [(.int d0), (.int (0 : Int32)), (.ref b5), (.ref b5), (.ref b1), (.ref b1)])) rfl rfl (hb hby own_mk1_d15)
  have N9 := Fr.snoc X8 N0 gn_b5
  have KP10 : Keep h0 h8 [] := KP6.wr W8 (Or.inr gh_b5)
  have V11 : Arv Z h8 b5 k5 .char (1 : Int32) [(.int d0.toUInt32.toUInt16.toUInt32.toInt32)] (.int (0 : Int32)) := Arv.set Ar7 q7 S7 N7 H7 G7 (fits_nar_char _) W8 0 rfl (Nat.le_of_ble_eq_true rfl)
  refine ownStep st8 ?_
  show ownGo p.tables e below (T8.setTop (mkF m 16 #[.val (.int (1 : Int32)), .val (.int d0), .val (.int d1), .val (.int d2), .val (.int d3)] [(.ref b5), (.ref b1), (.ref b1)])) _
  have V12 : Arv Z h8 b5 k5 .char (1 : Int32) [(.int d0)] (.int (0 : Int32)) := by have q := V11; rw [own_nc l_d0 u_d0] at q; exact q
  have Q13 : Exa Z h8 b1 "java/lang/String" := ((A1.ext E5).wr W8)
  have ne14 : b1 ≠ b5 := Nat.ne_of_lt (Nat.lt_of_lt_of_le (Nat.lt_of_lt_of_le A1.lt (Nat.le_refl _)) (Nat.le_of_eq g5.symm))
  have Q15 : Fld Z h8 b1 "java/lang/String" "value" "[B" .null := ((F4.ext E5).other W8 (Or.inl ne14))
  have Q16 : Fld Z h8 b1 "java/lang/String" "coder" "B" (.int (0 : Int32)) := ((F3.ext E5).other W8 (Or.inl ne14))
  have Q17 : Old Z n0 h8 := (((hOld.ext E1).ext E5).wr W8 gn_b5)
  have Q18 : Sta Z h8 "java/lang/String" "COMPACT_STRINGS" "Z" (.int zc) := Scs.ext Q17.2
  have Zs19 : n0 ≤ h8.size := Nat.le_trans Z0 KP10.1
  obtain ⟨_, _, ⟨T20, L20, k20, n20⟩, -, X20, ⟨Lc20, hQ20, l20, y20, z20⟩, st20⟩ := X8.specialBack hx (y := (⟨"java/lang/String", "<init>", "([C)V"⟩ : MethodName)) rfl hown (mvT hZ (hw _ (List.mem_of_getElem? (i := 8) rfl))) (mvT hZ (hw _ (List.mem_of_getElem? (i := 9) rfl))) (mvT hZ (hw _ (List.mem_of_getElem? (i := 10) rfl))) (by decide) (StrChars.Road.backV (W := 1) hZ (fun d hd => hw d ((by decide +kernel : ∀ d ∈ StrChars.Road.words, d ∈ tables_1) d hd)) (kI := 4) (hw _ (List.mem_of_getElem? (i := 5) rfl)) (cs := ([d0] : List Int32)) (bs := ([d0] : List Int32).map (fun c => c.toInt8.toInt32)) (n := 1) gn_b1 Zs19 Q13 Q15 Q16 V12 Q18 hzc rfl rfl (by decide) (by decide) (own_ccons ⟨l_d0, u_d0⟩ own_cnil) rfl (by decide) (by decide)) (g := (mkF m 16 #[.val (.int (1 : Int32)), .val (.int d0), .val (.int d1), .val (.int d2), .val (.int d3)] [(.ref b5), (.ref b1), (.ref b1)])) rfl (by rw [hml]; rfl) (Steps.refl _) (a := b1) (argsL := [(.ref b5)]) (rest := [(.ref b1)]) (lenOf own_mk1_pd0 rfl) rfl (by show 2 * 0 + _ ≤ _; exact Nat.le_of_eq rfl) (hb hby own_mk1_d16) (fun _ _ => ⟨rfl, e8, (by decide : 2 + 1 ≤ _), (by decide : 5 + 1 ≤ _)⟩)
  dsimp only [Pt.U, Pt.locs, Pt.cells, Pt.slots] at X20 l20 y20 z20 st20 hQ20
  obtain rfl : k20 = 3 := y20
  obtain rfl : n20 = 6 := z20
  obtain ⟨rfl, N20q, R20, E20s, C20s, t20, kb20, gg20, gs20, gt20, V20s, A20s⟩ := hQ20
  have N20 : Fr n0 L20 := l20 ▸ Fr.app N9 N20q
  refine ownStep (fun _ k => st20.trans k) ?_
  have gh_t20 : h0.size ≤ t20 := Nat.le_trans KP10.1 gs20
  have gn_t20 : n0 ≤ t20 := gg20
  have KP21 : Keep h0 T20.heap [] := KP10.trans R20 (allS (Or.inr gh_b1) all0)
  have B20s : Arv Z T20.heap t20 kb20 .byte (1 : Int32) [(.int d0.toInt8.toInt32)] (.int (0 : Int32)) := A20s
  show ownGo p.tables e below (T20.setTop (mkF m 19 #[.val (.int (1 : Int32)), .val (.int d0), .val (.int d1), .val (.int d2), .val (.int d3)] [(.ref b1)])) _
  have Q22 : Exa Z T20.heap b1 "java/lang/String" := (Q13.keep R20)
  exact ownRet X20 (v := some (.ref b1)) Bd.notSynchronized (fun h => by rw [Bd.returns] at h; cases h) (fun _ hr => retOut X20 hx (t := (.object "java/lang/String")) Bd.returns rfl (Or.inr (Or.inr (Or.inr (Or.inr ⟨rfl, rfl, rfl⟩)))) (hb hby own_mk1_d19) hr) (⟨b1, t20, kb20, rfl, N20, (own_extOf KP21), Q22, C20s, V20s, B20s⟩) (by decide) (by decide)
theorem own_len1_d0 : decode jdk_42_method_54_code 0 = .ok (.aload_n 0, 1) := by decide +kernel
theorem own_len1_d1 : decode jdk_42_method_54_code 1 = .ok (.getfield 9, 3) := by decide +kernel
theorem own_len1_d4 : decode jdk_42_method_54_code 4 = .ok (.arraylength, 1) := by decide +kernel
theorem own_len1_d5 : decode jdk_42_method_54_code 5 = .ok (.aload_n 0, 1) := by decide +kernel
theorem own_len1_d6 : decode jdk_42_method_54_code 6 = .ok (.invokevirtual 335, 3) := by decide +kernel
theorem own_len1_d9 : decode jdk_42_method_54_code 9 = .ok (.ishr, 1) := by decide +kernel
theorem own_len1_d10 : decode jdk_42_method_54_code 10 = .ok (.ireturn, 1) := by decide +kernel
theorem own_len1_pn : plainName "java/lang/String" = true := by first | (simp [plainName, overriddenIn]; done) | decide +kernel
theorem own_len1_pd0 : parseMethodDescriptor "()B" = some ⟨[], some .byte⟩ := by decide +kernel
theorem own_len1_ef (m : MethodId) (x0 : Addr) : entryFrame m #[(.ref x0)] 1 = mkF m 0 #[.val (.ref x0)] [] := by first | (simp [entryFrame, mkF, argsToLocals, Value.category]; done) | rfl
def own_len1_Q (Z : State) (zc : Int32) (a : Addr) (tb : Addr) (kb : ClassId) (x0 : Int32) (h0 : Heap) (n0 : Nat) (vv_ : Option Value) (hh_ : Heap) (LL_ : List Loc) : Prop := vv_ = some (.int (1 : Int32)) ∧ Fr n0 LL_ ∧ hh_ = h0
set_option maxRecDepth 65536 in
set_option maxHeartbeats 40000000 in
theorem own_len1 (l : Launch) (Z : State) (a0 : Array Value) (hw : ∀ d ∈ tables_1, d.before a0 Z = true) (ws : List Jvm.Cond) (zc : Int32) (a : Addr) (tb : Addr) (kb : ClassId) (x0 : Int32) (h0 : Heap) (n0 : Nat) (Z0 : n0 ≤ h0.size) (hOld : Old Z n0 h0) (Scs : Sta Z Z.heap "java/lang/String" "COMPACT_STRINGS" "Z" (.int zc)) (hzc : ¬ zc = (0 : Int32)) (E : Exa Z h0 a "java/lang/String") (C : Fld Z h0 a "java/lang/String" "coder" "B" (.int (0 : Int32))) (Vl : Fld Z h0 a "java/lang/String" "value" "[B" (.ref tb)) (B : Arv Z h0 tb kb .byte (1 : Int32) [(.int x0.toInt8.toInt32)] (.int (0 : Int32))) :
    MetFree l (⟨"java/lang/String", "length", "()I"⟩ : MethodName) (head1 (Jvm.Cond.code (⟨"java/lang/String", "length", "()I"⟩ : MethodName) jdk_42_method_54_code 1 (some .int) :: ws) ({ frames := 1, cells := 0, slots := 0, locals := 13 } : Room)) (fun aa_ UU_ => aa_ = #[(.ref a)] ∧ Z.Warmed39 UU_.vm ∧ UU_.heap = h0) (fun _ _ _ _ _ => True) (fun _ UU_ oo_ UV_ => ∃ vv_ LL_, oo_ = .returned vv_ ∧ own_len1_Q Z zc a tb kb x0 h0 n0 vv_ UV_.heap LL_ ∧ FrameEnd UU_ oo_ UV_ LL_ ({ frames := 1, cells := 0, slots := 0, locals := 13 } : Room).cells ({ frames := 1, cells := 0, slots := 0, locals := 13 } : Room).slots) := by
  refine MetFree.of_bodySF (plainFor_of_name own_len1_pn) hisR ?_
  intro p e s m args below meth c s₁ Bd hml0 hP hK
  obtain ⟨rfl, hZ, hh⟩ := hP
  have hx := Bd.exec
  have hby := Bd.bytes
  have hml : c.maxLocals = 1 := hml0
  have hown : s.vm.findClass "java/lang/String" = some m.cls := findClass_of_methodNamed Bd.named
  have hnm := (name_of_methodNamed Bd.named Bd.method).1
  have X0 : Stand p l e ({ frames := 1, cells := 0, slots := 0, locals := 13 } : Room) s m #[(.ref a)] below meth c s₁ [] 0 0 := Stand.of_body Bd
  have e0 : s₁.heap = h0 := by rw [← hh, Bd.state]; rfl
  have N0 := Fr.nil n0
  have KP0 : Keep h0 h0 [] := Keep.refl _ _
  refine ownFin (Q := own_len1_Q Z zc a tb kb x0 h0 n0) ?_
  refine ownStep (fun _ k => castTop (own_len1_ef m a) k) ?_
  show ownGo p.tables e below (s₁.setTop (mkF m 0 #[.val (.ref a)] [])) _
  refine ownStep (fun _ k => XS.aloadN X0.here hx rfl (hb hby own_len1_d0) rfl rfl k) ?_
  show ownGo p.tables e below (s₁.setTop (mkF m 1 #[.val (.ref a)] [(.ref a)])) _
  obtain ⟨T1, X1, e1, st1⟩ := getF X0 hx hZ hown (host := "") (Or.inl (hw _ (List.mem_of_getElem? (i := 32) rfl))) Via.refl e0 Vl (g := (mkF m 1 #[.val (.ref a)] [(.ref a)])) rfl rfl (hb hby own_len1_d1)
  refine ownStep st1 ?_
  show ownGo p.tables e below (T1.setTop (mkF m 4 #[.val (.ref a)] [(.ref tb)])) _
  have Vo2 := B
  obtain ⟨cl2, Ar2, q2, S2, N2, H2, G2⟩ := Vo2
  refine ownStep (X1.arraylength hx (by rw [e1]; exact Ar2.1) (State.isArrayOf_alike hZ.alike Ar2.2.1) (g := (mkF m 4 #[.val (.ref a)] [(.ref tb)])) rfl rfl (hb hby own_len1_d4)) ?_
  rw [len_of S2 N2]
  refine ownStep (fun _ k => XS.aloadN X1.here hx rfl (hb hby own_len1_d5) rfl rfl k) ?_
  show ownGo p.tables e below (T1.setTop (mkF m 6 #[.val (.ref a)] [(.ref a), (.int (1 : Int32))])) _
  have Zs4 : n0 ≤ h0.size := Nat.le_trans Z0 KP0.1
  obtain ⟨cq3, kq3, q3a, q3b, q3c⟩ := isOf hZ e1 E
  obtain ⟨_, _, ⟨T3, L3, k3, n3⟩, -, X3, ⟨Lc3, hQ3, l3, y3, z3⟩, st3⟩ := X1.virtualBack hx (y := (⟨"java/lang/String", "coder", "()B"⟩ : MethodName)) (z := (⟨"java/lang/String", "coder", "()B"⟩ : MethodName)) hown (mvT hZ (hw _ (List.mem_of_getElem? (i := 91) rfl))) (mvT hZ (hw _ (List.mem_of_getElem? (i := 92) rfl))) (notFace_of_selects (args := #[]) (mvT hZ (hw _ (List.mem_of_getElem? (i := 94) rfl)))) (mvT hZ (hw _ (List.mem_of_getElem? (i := 94) rfl))) (mvT hZ (hw _ (List.mem_of_getElem? (i := 93) rfl))) (by decide) (backOf (W := 1) (own_cod l Z a0 hw [] zc a h0 n0 Zs4 hOld Scs hzc C) hZ (hw _ (List.mem_of_getElem? (i := 95) rfl)) (hw _ (List.mem_of_getElem? (i := 6) rfl)) (by decide) (by decide)) q3a q3c (g := (mkF m 6 #[.val (.ref a)] [(.ref a), (.int (1 : Int32))])) rfl (by rw [hml]; rfl) (Steps.refl _) (argsL := []) (rest := [(.int (1 : Int32))]) (lenOf own_len1_pd0 rfl) rfl (by show 2 * 0 + _ ≤ _; exact Nat.le_of_eq rfl) (hb hby own_len1_d6) (fun _ _ => ⟨rfl, e1, (by decide : 0 + 0 ≤ _), (by decide : 0 + 0 ≤ _)⟩)
  dsimp only [Pt.U, Pt.locs, Pt.cells, Pt.slots] at X3 l3 y3 z3 st3 hQ3
  obtain rfl : k3 = 0 := y3
  obtain rfl : n3 = 0 := z3
  obtain ⟨rfl, N3q, R3⟩ := hQ3
  have N3 : Fr n0 L3 := l3 ▸ Fr.app N0 N3q
  refine ownStep (fun _ k => st3.trans k) ?_
  refine ownStep (fun _ k => XS.ishr X3.here hx rfl (hb hby own_len1_d9) rfl k) ?_
  show ownGo p.tables e below (T3.setTop (mkF m 10 #[.val (.ref a)] [(.int (1 : Int32))])) _
  exact ownRet X3 (v := some (.int (1 : Int32))) Bd.notSynchronized (fun h => by rw [Bd.returns] at h; cases h) (fun _ hr => retI X3 hx Bd.returns (hb hby own_len1_d10) hr) (by rw [R3]; exact ⟨rfl, N3, rfl⟩) (by decide) (by decide)
theorem own_gc1_0_d0 : decode jdk_43_method_44_code 0 = .ok (.aload_n 0, 1) := by decide +kernel
theorem own_gc1_0_d1 : decode jdk_43_method_44_code 1 = .ok (.iload_n 1, 1) := by decide +kernel
theorem own_gc1_0_d2 : decode jdk_43_method_44_code 2 = .ok (.baload, 1) := by decide +kernel
theorem own_gc1_0_d3 : decode jdk_43_method_44_code 3 = .ok (.sipush 255, 3) := by decide +kernel
theorem own_gc1_0_d6 : decode jdk_43_method_44_code 6 = .ok (.iand, 1) := by decide +kernel
theorem own_gc1_0_d7 : decode jdk_43_method_44_code 7 = .ok (.i2c, 1) := by decide +kernel
theorem own_gc1_0_d8 : decode jdk_43_method_44_code 8 = .ok (.ireturn, 1) := by decide +kernel
theorem own_gc1_0_pn : plainName "java/lang/StringLatin1" = true := by first | (simp [plainName, overriddenIn]; done) | decide +kernel
theorem own_gc1_0_ef (m : MethodId) (x0 : Addr) (x1 : Int32) : entryFrame m #[(.ref x0), (.int x1)] 2 = mkF m 0 #[.val (.ref x0), .val (.int x1)] [] := by first | (simp [entryFrame, mkF, argsToLocals, Value.category]; done) | rfl
def own_gc1_0_Q (Z : State) (tb : Addr) (kb : ClassId) (x0 : Int32) (h0 : Heap) (n0 : Nat) (vv_ : Option Value) (hh_ : Heap) (LL_ : List Loc) : Prop := vv_ = some (.int x0) ∧ Fr n0 LL_ ∧ hh_ = h0
set_option maxRecDepth 65536 in
set_option maxHeartbeats 40000000 in
theorem own_gc1_0 (l : Launch) (Z : State) (a0 : Array Value) (hw : ∀ d ∈ tables_1, d.before a0 Z = true) (ws : List Jvm.Cond) (tb : Addr) (kb : ClassId) (x0 : Int32) (h0 : Heap) (n0 : Nat) (Z0 : n0 ≤ h0.size) (B : Arv Z h0 tb kb .byte (1 : Int32) [(.int x0.toInt8.toInt32)] (.int (0 : Int32))) (l_x0 : ¬ x0 < (0 : Int32)) (u_x0 : ¬ (255 : Int32) < x0) :
    MetFree l (⟨"java/lang/StringLatin1", "getChar", "([BI)C"⟩ : MethodName) (head1 (Jvm.Cond.code (⟨"java/lang/StringLatin1", "getChar", "([BI)C"⟩ : MethodName) jdk_43_method_44_code 2 (some .char) :: ws) ({ frames := 0, cells := 0, slots := 0, locals := 0 } : Room)) (fun aa_ UU_ => aa_ = #[(.ref tb), (.int (0 : Int32))] ∧ Z.Warmed39 UU_.vm ∧ UU_.heap = h0) (fun _ _ _ _ _ => True) (fun _ UU_ oo_ UV_ => ∃ vv_ LL_, oo_ = .returned vv_ ∧ own_gc1_0_Q Z tb kb x0 h0 n0 vv_ UV_.heap LL_ ∧ FrameEnd UU_ oo_ UV_ LL_ ({ frames := 0, cells := 0, slots := 0, locals := 0 } : Room).cells ({ frames := 0, cells := 0, slots := 0, locals := 0 } : Room).slots) := by
  refine MetFree.of_bodySF (plainFor_of_name own_gc1_0_pn) hisR ?_
  intro p e s m args below meth c s₁ Bd hml0 hP hK
  obtain ⟨rfl, hZ, hh⟩ := hP
  have hx := Bd.exec
  have hby := Bd.bytes
  have hml : c.maxLocals = 2 := hml0
  have hown : s.vm.findClass "java/lang/StringLatin1" = some m.cls := findClass_of_methodNamed Bd.named
  have hnm := (name_of_methodNamed Bd.named Bd.method).1
  have X0 : Stand p l e ({ frames := 0, cells := 0, slots := 0, locals := 0 } : Room) s m #[(.ref tb), (.int (0 : Int32))] below meth c s₁ [] 0 0 := Stand.of_body Bd
  have e0 : s₁.heap = h0 := by rw [← hh, Bd.state]; rfl
  have N0 := Fr.nil n0
  have KP0 : Keep h0 h0 [] := Keep.refl _ _
  refine ownFin (Q := own_gc1_0_Q Z tb kb x0 h0 n0) ?_
  refine ownStep (fun _ k => castTop (own_gc1_0_ef m tb (0 : Int32)) k) ?_
  show ownGo p.tables e below (s₁.setTop (mkF m 0 #[.val (.ref tb), .val (.int (0 : Int32))] [])) _
  refine ownStep (fun _ k => XS.aloadN X0.here hx rfl (hb hby own_gc1_0_d0) rfl rfl k) ?_
  refine ownStep (fun _ k => XS.iloadN X0.here hx rfl (hb hby own_gc1_0_d1) rfl  k) ?_
  show ownGo p.tables e below (s₁.setTop (mkF m 2 #[.val (.ref tb), .val (.int (0 : Int32))] [(.int (0 : Int32)), (.ref tb)])) _
  have Vo1 := B
  obtain ⟨cl1, Ar1, q1, S1, N1, H1, G1⟩ := Vo1
  have hin1 : ¬ ((0 : Int32) < 0 ∨ cl1.slots.size ≤ ((0 : Int32)).toNatClampNeg) := inb_of S1 ⟨by decide, by decide⟩
  refine ownStep (X0.baloadBytes hx (j := (0 : Int32)) (v := (.int x0.toInt8.toInt32)) (by rw [e0]; exact Ar1.1) (State.isArrayOf_alike hZ.alike Ar1.2.1) Ar1.2.2 hin1 (H1.at hin1 rfl) (g := (mkF m 2 #[.val (.ref tb), .val (.int (0 : Int32))] [(.int (0 : Int32)), (.ref tb)])) rfl rfl (hb hby own_gc1_0_d2)) ?_
  refine ownStep (fun _ k => XS.sipush X0.here hx rfl (hb hby own_gc1_0_d3) k) ?_
  refine ownStep (fun _ k => XS.iand X0.here hx rfl (hb hby own_gc1_0_d6) rfl k) ?_
  refine ownStep (fun _ k => XS.i2c X0.here hx rfl (hb hby own_gc1_0_d7) rfl k) ?_
  show ownGo p.tables e below (s₁.setTop (mkF m 8 #[.val (.ref tb), .val (.int (0 : Int32))] [(.int ((x0.toInt8.toInt32 &&& (255 : Int32)).toUInt32.toUInt16.toUInt32.toInt32))])) _
  exact ownRet X0 (v := some (.int (nar .char ((x0.toInt8.toInt32 &&& (255 : Int32)).toUInt32.toUInt16.toUInt32.toInt32)))) Bd.notSynchronized (fun h => by rw [Bd.returns] at h; cases h) (fun _ hr => retN X0 hx (t := .char) Bd.returns (by simp) (hb hby own_gc1_0_d8) hr) (by rw [e0]; exact ⟨(by rw [own_lat l_x0 u_x0]), N0, rfl⟩) (by decide) (by decide)
theorem own_inw1_d0 : decode jdk_43_method_37_code 0 = .ok (.aload_n 0, 1) := by decide +kernel
theorem own_inw1_d1 : decode jdk_43_method_37_code 1 = .ok (.arraylength, 1) := by decide +kernel
theorem own_inw1_d2 : decode jdk_43_method_37_code 2 = .ok (.istore_n 1, 1) := by decide +kernel
theorem own_inw1_d3 : decode jdk_43_method_37_code 3 = .ok (.iconst 0, 1) := by decide +kernel
theorem own_inw1_d4 : decode jdk_43_method_37_code 4 = .ok (.istore_n 2, 1) := by decide +kernel
theorem own_inw1_d5 : decode jdk_43_method_37_code 5 = .ok (.iload_n 2, 1) := by decide +kernel
theorem own_inw1_d6 : decode jdk_43_method_37_code 6 = .ok (.iload_n 1, 1) := by decide +kernel
theorem own_inw1_d7 : decode jdk_43_method_37_code 7 = .ok (.if_icmp .ge 40, 3) := by decide +kernel
theorem own_inw1_d10 : decode jdk_43_method_37_code 10 = .ok (.aload_n 0, 1) := by decide +kernel
theorem own_inw1_d11 : decode jdk_43_method_37_code 11 = .ok (.iload_n 2, 1) := by decide +kernel
theorem own_inw1_d12 : decode jdk_43_method_37_code 12 = .ok (.invokestatic 50, 3) := by decide +kernel
theorem own_inw1_d15 : decode jdk_43_method_37_code 15 = .ok (.istore_n 3, 1) := by decide +kernel
theorem own_inw1_d16 : decode jdk_43_method_37_code 16 = .ok (.iload_n 3, 1) := by decide +kernel
theorem own_inw1_d17 : decode jdk_43_method_37_code 17 = .ok (.bipush 32, 2) := by decide +kernel
theorem own_inw1_d19 : decode jdk_43_method_37_code 19 = .ok (.if_icmp .eq 22, 3) := by decide +kernel
theorem own_inw1_d22 : decode jdk_43_method_37_code 22 = .ok (.iload_n 3, 1) := by decide +kernel
theorem own_inw1_d23 : decode jdk_43_method_37_code 23 = .ok (.bipush 9, 2) := by decide +kernel
theorem own_inw1_d25 : decode jdk_43_method_37_code 25 = .ok (.if_icmp .eq 16, 3) := by decide +kernel
theorem own_inw1_d28 : decode jdk_43_method_37_code 28 = .ok (.getstatic 66, 3) := by decide +kernel
theorem own_inw1_d31 : decode jdk_43_method_37_code 31 = .ok (.iload_n 3, 1) := by decide +kernel
theorem own_inw1_d32 : decode jdk_43_method_37_code 32 = .ok (.invokevirtual 211, 3) := by decide +kernel
theorem own_inw1_d35 : decode jdk_43_method_37_code 35 = .ok (.ifCond .ne 6, 3) := by decide +kernel
theorem own_inw1_d38 : decode jdk_43_method_37_code 38 = .ok (.goto 9, 3) := by decide +kernel
theorem own_inw1_d41 : decode jdk_43_method_37_code 41 = .ok (.iinc 2 1, 3) := by decide +kernel
theorem own_inw1_d44 : decode jdk_43_method_37_code 44 = .ok (.goto (-39), 3) := by decide +kernel
theorem own_inw1_d47 : decode jdk_43_method_37_code 47 = .ok (.iload_n 2, 1) := by decide +kernel
theorem own_inw1_d48 : decode jdk_43_method_37_code 48 = .ok (.ireturn, 1) := by decide +kernel
theorem own_inw1_pn : plainName "java/lang/StringLatin1" = true := by first | (simp [plainName, overriddenIn]; done) | decide +kernel
theorem own_inw1_pd0 : parseMethodDescriptor "([BI)C" = some ⟨[(.array .byte), .int], some .char⟩ := by decide +kernel
theorem own_inw1_pd1 : parseMethodDescriptor "(I)Z" = some ⟨[.int], some .boolean⟩ := by decide +kernel
theorem own_inw1_ef (m : MethodId) (x0 : Addr) : entryFrame m #[(.ref x0)] 4 = mkF m 0 #[.val (.ref x0), .unset, .unset, .unset] [] := by first | (simp [entryFrame, mkF, argsToLocals, Value.category]; done) | rfl
def own_inw1_Q (Z : State) (zc : Int32) (ci : Addr) (ta : Addr) (clt : Cell) (tb : Addr) (kb : ClassId) (x0 : Int32) (h0 : Heap) (n0 : Nat) (vv_ : Option Value) (hh_ : Heap) (LL_ : List Loc) : Prop := ∃ r : Int32, vv_ = some (.int r) ∧ Fr n0 LL_ ∧ hh_ = h0 ∧ (¬ r = (1 : Int32))
set_option maxRecDepth 65536 in
set_option maxHeartbeats 40000000 in
theorem own_inw1 (l : Launch) (Z : State) (a0 : Array Value) (hw : ∀ d ∈ tables_1, d.before a0 Z = true) (ws : List Jvm.Cond) (zc : Int32) (ci : Addr) (ta : Addr) (clt : Cell) (tb : Addr) (kb : ClassId) (x0 : Int32) (h0 : Heap) (n0 : Nat) (Z0 : n0 ≤ h0.size) (hOld : Old Z n0 h0) (Scs : Sta Z Z.heap "java/lang/String" "COMPACT_STRINGS" "Z" (.int zc)) (hzc : ¬ zc = (0 : Int32)) (Sci : Sta Z Z.heap "java/lang/CharacterDataLatin1" "instance" "Ljava/lang/CharacterDataLatin1;" (.ref ci)) (Eci : Exa Z Z.heap ci "java/lang/CharacterDataLatin1") (Sca : Sta Z Z.heap "java/lang/CharacterDataLatin1" "A" "[I" (.ref ta)) (Tab : own_tab Z ta clt) (B : Arv Z h0 tb kb .byte (1 : Int32) [(.int x0.toInt8.toInt32)] (.int (0 : Int32))) (l_x0 : ¬ x0 < (0 : Int32)) (u_x0 : ¬ (255 : Int32) < x0) (kk : own_keep x0) :
    MetFree l (⟨"java/lang/StringLatin1", "indexOfNonWhitespace", "([B)I"⟩ : MethodName) (head1 (Jvm.Cond.code (⟨"java/lang/StringLatin1", "indexOfNonWhitespace", "([B)I"⟩ : MethodName) jdk_43_method_37_code 4 (some .int) :: ws) ({ frames := 2, cells := 0, slots := 0, locals := 29 } : Room)) (fun aa_ UU_ => aa_ = #[(.ref tb)] ∧ Z.Warmed39 UU_.vm ∧ UU_.heap = h0) (fun _ _ _ _ _ => True) (fun _ UU_ oo_ UV_ => ∃ vv_ LL_, oo_ = .returned vv_ ∧ own_inw1_Q Z zc ci ta clt tb kb x0 h0 n0 vv_ UV_.heap LL_ ∧ FrameEnd UU_ oo_ UV_ LL_ ({ frames := 2, cells := 0, slots := 0, locals := 29 } : Room).cells ({ frames := 2, cells := 0, slots := 0, locals := 29 } : Room).slots) := by
  refine MetFree.of_bodySF (plainFor_of_name own_inw1_pn) hisR ?_
  intro p e s m args below meth c s₁ Bd hml0 hP hK
  obtain ⟨rfl, hZ, hh⟩ := hP
  have hx := Bd.exec
  have hby := Bd.bytes
  have hml : c.maxLocals = 4 := hml0
  have hown : s.vm.findClass "java/lang/StringLatin1" = some m.cls := findClass_of_methodNamed Bd.named
  have hnm := (name_of_methodNamed Bd.named Bd.method).1
  have X0 : Stand p l e ({ frames := 2, cells := 0, slots := 0, locals := 29 } : Room) s m #[(.ref tb)] below meth c s₁ [] 0 0 := Stand.of_body Bd
  have e0 : s₁.heap = h0 := by rw [← hh, Bd.state]; rfl
  have N0 := Fr.nil n0
  have KP0 : Keep h0 h0 [] := Keep.refl _ _
  refine ownFin (Q := own_inw1_Q Z zc ci ta clt tb kb x0 h0 n0) ?_
  refine ownStep (fun _ k => castTop (own_inw1_ef m tb) k) ?_
  show ownGo p.tables e below (s₁.setTop (mkF m 0 #[.val (.ref tb), .unset, .unset, .unset] [])) _
  refine ownStep (fun _ k => XS.aloadN X0.here hx rfl (hb hby own_inw1_d0) rfl rfl k) ?_
  show ownGo p.tables e below (s₁.setTop (mkF m 1 #[.val (.ref tb), .unset, .unset, .unset] [(.ref tb)])) _
  have Vo1 := B
  obtain ⟨cl1, Ar1, q1, S1, N1, H1, G1⟩ := Vo1
  refine ownStep (X0.arraylength hx (by rw [e0]; exact Ar1.1) (State.isArrayOf_alike hZ.alike Ar1.2.1) (g := (mkF m 1 #[.val (.ref tb), .unset, .unset, .unset] [(.ref tb)])) rfl rfl (hb hby own_inw1_d1)) ?_
  rw [len_of S1 N1]
  refine ownStep (fun _ k => XS.istoreN X0.here hx rfl (hb hby own_inw1_d2) rfl (l' := #[.val (.ref tb), .val (.int (1 : Int32)), .unset, .unset]) rfl k) ?_
  refine ownStep (fun _ k => XS.iconst X0.here hx rfl (hb hby own_inw1_d3) k) ?_
  refine ownStep (fun _ k => XS.istoreN X0.here hx rfl (hb hby own_inw1_d4) rfl (l' := #[.val (.ref tb), .val (.int (1 : Int32)), .val (.int (0 : Int32)), .unset]) rfl k) ?_
  refine ownStep (fun _ k => XS.iloadN X0.here hx rfl (hb hby own_inw1_d5) rfl  k) ?_
  show ownGo p.tables e below (s₁.setTop (mkF m 6 #[.val (.ref tb), .val (.int (1 : Int32)), .val (.int (0 : Int32)), .unset] [(.int (0 : Int32))])) _
  refine ownStep (fun _ k => XS.iloadN X0.here hx rfl (hb hby own_inw1_d6) rfl  k) ?_
  refine ownStep (fun _ k => XS.icmpNo X0.here hx rfl (hb hby own_inw1_d7) rfl (tlt (by decide : (0 : Int32) < (1 : Int32))).2.1 k) ?_
  refine ownStep (fun _ k => XS.aloadN X0.here hx rfl (hb hby own_inw1_d10) rfl rfl k) ?_
  refine ownStep (fun _ k => XS.iloadN X0.here hx rfl (hb hby own_inw1_d11) rfl  k) ?_
  show ownGo p.tables e below (s₁.setTop (mkF m 12 #[.val (.ref tb), .val (.int (1 : Int32)), .val (.int (0 : Int32)), .unset] [(.int (0 : Int32)), (.ref tb)])) _
  have J0 : ∀ (Tj : State) (Lj : List Loc) (Xj : Stand p l e ({ frames := 2, cells := 0, slots := 0, locals := 29 } : Room) s m #[(.ref tb)] below meth c Tj Lj 0 0) (ej : Tj.heap = h0) (Nj : Fr n0 Lj) (hws0 : own_ws clt x0), ownGo p.tables e below (Tj.setTop (mkF m 41 #[.val (.ref tb), .val (.int (1 : Int32)), .val (.int (0 : Int32)), .val (.int x0)] [])) (ownEnd below s (own_inw1_Q Z zc ci ta clt tb kb x0 h0 n0) ({ frames := 2, cells := 0, slots := 0, locals := 29 } : Room).cells ({ frames := 2, cells := 0, slots := 0, locals := 29 } : Room).slots) := by
    intro Tj Lj Xj ej Nj hws0
    refine ownStep (fun _ k => XS.iinc Xj.here hx rfl (hb hby own_inw1_d41) rfl (l' := #[.val (.ref tb), .val (.int (1 : Int32)), .val (.int (1 : Int32)), .val (.int x0)]) rfl k) ?_
    refine ownStep (fun _ k => XS.goto Xj.here hx rfl (pc0 := 44) (pc' := 5) rfl (hb hby own_inw1_d44) (by decide) (by decide) k) ?_
    refine ownStep (fun _ k => XS.iloadN Xj.here hx rfl (hb hby own_inw1_d5) rfl  k) ?_
    refine ownStep (fun _ k => XS.iloadN Xj.here hx rfl (hb hby own_inw1_d6) rfl  k) ?_
    show ownGo p.tables e below (Tj.setTop (mkF m 7 #[.val (.ref tb), .val (.int (1 : Int32)), .val (.int (1 : Int32)), .val (.int x0)] [(.int (1 : Int32)), (.int (1 : Int32))])) _
    exact absurd kk (own_none1 Tab hws0)
  show ownGo p.tables e below (s₁.setTop (mkF m 12 #[.val (.ref tb), .val (.int (1 : Int32)), .val (.int (0 : Int32)), .unset] [(.int (0 : Int32)), (.ref tb)])) _
  have Zs3 : n0 ≤ h0.size := Nat.le_trans Z0 KP0.1
  obtain ⟨_, _, ⟨T2, L2, k2, n2⟩, -, X2, ⟨Lc2, hQ2, l2, y2, z2⟩, st2⟩ := Jvm.LawKit.callS X0 hx (y := (⟨"java/lang/StringLatin1", "getChar", "([BI)C"⟩ : MethodName)) hown (mvT hZ (hw _ (List.mem_of_getElem? (i := 70) rfl))) (mvT hZ (hw _ (List.mem_of_getElem? (i := 71) rfl))) (mvT hZ (hw _ (List.mem_of_getElem? (i := 39) rfl))) (mvT hZ (hw _ (List.mem_of_getElem? (i := 72) rfl))) (by decide) (backOf (W := 0) (own_gc1_0 l Z a0 hw [] tb kb x0 h0 n0 Zs3 B l_x0 u_x0) hZ (hw _ (List.mem_of_getElem? (i := 72) rfl)) (hw _ (List.mem_of_getElem? (i := 39) rfl)) (by decide) (by decide)) (g := (mkF m 12 #[.val (.ref tb), .val (.int (1 : Int32)), .val (.int (0 : Int32)), .unset] [(.int (0 : Int32)), (.ref tb)])) rfl (by rw [hml]; rfl) (argsL := [(.ref tb), (.int (0 : Int32))]) (rest := []) (lenOf own_inw1_pd0 rfl) rfl (by show 2 * 0 + _ ≤ _; exact Nat.le_of_eq rfl) (hb hby own_inw1_d12) (fun _ _ => ⟨rfl, e0, (by decide : 0 + 0 ≤ _), (by decide : 0 + 0 ≤ _)⟩)
  dsimp only [Pt.U, Pt.locs, Pt.cells, Pt.slots] at X2 l2 y2 z2 st2 hQ2
  obtain rfl : k2 = 0 := y2
  obtain rfl : n2 = 0 := z2
  obtain ⟨rfl, N2q, R2⟩ := hQ2
  have N2 : Fr n0 L2 := l2 ▸ Fr.app N0 N2q
  refine ownStep (fun _ k => st2 _ k) ?_
  refine ownStep (fun _ k => XS.istoreN X2.here hx rfl (hb hby own_inw1_d15) rfl (l' := #[.val (.ref tb), .val (.int (1 : Int32)), .val (.int (0 : Int32)), .val (.int x0)]) rfl k) ?_
  refine ownStep (fun _ k => XS.iloadN X2.here hx rfl (hb hby own_inw1_d16) rfl  k) ?_
  refine ownStep (fun _ k => XS.bipush X2.here hx rfl (hb hby own_inw1_d17) k) ?_
  show ownGo p.tables e below (T2.setTop (mkF m 19 #[.val (.ref tb), .val (.int (1 : Int32)), .val (.int (0 : Int32)), .val (.int x0)] [(.int (32 : Int32)), (.int x0)])) _
  by_cases hc19 : x0 = (32 : Int32)
  · skip
    refine ownStep (fun _ k => XS.icmpYes X2.here hx rfl (pc0 := 19) (pc' := 41) rfl (hb hby own_inw1_d19) rfl (teq (hc19 : x0 = (32 : Int32))).1 (by decide) (by decide) k) ?_
    show ownGo p.tables e below (T2.setTop (mkF m 41 #[.val (.ref tb), .val (.int (1 : Int32)), .val (.int (0 : Int32)), .val (.int x0)] [])) _
    exact J0 _ _ X2 R2 N2 (Or.inl hc19)
  · skip
    refine ownStep (fun _ k => XS.icmpNo X2.here hx rfl (hb hby own_inw1_d19) rfl (feq (hc19 : ¬ x0 = (32 : Int32))).1 k) ?_
    refine ownStep (fun _ k => XS.iloadN X2.here hx rfl (hb hby own_inw1_d22) rfl  k) ?_
    refine ownStep (fun _ k => XS.bipush X2.here hx rfl (hb hby own_inw1_d23) k) ?_
    show ownGo p.tables e below (T2.setTop (mkF m 25 #[.val (.ref tb), .val (.int (1 : Int32)), .val (.int (0 : Int32)), .val (.int x0)] [(.int (9 : Int32)), (.int x0)])) _
    by_cases hc25 : x0 = (9 : Int32)
    · skip
      refine ownStep (fun _ k => XS.icmpYes X2.here hx rfl (pc0 := 25) (pc' := 41) rfl (hb hby own_inw1_d25) rfl (teq (hc25 : x0 = (9 : Int32))).1 (by decide) (by decide) k) ?_
      show ownGo p.tables e below (T2.setTop (mkF m 41 #[.val (.ref tb), .val (.int (1 : Int32)), .val (.int (0 : Int32)), .val (.int x0)] [])) _
      exact J0 _ _ X2 R2 N2 (Or.inr (Or.inl hc25))
    · skip
      refine ownStep (fun _ k => XS.icmpNo X2.here hx rfl (hb hby own_inw1_d25) rfl (feq (hc25 : ¬ x0 = (9 : Int32))).1 k) ?_
      show ownGo p.tables e below (T2.setTop (mkF m 28 #[.val (.ref tb), .val (.int (1 : Int32)), .val (.int (0 : Int32)), .val (.int x0)] [])) _
      have Q4 : Sta Z h0 "java/lang/CharacterDataLatin1" "instance" "Ljava/lang/CharacterDataLatin1;" (.ref ci) := Sci.ext hOld.2
      obtain ⟨T5, X5, e5, st5⟩ := getS2 X2 hx hZ hown (host := "") (Or.inl (hw _ (List.mem_of_getElem? (i := 73) rfl))) Via.refl R2 Q4 (g := (mkF m 28 #[.val (.ref tb), .val (.int (1 : Int32)), .val (.int (0 : Int32)), .val (.int x0)] [])) rfl (hb hby own_inw1_d28)
      refine ownStep st5 ?_
      refine ownStep (fun _ k => XS.iloadN X5.here hx rfl (hb hby own_inw1_d31) rfl  k) ?_
      show ownGo p.tables e below (T5.setTop (mkF m 32 #[.val (.ref tb), .val (.int (1 : Int32)), .val (.int (0 : Int32)), .val (.int x0)] [(.int x0), (.ref ci)])) _
      have Q6 : Exa Z h0 ci "java/lang/CharacterDataLatin1" := Eci.ext hOld.2
      have Zs8 : n0 ≤ h0.size := Nat.le_trans Z0 KP0.1
      obtain ⟨cq7, kq7, q7a, q7b, q7c⟩ := isOf hZ e5 Q6
      obtain ⟨_, _, ⟨T7, L7, k7, n7⟩, -, X7, ⟨Lc7, hQ7, l7, y7, z7⟩, st7⟩ := X5.virtualBack hx (y := (⟨"java/lang/CharacterDataLatin1", "isWhitespace", "(I)Z"⟩ : MethodName)) (z := (⟨"java/lang/CharacterDataLatin1", "isWhitespace", "(I)Z"⟩ : MethodName)) hown (mvT hZ (hw _ (List.mem_of_getElem? (i := 75) rfl))) (mvT hZ (hw _ (List.mem_of_getElem? (i := 76) rfl))) (notFace_of_selects (args := #[]) (mvT hZ (hw _ (List.mem_of_getElem? (i := 78) rfl)))) (mvT hZ (hw _ (List.mem_of_getElem? (i := 78) rfl))) (mvT hZ (hw _ (List.mem_of_getElem? (i := 77) rfl))) (by decide) (backOf (W := 0) (own_iw l Z a0 hw [] ci ta clt ci x0 h0 n0 Zs8 hOld Q6 Sci Eci Sca Tab l_x0 u_x0) hZ (hw _ (List.mem_of_getElem? (i := 79) rfl)) (hw _ (List.mem_of_getElem? (i := 74) rfl)) (by decide) (by decide)) q7a q7c (g := (mkF m 32 #[.val (.ref tb), .val (.int (1 : Int32)), .val (.int (0 : Int32)), .val (.int x0)] [(.int x0), (.ref ci)])) rfl (by rw [hml]; rfl) (Steps.refl _) (argsL := [(.int x0)]) (rest := []) (lenOf own_inw1_pd1 rfl) rfl (by show 2 * 0 + _ ≤ _; exact Nat.le_of_eq rfl) (hb hby own_inw1_d32) (fun _ _ => ⟨rfl, e5, (by decide : 0 + 0 ≤ _), (by decide : 0 + 0 ≤ _)⟩)
      dsimp only [Pt.U, Pt.locs, Pt.cells, Pt.slots] at X7 l7 y7 z7 st7 hQ7
      obtain rfl : k7 = 0 := y7
      obtain rfl : n7 = 0 := z7
      obtain ⟨r_7, rfl, N7q, R7, P9⟩ := hQ7
      have N7 : Fr n0 L7 := l7 ▸ Fr.app N2 N7q
      refine ownStep (fun _ k => st7.trans k) ?_
      show ownGo p.tables e below (T7.setTop (mkF m 35 #[.val (.ref tb), .val (.int (1 : Int32)), .val (.int (0 : Int32)), .val (.int x0)] [(.int r_7)])) _
      by_cases hc35 : r_7 = (0 : Int32)
      · skip
        refine ownStep (fun _ k => XS.ifNo X7.here hx rfl (hb hby own_inw1_d35) rfl ((if0 _ _).trans (teq (hc35 : r_7 = (0 : Int32))).2) k) ?_
        refine ownStep (fun _ k => XS.goto X7.here hx rfl (pc0 := 38) (pc' := 47) rfl (hb hby own_inw1_d38) (by decide) (by decide) k) ?_
        refine ownStep (fun _ k => XS.iloadN X7.here hx rfl (hb hby own_inw1_d47) rfl  k) ?_
        show ownGo p.tables e below (T7.setTop (mkF m 48 #[.val (.ref tb), .val (.int (1 : Int32)), .val (.int (0 : Int32)), .val (.int x0)] [(.int (0 : Int32))])) _
        exact ownRet X7 (v := some (.int (0 : Int32))) Bd.notSynchronized (fun h => by rw [Bd.returns] at h; cases h) (fun _ hr => retI X7 hx Bd.returns (hb hby own_inw1_d48) hr) (by rw [R7]; exact ⟨(0 : Int32), rfl, N7, rfl, (by decide)⟩) (by decide) (by decide)
      · skip
        refine ownStep (fun _ k => XS.ifYes X7.here hx rfl (pc0 := 35) (pc' := 41) rfl (hb hby own_inw1_d35) rfl ((if0 _ _).trans (feq (hc35 : ¬ r_7 = (0 : Int32))).2) (by decide) (by decide) k) ?_
        show ownGo p.tables e below (T7.setTop (mkF m 41 #[.val (.ref tb), .val (.int (1 : Int32)), .val (.int (0 : Int32)), .val (.int x0)] [])) _
        exact J0 _ _ X7 R7 N7 (Or.inr (Or.inr (own_wsr P9 hc35)))
theorem own_sinw1_d0 : decode jdk_42_method_120_code 0 = .ok (.aload_n 0, 1) := by decide +kernel
theorem own_sinw1_d1 : decode jdk_42_method_120_code 1 = .ok (.invokevirtual 492, 3) := by decide +kernel
theorem own_sinw1_d4 : decode jdk_42_method_120_code 4 = .ok (.ifCond .eq 13, 3) := by decide +kernel
theorem own_sinw1_d7 : decode jdk_42_method_120_code 7 = .ok (.aload_n 0, 1) := by decide +kernel
theorem own_sinw1_d8 : decode jdk_42_method_120_code 8 = .ok (.getfield 9, 3) := by decide +kernel
theorem own_sinw1_d11 : decode jdk_42_method_120_code 11 = .ok (.invokestatic 924, 3) := by decide +kernel
theorem own_sinw1_d14 : decode jdk_42_method_120_code 14 = .ok (.goto 10, 3) := by decide +kernel
theorem own_sinw1_d24 : decode jdk_42_method_120_code 24 = .ok (.ireturn, 1) := by decide +kernel
theorem own_sinw1_pn : plainName "java/lang/String" = true := by first | (simp [plainName, overriddenIn]; done) | decide +kernel
theorem own_sinw1_pd0 : parseMethodDescriptor "()Z" = some ⟨[], some .boolean⟩ := by decide +kernel
theorem own_sinw1_pd1 : parseMethodDescriptor "([B)I" = some ⟨[(.array .byte)], some .int⟩ := by decide +kernel
theorem own_sinw1_ef (m : MethodId) (x0 : Addr) : entryFrame m #[(.ref x0)] 1 = mkF m 0 #[.val (.ref x0)] [] := by first | (simp [entryFrame, mkF, argsToLocals, Value.category]; done) | rfl
def own_sinw1_Q (Z : State) (zc : Int32) (ci : Addr) (ta : Addr) (clt : Cell) (a : Addr) (tb : Addr) (kb : ClassId) (x0 : Int32) (h0 : Heap) (n0 : Nat) (vv_ : Option Value) (hh_ : Heap) (LL_ : List Loc) : Prop := ∃ r : Int32, vv_ = some (.int r) ∧ Fr n0 LL_ ∧ hh_ = h0 ∧ (¬ r = (1 : Int32))
set_option maxRecDepth 65536 in
set_option maxHeartbeats 40000000 in
theorem own_sinw1 (l : Launch) (Z : State) (a0 : Array Value) (hw : ∀ d ∈ tables_1, d.before a0 Z = true) (ws : List Jvm.Cond) (zc : Int32) (ci : Addr) (ta : Addr) (clt : Cell) (a : Addr) (tb : Addr) (kb : ClassId) (x0 : Int32) (h0 : Heap) (n0 : Nat) (Z0 : n0 ≤ h0.size) (hOld : Old Z n0 h0) (Scs : Sta Z Z.heap "java/lang/String" "COMPACT_STRINGS" "Z" (.int zc)) (hzc : ¬ zc = (0 : Int32)) (Sci : Sta Z Z.heap "java/lang/CharacterDataLatin1" "instance" "Ljava/lang/CharacterDataLatin1;" (.ref ci)) (Eci : Exa Z Z.heap ci "java/lang/CharacterDataLatin1") (Sca : Sta Z Z.heap "java/lang/CharacterDataLatin1" "A" "[I" (.ref ta)) (Tab : own_tab Z ta clt) (E : Exa Z h0 a "java/lang/String") (C : Fld Z h0 a "java/lang/String" "coder" "B" (.int (0 : Int32))) (Vl : Fld Z h0 a "java/lang/String" "value" "[B" (.ref tb)) (B : Arv Z h0 tb kb .byte (1 : Int32) [(.int x0.toInt8.toInt32)] (.int (0 : Int32))) (l_x0 : ¬ x0 < (0 : Int32)) (u_x0 : ¬ (255 : Int32) < x0) (kk : own_keep x0) :
    MetFree l (⟨"java/lang/String", "indexOfNonWhitespace", "()I"⟩ : MethodName) (head1 (Jvm.Cond.code (⟨"java/lang/String", "indexOfNonWhitespace", "()I"⟩ : MethodName) jdk_42_method_120_code 1 (some .int) :: ws) ({ frames := 3, cells := 0, slots := 0, locals := 44 } : Room)) (fun aa_ UU_ => aa_ = #[(.ref a)] ∧ Z.Warmed39 UU_.vm ∧ UU_.heap = h0) (fun _ _ _ _ _ => True) (fun _ UU_ oo_ UV_ => ∃ vv_ LL_, oo_ = .returned vv_ ∧ own_sinw1_Q Z zc ci ta clt a tb kb x0 h0 n0 vv_ UV_.heap LL_ ∧ FrameEnd UU_ oo_ UV_ LL_ ({ frames := 3, cells := 0, slots := 0, locals := 44 } : Room).cells ({ frames := 3, cells := 0, slots := 0, locals := 44 } : Room).slots) := by
  refine MetFree.of_bodySF (plainFor_of_name own_sinw1_pn) hisR ?_
  intro p e s m args below meth c s₁ Bd hml0 hP hK
  obtain ⟨rfl, hZ, hh⟩ := hP
  have hx := Bd.exec
  have hby := Bd.bytes
  have hml : c.maxLocals = 1 := hml0
  have hown : s.vm.findClass "java/lang/String" = some m.cls := findClass_of_methodNamed Bd.named
  have hnm := (name_of_methodNamed Bd.named Bd.method).1
  have X0 : Stand p l e ({ frames := 3, cells := 0, slots := 0, locals := 44 } : Room) s m #[(.ref a)] below meth c s₁ [] 0 0 := Stand.of_body Bd
  have e0 : s₁.heap = h0 := by rw [← hh, Bd.state]; rfl
  have N0 := Fr.nil n0
  have KP0 : Keep h0 h0 [] := Keep.refl _ _
  refine ownFin (Q := own_sinw1_Q Z zc ci ta clt a tb kb x0 h0 n0) ?_
  refine ownStep (fun _ k => castTop (own_sinw1_ef m a) k) ?_
  show ownGo p.tables e below (s₁.setTop (mkF m 0 #[.val (.ref a)] [])) _
  refine ownStep (fun _ k => XS.aloadN X0.here hx rfl (hb hby own_sinw1_d0) rfl rfl k) ?_
  show ownGo p.tables e below (s₁.setTop (mkF m 1 #[.val (.ref a)] [(.ref a)])) _
  have Zs2 : n0 ≤ h0.size := Nat.le_trans Z0 KP0.1
  obtain ⟨cq1, kq1, q1a, q1b, q1c⟩ := isOf hZ e0 E
  obtain ⟨_, _, ⟨T1, L1, k1, n1⟩, -, X1, ⟨Lc1, hQ1, l1, y1, z1⟩, st1⟩ := X0.virtualBack hx (y := (⟨"java/lang/String", "isLatin1", "()Z"⟩ : MethodName)) (z := (⟨"java/lang/String", "isLatin1", "()Z"⟩ : MethodName)) hown (mvT hZ (hw _ (List.mem_of_getElem? (i := 62) rfl))) (mvT hZ (hw _ (List.mem_of_getElem? (i := 63) rfl))) (notFace_of_selects (args := #[]) (mvT hZ (hw _ (List.mem_of_getElem? (i := 65) rfl)))) (mvT hZ (hw _ (List.mem_of_getElem? (i := 65) rfl))) (mvT hZ (hw _ (List.mem_of_getElem? (i := 64) rfl))) (by decide) (backOf (W := 0) (own_isl l Z a0 hw [] zc a h0 n0 Zs2 hOld Scs hzc C) hZ (hw _ (List.mem_of_getElem? (i := 66) rfl)) (hw _ (List.mem_of_getElem? (i := 6) rfl)) (by decide) (by decide)) q1a q1c (g := (mkF m 1 #[.val (.ref a)] [(.ref a)])) rfl (by rw [hml]; rfl) (Steps.refl _) (argsL := []) (rest := []) (lenOf own_sinw1_pd0 rfl) rfl (by show 2 * 0 + _ ≤ _; exact Nat.le_of_eq rfl) (hb hby own_sinw1_d1) (fun _ _ => ⟨rfl, e0, (by decide : 0 + 0 ≤ _), (by decide : 0 + 0 ≤ _)⟩)
  dsimp only [Pt.U, Pt.locs, Pt.cells, Pt.slots] at X1 l1 y1 z1 st1 hQ1
  obtain rfl : k1 = 0 := y1
  obtain rfl : n1 = 0 := z1
  obtain ⟨rfl, N1q, R1⟩ := hQ1
  have N1 : Fr n0 L1 := l1 ▸ Fr.app N0 N1q
  refine ownStep (fun _ k => st1.trans k) ?_
  refine ownStep (fun _ k => XS.ifNo X1.here hx rfl (hb hby own_sinw1_d4) rfl ((if0 _ _).trans (feq (by decide : ¬ (1 : Int32) = (0 : Int32))).1) k) ?_
  refine ownStep (fun _ k => XS.aloadN X1.here hx rfl (hb hby own_sinw1_d7) rfl rfl k) ?_
  show ownGo p.tables e below (T1.setTop (mkF m 8 #[.val (.ref a)] [(.ref a)])) _
  obtain ⟨T3, X3, e3, st3⟩ := getF X1 hx hZ hown (host := "") (Or.inl (hw _ (List.mem_of_getElem? (i := 32) rfl))) Via.refl R1 Vl (g := (mkF m 8 #[.val (.ref a)] [(.ref a)])) rfl rfl (hb hby own_sinw1_d8)
  refine ownStep st3 ?_
  show ownGo p.tables e below (T3.setTop (mkF m 11 #[.val (.ref a)] [(.ref tb)])) _
  have Zs5 : n0 ≤ h0.size := Nat.le_trans Z0 KP0.1
  obtain ⟨_, _, ⟨T4, L4, k4, n4⟩, -, X4, ⟨Lc4, hQ4, l4, y4, z4⟩, st4⟩ := Jvm.LawKit.callS X3 hx (y := (⟨"java/lang/StringLatin1", "indexOfNonWhitespace", "([B)I"⟩ : MethodName)) hown (mvT hZ (hw _ (List.mem_of_getElem? (i := 67) rfl))) (mvT hZ (hw _ (List.mem_of_getElem? (i := 68) rfl))) (mvT hZ (hw _ (List.mem_of_getElem? (i := 39) rfl))) (mvT hZ (hw _ (List.mem_of_getElem? (i := 69) rfl))) (by decide) (backOf (W := 0) (own_inw1 l Z a0 hw [] zc ci ta clt tb kb x0 h0 n0 Zs5 hOld Scs hzc Sci Eci Sca Tab B l_x0 u_x0 kk) hZ (hw _ (List.mem_of_getElem? (i := 69) rfl)) (hw _ (List.mem_of_getElem? (i := 39) rfl)) (by decide) (by decide)) (g := (mkF m 11 #[.val (.ref a)] [(.ref tb)])) rfl (by rw [hml]; rfl) (argsL := [(.ref tb)]) (rest := []) (lenOf own_sinw1_pd1 rfl) rfl (by show 2 * 0 + _ ≤ _; exact Nat.le_of_eq rfl) (hb hby own_sinw1_d11) (fun _ _ => ⟨rfl, e3, (by decide : 0 + 0 ≤ _), (by decide : 0 + 0 ≤ _)⟩)
  dsimp only [Pt.U, Pt.locs, Pt.cells, Pt.slots] at X4 l4 y4 z4 st4 hQ4
  obtain rfl : k4 = 0 := y4
  obtain rfl : n4 = 0 := z4
  obtain ⟨r_4, rfl, N4q, R4, P6⟩ := hQ4
  have N4 : Fr n0 L4 := l4 ▸ Fr.app N1 N4q
  refine ownStep (fun _ k => st4 _ k) ?_
  refine ownStep (fun _ k => XS.goto X4.here hx rfl (pc0 := 14) (pc' := 24) rfl (hb hby own_sinw1_d14) (by decide) (by decide) k) ?_
  show ownGo p.tables e below (T4.setTop (mkF m 24 #[.val (.ref a)] [(.int r_4)])) _
  exact ownRet X4 (v := some (.int r_4)) Bd.notSynchronized (fun h => by rw [Bd.returns] at h; cases h) (fun _ hr => retI X4 hx Bd.returns (hb hby own_sinw1_d24) hr) (by rw [R4]; exact ⟨r_4, rfl, N4, rfl, P6⟩) (by decide) (by decide)
theorem own_blank1_d0 : decode jdk_42_method_117_code 0 = .ok (.aload_n 0, 1) := by decide +kernel
theorem own_blank1_d1 : decode jdk_42_method_117_code 1 = .ok (.invokevirtual 876, 3) := by decide +kernel
theorem own_blank1_d4 : decode jdk_42_method_117_code 4 = .ok (.aload_n 0, 1) := by decide +kernel
theorem own_blank1_d5 : decode jdk_42_method_117_code 5 = .ok (.invokevirtual 505, 3) := by decide +kernel
theorem own_blank1_d8 : decode jdk_42_method_117_code 8 = .ok (.if_icmp .ne 7, 3) := by decide +kernel
theorem own_blank1_d15 : decode jdk_42_method_117_code 15 = .ok (.iconst 0, 1) := by decide +kernel
theorem own_blank1_d16 : decode jdk_42_method_117_code 16 = .ok (.ireturn, 1) := by decide +kernel
theorem own_blank1_pn : plainName "java/lang/String" = true := by first | (simp [plainName, overriddenIn]; done) | decide +kernel
theorem own_blank1_pd0 : parseMethodDescriptor "()I" = some ⟨[], some .int⟩ := by decide +kernel
theorem own_blank1_ef (m : MethodId) (x0 : Addr) : entryFrame m #[(.ref x0)] 1 = mkF m 0 #[.val (.ref x0)] [] := by first | (simp [entryFrame, mkF, argsToLocals, Value.category]; done) | rfl
def own_blank1_Q (Z : State) (zc : Int32) (ci : Addr) (ta : Addr) (clt : Cell) (a : Addr) (tb : Addr) (kb : ClassId) (x0 : Int32) (h0 : Heap) (n0 : Nat) (vv_ : Option Value) (hh_ : Heap) (LL_ : List Loc) : Prop := vv_ = some (.int (0 : Int32)) ∧ Fr n0 LL_ ∧ hh_ = h0
set_option maxRecDepth 65536 in
set_option maxHeartbeats 40000000 in
theorem own_blank1 (l : Launch) (Z : State) (a0 : Array Value) (hw : ∀ d ∈ tables_1, d.before a0 Z = true) (ws : List Jvm.Cond) (zc : Int32) (ci : Addr) (ta : Addr) (clt : Cell) (a : Addr) (tb : Addr) (kb : ClassId) (x0 : Int32) (h0 : Heap) (n0 : Nat) (Z0 : n0 ≤ h0.size) (hOld : Old Z n0 h0) (Scs : Sta Z Z.heap "java/lang/String" "COMPACT_STRINGS" "Z" (.int zc)) (hzc : ¬ zc = (0 : Int32)) (Sci : Sta Z Z.heap "java/lang/CharacterDataLatin1" "instance" "Ljava/lang/CharacterDataLatin1;" (.ref ci)) (Eci : Exa Z Z.heap ci "java/lang/CharacterDataLatin1") (Sca : Sta Z Z.heap "java/lang/CharacterDataLatin1" "A" "[I" (.ref ta)) (Tab : own_tab Z ta clt) (E : Exa Z h0 a "java/lang/String") (C : Fld Z h0 a "java/lang/String" "coder" "B" (.int (0 : Int32))) (Vl : Fld Z h0 a "java/lang/String" "value" "[B" (.ref tb)) (B : Arv Z h0 tb kb .byte (1 : Int32) [(.int x0.toInt8.toInt32)] (.int (0 : Int32))) (l_x0 : ¬ x0 < (0 : Int32)) (u_x0 : ¬ (255 : Int32) < x0) (kk : own_keep x0) :
    MetFree l (⟨"java/lang/String", "isBlank", "()Z"⟩ : MethodName) (head1 (Jvm.Cond.code (⟨"java/lang/String", "isBlank", "()Z"⟩ : MethodName) jdk_42_method_117_code 1 (some .boolean) :: ws) ({ frames := 4, cells := 0, slots := 0, locals := 56 } : Room)) (fun aa_ UU_ => aa_ = #[(.ref a)] ∧ Z.Warmed39 UU_.vm ∧ UU_.heap = h0) (fun _ _ _ _ _ => True) (fun _ UU_ oo_ UV_ => ∃ vv_ LL_, oo_ = .returned vv_ ∧ own_blank1_Q Z zc ci ta clt a tb kb x0 h0 n0 vv_ UV_.heap LL_ ∧ FrameEnd UU_ oo_ UV_ LL_ ({ frames := 4, cells := 0, slots := 0, locals := 56 } : Room).cells ({ frames := 4, cells := 0, slots := 0, locals := 56 } : Room).slots) := by
  refine MetFree.of_bodySF (plainFor_of_name own_blank1_pn) hisR ?_
  intro p e s m args below meth c s₁ Bd hml0 hP hK
  obtain ⟨rfl, hZ, hh⟩ := hP
  have hx := Bd.exec
  have hby := Bd.bytes
  have hml : c.maxLocals = 1 := hml0
  have hown : s.vm.findClass "java/lang/String" = some m.cls := findClass_of_methodNamed Bd.named
  have hnm := (name_of_methodNamed Bd.named Bd.method).1
  have X0 : Stand p l e ({ frames := 4, cells := 0, slots := 0, locals := 56 } : Room) s m #[(.ref a)] below meth c s₁ [] 0 0 := Stand.of_body Bd
  have e0 : s₁.heap = h0 := by rw [← hh, Bd.state]; rfl
  have N0 := Fr.nil n0
  have KP0 : Keep h0 h0 [] := Keep.refl _ _
  refine ownFin (Q := own_blank1_Q Z zc ci ta clt a tb kb x0 h0 n0) ?_
  refine ownStep (fun _ k => castTop (own_blank1_ef m a) k) ?_
  show ownGo p.tables e below (s₁.setTop (mkF m 0 #[.val (.ref a)] [])) _
  refine ownStep (fun _ k => XS.aloadN X0.here hx rfl (hb hby own_blank1_d0) rfl rfl k) ?_
  show ownGo p.tables e below (s₁.setTop (mkF m 1 #[.val (.ref a)] [(.ref a)])) _
  have Zs2 : n0 ≤ h0.size := Nat.le_trans Z0 KP0.1
  obtain ⟨cq1, q1, q1'⟩ := E.cell
  obtain ⟨_, _, ⟨T1, L1, k1, n1⟩, -, X1, ⟨Lc1, hQ1, l1, y1, z1⟩, st1⟩ := X0.privateBack hx (y := (⟨"java/lang/String", "indexOfNonWhitespace", "()I"⟩ : MethodName)) hown (mvT hZ (hw _ (List.mem_of_getElem? (i := 57) rfl))) (mvT hZ (hw _ (List.mem_of_getElem? (i := 58) rfl))) (mvT hZ (hw _ (List.mem_of_getElem? (i := 60) rfl))) (Cond.privateMethod_at (mvP hZ (hw _ (List.mem_of_getElem? (i := 59) rfl)) (args := #[]))) (mvT hZ (hw _ (List.mem_of_getElem? (i := 61) rfl))) (by decide) (backOf (W := 0) (own_sinw1 l Z a0 hw [] zc ci ta clt a tb kb x0 h0 n0 Zs2 hOld Scs hzc Sci Eci Sca Tab E C Vl B l_x0 u_x0 kk) hZ (hw _ (List.mem_of_getElem? (i := 61) rfl)) (hw _ (List.mem_of_getElem? (i := 6) rfl)) (by decide) (by decide)) (g := (mkF m 1 #[.val (.ref a)] [(.ref a)])) rfl (by rw [hml]; rfl) (Steps.refl _) (a := a) (by rw [e0]; exact q1) q1' (argsL := []) (rest := []) (lenOf own_blank1_pd0 rfl) rfl (by show 2 * 0 + _ ≤ _; exact Nat.le_of_eq rfl) (hb hby own_blank1_d1) (fun _ _ => ⟨rfl, e0, (by decide : 0 + 0 ≤ _), (by decide : 0 + 0 ≤ _)⟩)
  dsimp only [Pt.U, Pt.locs, Pt.cells, Pt.slots] at X1 l1 y1 z1 st1 hQ1
  obtain rfl : k1 = 0 := y1
  obtain rfl : n1 = 0 := z1
  obtain ⟨r_1, rfl, N1q, R1, P3⟩ := hQ1
  have N1 : Fr n0 L1 := l1 ▸ Fr.app N0 N1q
  refine ownStep (fun _ k => st1.trans k) ?_
  refine ownStep (fun _ k => XS.aloadN X1.here hx rfl (hb hby own_blank1_d4) rfl rfl k) ?_
  show ownGo p.tables e below (T1.setTop (mkF m 5 #[.val (.ref a)] [(.ref a), (.int r_1)])) _
  have Zs5 : n0 ≤ h0.size := Nat.le_trans Z0 KP0.1
  obtain ⟨cq4, kq4, q4a, q4b, q4c⟩ := isOf hZ R1 E
  obtain ⟨_, _, ⟨T4, L4, k4, n4⟩, -, X4, ⟨Lc4, hQ4, l4, y4, z4⟩, st4⟩ := X1.virtualBack hx (y := (⟨"java/lang/String", "length", "()I"⟩ : MethodName)) (z := (⟨"java/lang/String", "length", "()I"⟩ : MethodName)) hown (mvT hZ (hw _ (List.mem_of_getElem? (i := 86) rfl))) (mvT hZ (hw _ (List.mem_of_getElem? (i := 87) rfl))) (notFace_of_selects (args := #[]) (mvT hZ (hw _ (List.mem_of_getElem? (i := 89) rfl)))) (mvT hZ (hw _ (List.mem_of_getElem? (i := 89) rfl))) (mvT hZ (hw _ (List.mem_of_getElem? (i := 88) rfl))) (by decide) (backOf (W := 1) (own_len1 l Z a0 hw [] zc a tb kb x0 h0 n0 Zs5 hOld Scs hzc E C Vl B) hZ (hw _ (List.mem_of_getElem? (i := 90) rfl)) (hw _ (List.mem_of_getElem? (i := 6) rfl)) (by decide) (by decide)) q4a q4c (g := (mkF m 5 #[.val (.ref a)] [(.ref a), (.int r_1)])) rfl (by rw [hml]; rfl) (Steps.refl _) (argsL := []) (rest := [(.int r_1)]) (lenOf own_blank1_pd0 rfl) rfl (by show 2 * 0 + _ ≤ _; exact Nat.le_of_eq rfl) (hb hby own_blank1_d5) (fun _ _ => ⟨rfl, R1, (by decide : 0 + 0 ≤ _), (by decide : 0 + 0 ≤ _)⟩)
  dsimp only [Pt.U, Pt.locs, Pt.cells, Pt.slots] at X4 l4 y4 z4 st4 hQ4
  obtain rfl : k4 = 0 := y4
  obtain rfl : n4 = 0 := z4
  obtain ⟨rfl, N4q, R4⟩ := hQ4
  have N4 : Fr n0 L4 := l4 ▸ Fr.app N1 N4q
  refine ownStep (fun _ k => st4.trans k) ?_
  refine ownStep (fun _ k => XS.icmpYes X4.here hx rfl (pc0 := 8) (pc' := 15) rfl (hb hby own_blank1_d8) rfl (feq (P3 : ¬ r_1 = (1 : Int32))).2 (by decide) (by decide) k) ?_
  refine ownStep (fun _ k => XS.iconst X4.here hx rfl (hb hby own_blank1_d15) k) ?_
  show ownGo p.tables e below (T4.setTop (mkF m 16 #[.val (.ref a)] [(.int (0 : Int32))])) _
  exact ownRet X4 (v := some (.int (0 : Int32))) Bd.notSynchronized (fun h => by rw [Bd.returns] at h; cases h) (fun _ hr => retN X4 hx (t := .boolean) Bd.returns (by simp) (hb hby own_blank1_d16) hr) (by rw [R4]; exact ⟨rfl, N4, rfl⟩) (by decide) (by decide)
theorem own_req1_d0 : decode prog_3_method_2_code 0 = .ok (.aload_n 0, 1) := by decide +kernel
theorem own_req1_d1 : decode prog_3_method_2_code 1 = .ok (.ifnull 10, 3) := by decide +kernel
theorem own_req1_d4 : decode prog_3_method_2_code 4 = .ok (.aload_n 0, 1) := by decide +kernel
theorem own_req1_d5 : decode prog_3_method_2_code 5 = .ok (.invokevirtual 7, 3) := by decide +kernel
theorem own_req1_d8 : decode prog_3_method_2_code 8 = .ok (.ifCond .eq 23, 3) := by decide +kernel
theorem own_req1_d31 : decode prog_3_method_2_code 31 = .ok (.aload_n 0, 1) := by decide +kernel
theorem own_req1_d32 : decode prog_3_method_2_code 32 = .ok (.areturn, 1) := by decide +kernel
theorem own_req1_pn : plainName "com/example/circuline/circuline/circulation/Barcodes" = true := by first | (simp [plainName, overriddenIn]; done) | decide +kernel
theorem own_req1_pd0 : parseMethodDescriptor "()Z" = some ⟨[], some .boolean⟩ := by decide +kernel
theorem own_req1_ef (m : MethodId) (x0 : Addr) (x1 : Addr) (x2 : Addr) : entryFrame m #[(.ref x0), (.ref x1), (.ref x2)] 3 = mkF m 0 #[.val (.ref x0), .val (.ref x1), .val (.ref x2)] [] := by first | (simp [entryFrame, mkF, argsToLocals, Value.category]; done) | rfl
def own_req1_Q (Z : State) (zc : Int32) (ci : Addr) (ta : Addr) (clt : Cell) (a : Addr) (tb : Addr) (kb : ClassId) (x0 : Int32) (fa : Addr) (fb : Addr) (h0 : Heap) (n0 : Nat) (vv_ : Option Value) (hh_ : Heap) (LL_ : List Loc) : Prop := vv_ = some (.ref a) ∧ Fr n0 LL_ ∧ hh_ = h0
set_option maxRecDepth 65536 in
set_option maxHeartbeats 40000000 in
theorem own_req1 (l : Launch) (Z : State) (a0 : Array Value) (hw : ∀ d ∈ tables_1, d.before a0 Z = true) (ws : List Jvm.Cond) (zc : Int32) (ci : Addr) (ta : Addr) (clt : Cell) (a : Addr) (tb : Addr) (kb : ClassId) (x0 : Int32) (fa : Addr) (fb : Addr) (h0 : Heap) (n0 : Nat) (Z0 : n0 ≤ h0.size) (hOld : Old Z n0 h0) (Scs : Sta Z Z.heap "java/lang/String" "COMPACT_STRINGS" "Z" (.int zc)) (hzc : ¬ zc = (0 : Int32)) (Sci : Sta Z Z.heap "java/lang/CharacterDataLatin1" "instance" "Ljava/lang/CharacterDataLatin1;" (.ref ci)) (Eci : Exa Z Z.heap ci "java/lang/CharacterDataLatin1") (Sca : Sta Z Z.heap "java/lang/CharacterDataLatin1" "A" "[I" (.ref ta)) (Tab : own_tab Z ta clt) (E : Exa Z h0 a "java/lang/String") (C : Fld Z h0 a "java/lang/String" "coder" "B" (.int (0 : Int32))) (Vl : Fld Z h0 a "java/lang/String" "value" "[B" (.ref tb)) (B : Arv Z h0 tb kb .byte (1 : Int32) [(.int x0.toInt8.toInt32)] (.int (0 : Int32))) (l_x0 : ¬ x0 < (0 : Int32)) (u_x0 : ¬ (255 : Int32) < x0) (kk : own_keep x0) :
    MetFree l (⟨"com/example/circuline/circuline/circulation/Barcodes", "required", "(Ljava/lang/String;Ljava/lang/String;Ljava/lang/String;)Ljava/lang/String;"⟩ : MethodName) (head1 (Jvm.Cond.code (⟨"com/example/circuline/circuline/circulation/Barcodes", "required", "(Ljava/lang/String;Ljava/lang/String;Ljava/lang/String;)Ljava/lang/String;"⟩ : MethodName) prog_3_method_2_code 3 (some (.object "java/lang/String")) :: ws) ({ frames := 5, cells := 0, slots := 0, locals := 68 } : Room)) (fun aa_ UU_ => aa_ = #[(.ref a), (.ref fa), (.ref fb)] ∧ Z.Warmed39 UU_.vm ∧ UU_.heap = h0) (fun _ _ _ _ _ => True) (fun _ UU_ oo_ UV_ => ∃ vv_ LL_, oo_ = .returned vv_ ∧ own_req1_Q Z zc ci ta clt a tb kb x0 fa fb h0 n0 vv_ UV_.heap LL_ ∧ FrameEnd UU_ oo_ UV_ LL_ ({ frames := 5, cells := 0, slots := 0, locals := 68 } : Room).cells ({ frames := 5, cells := 0, slots := 0, locals := 68 } : Room).slots) := by
  refine MetFree.of_bodySF (plainFor_of_name own_req1_pn) hisR ?_
  intro p e s m args below meth c s₁ Bd hml0 hP hK
  obtain ⟨rfl, hZ, hh⟩ := hP
  have hx := Bd.exec
  have hby := Bd.bytes
  have hml : c.maxLocals = 3 := hml0
  have hown : s.vm.findClass "com/example/circuline/circuline/circulation/Barcodes" = some m.cls := findClass_of_methodNamed Bd.named
  have hnm := (name_of_methodNamed Bd.named Bd.method).1
  have X0 : Stand p l e ({ frames := 5, cells := 0, slots := 0, locals := 68 } : Room) s m #[(.ref a), (.ref fa), (.ref fb)] below meth c s₁ [] 0 0 := Stand.of_body Bd
  have e0 : s₁.heap = h0 := by rw [← hh, Bd.state]; rfl
  have N0 := Fr.nil n0
  have KP0 : Keep h0 h0 [] := Keep.refl _ _
  refine ownFin (Q := own_req1_Q Z zc ci ta clt a tb kb x0 fa fb h0 n0) ?_
  refine ownStep (fun _ k => castTop (own_req1_ef m a fa fb) k) ?_
  show ownGo p.tables e below (s₁.setTop (mkF m 0 #[.val (.ref a), .val (.ref fa), .val (.ref fb)] [])) _
  refine ownStep (fun _ k => XS.aloadN X0.here hx rfl (hb hby own_req1_d0) rfl rfl k) ?_
  refine ownStep (fun _ k => XS.ifnullNo X0.here hx rfl (hb hby own_req1_d1) rfl k) ?_
  refine ownStep (fun _ k => XS.aloadN X0.here hx rfl (hb hby own_req1_d4) rfl rfl k) ?_
  show ownGo p.tables e below (s₁.setTop (mkF m 5 #[.val (.ref a), .val (.ref fa), .val (.ref fb)] [(.ref a)])) _
  have Zs2 : n0 ≤ h0.size := Nat.le_trans Z0 KP0.1
  obtain ⟨cq1, kq1, q1a, q1b, q1c⟩ := isOf hZ e0 E
  obtain ⟨_, _, ⟨T1, L1, k1, n1⟩, -, X1, ⟨Lc1, hQ1, l1, y1, z1⟩, st1⟩ := X0.virtualBack hx (y := (⟨"java/lang/String", "isBlank", "()Z"⟩ : MethodName)) (z := (⟨"java/lang/String", "isBlank", "()Z"⟩ : MethodName)) hown (mvT hZ (hw _ (List.mem_of_getElem? (i := 52) rfl))) (mvT hZ (hw _ (List.mem_of_getElem? (i := 53) rfl))) (notFace_of_selects (args := #[]) (mvT hZ (hw _ (List.mem_of_getElem? (i := 55) rfl)))) (mvT hZ (hw _ (List.mem_of_getElem? (i := 55) rfl))) (mvT hZ (hw _ (List.mem_of_getElem? (i := 54) rfl))) (by decide) (backOf (W := 0) (own_blank1 l Z a0 hw [] zc ci ta clt a tb kb x0 h0 n0 Zs2 hOld Scs hzc Sci Eci Sca Tab E C Vl B l_x0 u_x0 kk) hZ (hw _ (List.mem_of_getElem? (i := 56) rfl)) (hw _ (List.mem_of_getElem? (i := 6) rfl)) (by decide) (by decide)) q1a q1c (g := (mkF m 5 #[.val (.ref a), .val (.ref fa), .val (.ref fb)] [(.ref a)])) rfl (by rw [hml]; rfl) (Steps.refl _) (argsL := []) (rest := []) (lenOf own_req1_pd0 rfl) rfl (by show 2 * 0 + _ ≤ _; exact Nat.le_of_eq rfl) (hb hby own_req1_d5) (fun _ _ => ⟨rfl, e0, (by decide : 0 + 0 ≤ _), (by decide : 0 + 0 ≤ _)⟩)
  dsimp only [Pt.U, Pt.locs, Pt.cells, Pt.slots] at X1 l1 y1 z1 st1 hQ1
  obtain rfl : k1 = 0 := y1
  obtain rfl : n1 = 0 := z1
  obtain ⟨rfl, N1q, R1⟩ := hQ1
  have N1 : Fr n0 L1 := l1 ▸ Fr.app N0 N1q
  refine ownStep (fun _ k => st1.trans k) ?_
  refine ownStep (fun _ k => XS.ifYes X1.here hx rfl (pc0 := 8) (pc' := 31) rfl (hb hby own_req1_d8) rfl ((if0 _ _).trans (teq (by decide : (0 : Int32) = (0 : Int32))).1) (by decide) (by decide) k) ?_
  refine ownStep (fun _ k => XS.aloadN X1.here hx rfl (hb hby own_req1_d31) rfl rfl k) ?_
  show ownGo p.tables e below (T1.setTop (mkF m 32 #[.val (.ref a), .val (.ref fa), .val (.ref fb)] [(.ref a)])) _
  exact ownRet X1 (v := some (.ref a)) Bd.notSynchronized (fun h => by rw [Bd.returns] at h; cases h) (fun _ hr => retOut X1 hx (t := (.object "java/lang/String")) Bd.returns rfl (Or.inr (Or.inr (Or.inr (Or.inr ⟨rfl, rfl, rfl⟩)))) (hb hby own_req1_d32) hr) (by rw [R1]; exact ⟨rfl, N1, rfl⟩) (by decide) (by decide)
theorem own_mk2_d0 : decode method_3_code 0 = .ok (.iload_n 0, 1) := by decide +kernel
theorem own_mk2_d1 : decode method_3_code 1 = .ok (.iconst 1, 1) := by decide +kernel
theorem own_mk2_d2 : decode method_3_code 2 = .ok (.if_icmp .ne 18, 3) := by decide +kernel
theorem own_mk2_d20 : decode method_3_code 20 = .ok (.iload_n 0, 1) := by decide +kernel
theorem own_mk2_d21 : decode method_3_code 21 = .ok (.iconst 2, 1) := by decide +kernel
theorem own_mk2_d22 : decode method_3_code 22 = .ok (.if_icmp .ne 22, 3) := by decide +kernel
theorem own_mk2_d25 : decode method_3_code 25 = .ok (.new 14, 3) := by decide +kernel
theorem own_mk2_d28 : decode method_3_code 28 = .ok (.dup, 1) := by decide +kernel
theorem own_mk2_d29 : decode method_3_code 29 = .ok (.iconst 2, 1) := by decide +kernel
theorem own_mk2_d30 : decode method_3_code 30 = .ok (.newarray .char, 2) := by decide +kernel
theorem own_mk2_d32 : decode method_3_code 32 = .ok (.dup, 1) := by decide +kernel
theorem own_mk2_d33 : decode method_3_code 33 = .ok (.iconst 0, 1) := by decide +kernel
theorem own_mk2_d34 : decode method_3_code 34 = .ok (.iload_n 1, 1) := by decide +kernel
theorem own_mk2_d35 : decode method_3_code 35 = .ok (.castore, 1) := by decide +kernel
theorem own_mk2_d36 : decode method_3_code 36 = .ok (.dup, 1) := by decide +kernel
theorem own_mk2_d37 : decode method_3_code 37 = .ok (.iconst 1, 1) := by decide +kernel
theorem own_mk2_d38 : decode method_3_code 38 = .ok (.iload_n 2, 1) := by decide +kernel
theorem own_mk2_d39 : decode method_3_code 39 = .ok (.castore, 1) := by decide +kernel
theorem own_mk2_d40 : decode method_3_code 40 = .ok (.invokespecial 33, 3) := by decide +kernel
theorem own_mk2_d43 : decode method_3_code 43 = .ok (.areturn, 1) := by decide +kernel
theorem own_mk2_pn : plainName "com/example/circuline/circuline/circulation/BarcodesRequiredPinLaw" = true := by first | (simp [plainName, overriddenIn]; done) | decide +kernel
theorem own_mk2_pd0 : parseMethodDescriptor "([C)V" = some ⟨[(.array .char)], none⟩ := by decide +kernel
theorem own_mk2_ef (m : MethodId) (x0 : Int32) (x1 : Int32) (x2 : Int32) (x3 : Int32) (x4 : Int32) : entryFrame m #[(.int x0), (.int x1), (.int x2), (.int x3), (.int x4)] 5 = mkF m 0 #[.val (.int x0), .val (.int x1), .val (.int x2), .val (.int x3), .val (.int x4)] [] := by first | (simp [entryFrame, mkF, argsToLocals, Value.category]; done) | rfl
def own_mk2_Q (Z : State) (zc : Int32) (d0 : Int32) (d1 : Int32) (d2 : Int32) (d3 : Int32) (h0 : Heap) (n0 : Nat) (vv_ : Option Value) (hh_ : Heap) (LL_ : List Loc) : Prop := ∃ sb : Addr, ∃ tb : Addr, ∃ kb : ClassId, vv_ = some (.ref sb) ∧ Fr n0 LL_ ∧ Ext h0 hh_ ∧ (Exa Z hh_ sb "java/lang/String") ∧ (Fld Z hh_ sb "java/lang/String" "coder" "B" (.int (0 : Int32))) ∧ (Fld Z hh_ sb "java/lang/String" "value" "[B" (.ref tb)) ∧ (Arv Z hh_ tb kb .byte (2 : Int32) [(.int d0.toInt8.toInt32), (.int d1.toInt8.toInt32)] (.int (0 : Int32)))
set_option maxRecDepth 65536 in
set_option maxHeartbeats 40000000 in
theorem own_mk2 (l : Launch) (Z : State) (a0 : Array Value) (hw : ∀ d ∈ tables_1, d.before a0 Z = true) (ws : List Jvm.Cond) (zc : Int32) (d0 : Int32) (d1 : Int32) (d2 : Int32) (d3 : Int32) (h0 : Heap) (n0 : Nat) (Z0 : n0 ≤ h0.size) (hOld : Old Z n0 h0) (Scs : Sta Z Z.heap "java/lang/String" "COMPACT_STRINGS" "Z" (.int zc)) (hzc : ¬ zc = (0 : Int32)) (l_d0 : ¬ d0 < (0 : Int32)) (u_d0 : ¬ (255 : Int32) < d0) (l_d1 : ¬ d1 < (0 : Int32)) (u_d1 : ¬ (255 : Int32) < d1) (l_d2 : ¬ d2 < (0 : Int32)) (u_d2 : ¬ (255 : Int32) < d2) (l_d3 : ¬ d3 < (0 : Int32)) (u_d3 : ¬ (255 : Int32) < d3) :
    MetFree l (⟨"com/example/circuline/circuline/circulation/BarcodesRequiredPinLaw", "make", "(ICCCC)Ljava/lang/String;"⟩ : MethodName) (head1 (Jvm.Cond.code (⟨"com/example/circuline/circuline/circulation/BarcodesRequiredPinLaw", "make", "(ICCCC)Ljava/lang/String;"⟩ : MethodName) method_3_code 5 (some (.object "java/lang/String")) :: ws) ({ frames := 4, cells := 3, slots := 8, locals := 66 } : Room)) (fun aa_ UU_ => aa_ = #[(.int (2 : Int32)), (.int d0), (.int d1), (.int d2), (.int d3)] ∧ Z.Warmed39 UU_.vm ∧ UU_.heap = h0) (fun _ _ _ _ _ => True) (fun _ UU_ oo_ UV_ => ∃ vv_ LL_, oo_ = .returned vv_ ∧ own_mk2_Q Z zc d0 d1 d2 d3 h0 n0 vv_ UV_.heap LL_ ∧ FrameEnd UU_ oo_ UV_ LL_ ({ frames := 4, cells := 3, slots := 8, locals := 66 } : Room).cells ({ frames := 4, cells := 3, slots := 8, locals := 66 } : Room).slots) := by
  refine MetFree.of_bodySF (plainFor_of_name own_mk2_pn) hisR ?_
  intro p e s m args below meth c s₁ Bd hml0 hP hK
  obtain ⟨rfl, hZ, hh⟩ := hP
  have hx := Bd.exec
  have hby := Bd.bytes
  have hml : c.maxLocals = 5 := hml0
  have hown : s.vm.findClass "com/example/circuline/circuline/circulation/BarcodesRequiredPinLaw" = some m.cls := findClass_of_methodNamed Bd.named
  have hnm := (name_of_methodNamed Bd.named Bd.method).1
  have X0 : Stand p l e ({ frames := 4, cells := 3, slots := 8, locals := 66 } : Room) s m #[(.int (2 : Int32)), (.int d0), (.int d1), (.int d2), (.int d3)] below meth c s₁ [] 0 0 := Stand.of_body Bd
  have e0 : s₁.heap = h0 := by rw [← hh, Bd.state]; rfl
  have N0 := Fr.nil n0
  have KP0 : Keep h0 h0 [] := Keep.refl _ _
  refine ownFin (Q := own_mk2_Q Z zc d0 d1 d2 d3 h0 n0) ?_
  refine ownStep (fun _ k => castTop (own_mk2_ef m (2 : Int32) d0 d1 d2 d3) k) ?_
  show ownGo p.tables e below (s₁.setTop (mkF m 0 #[.val (.int (2 : Int32)), .val (.int d0), .val (.int d1), .val (.int d2), .val (.int d3)] [])) _
  refine ownStep (fun _ k => XS.iloadN X0.here hx rfl (hb hby own_mk2_d0) rfl  k) ?_
  refine ownStep (fun _ k => XS.iconst X0.here hx rfl (hb hby own_mk2_d1) k) ?_
  refine ownStep (fun _ k => XS.icmpYes X0.here hx rfl (pc0 := 2) (pc' := 20) rfl (hb hby own_mk2_d2) rfl (feq (by decide : ¬ (2 : Int32) = (1 : Int32))).2 (by decide) (by decide) k) ?_
  refine ownStep (fun _ k => XS.iloadN X0.here hx rfl (hb hby own_mk2_d20) rfl  k) ?_
  refine ownStep (fun _ k => XS.iconst X0.here hx rfl (hb hby own_mk2_d21) k) ?_
  show ownGo p.tables e below (s₁.setTop (mkF m 22 #[.val (.int (2 : Int32)), .val (.int d0), .val (.int d1), .val (.int d2), .val (.int d3)] [(.int (2 : Int32)), (.int (2 : Int32))])) _
  refine ownStep (fun _ k => XS.icmpNo X0.here hx rfl (hb hby own_mk2_d22) rfl (teq (by decide : (2 : Int32) = (2 : Int32))).2 k) ?_
  show ownGo p.tables e below (s₁.setTop (mkF m 25 #[.val (.int (2 : Int32)), .val (.int d0), .val (.int d1), .val (.int d2), .val (.int d3)] [])) _
  obtain ⟨T1, h1, X1, e1, E1, A1, D1, U1, st1⟩ := newO X0 hx hZ hown (hw _ (List.mem_of_getElem? (i := 4) rfl)) (hw _ (List.mem_of_getElem? (i := 5) rfl)) (hw _ (List.mem_of_getElem? (i := 6) rfl)) e0 (g := (mkF m 25 #[.val (.int (2 : Int32)), .val (.int d0), .val (.int d1), .val (.int d2), .val (.int d3)] [])) rfl (hb hby own_mk2_d25) (by decide) (by decide)
  obtain ⟨b1, g1⟩ : ∃ z, z = h0.size := ⟨_, rfl⟩
  rw [← g1] at A1 D1 U1 st1
  have gh_b1 : h0.size ≤ b1 := Nat.le_trans KP0.1 (Nat.le_of_eq g1.symm)
  have gn_b1 : n0 ≤ b1 := Nat.le_trans Z0 gh_b1
  have KP2 : Keep h0 h1 [] := KP0.ext E1
  have F3 : Fld Z h1 b1 "java/lang/String" "coder" "B" (.int (0 : Int32)) := D1 (Or.inr (hw _ (List.mem_of_getElem? (i := 31) rfl))) (ty := .byte) (by decide)
  have F4 : Fld Z h1 b1 "java/lang/String" "value" "[B" .null := D1 (Or.inr (hw _ (List.mem_of_getElem? (i := 33) rfl))) (ty := (.array .byte)) (by decide)
  refine ownStep st1 ?_
  refine ownStep (fun _ k => XS.dup X1.here hx rfl (hb hby own_mk2_d28) rfl rfl k) ?_
  refine ownStep (fun _ k => XS.iconst X1.here hx rfl (hb hby own_mk2_d29) k) ?_
  show ownGo p.tables e below (T1.setTop (mkF m 30 #[.val (.int (2 : Int32)), .val (.int d0), .val (.int d1), .val (.int d2), .val (.int d3)] [(.int (2 : Int32)), (.ref b1), (.ref b1)])) _
  obtain ⟨T5, h5, k5, X5, e5, E5, A5, st5⟩ := newP X1 hx hZ (hw _ (List.mem_of_getElem? (i := 7) rfl)) e1 (g := (mkF m 30 #[.val (.int (2 : Int32)), .val (.int d0), .val (.int d1), .val (.int d2), .val (.int d3)] [(.int (2 : Int32)), (.ref b1), (.ref b1)])) rfl (hb hby own_mk2_d30) rfl (by decide) (cap := 2) (by decide) (by decide) (by decide) (by decide)
  obtain ⟨b5, g5⟩ : ∃ z, z = h1.size := ⟨_, rfl⟩
  rw [← g5] at A5 st5
  have gh_b5 : h0.size ≤ b5 := Nat.le_trans KP2.1 (Nat.le_of_eq g5.symm)
  have gn_b5 : n0 ≤ b5 := Nat.le_trans Z0 gh_b5
  have KP6 : Keep h0 h5 [] := KP2.ext E5
  have V5 : Arv Z h5 b5 k5 .char (2 : Int32) [(.int (0 : Int32)), (.int (0 : Int32))] (.int (0 : Int32)) := (Arv.new A5 (by decide)).pad (pad_rep [] (.int (0 : Int32)) 2)
  refine ownStep st5 ?_
  refine ownStep (fun _ k => XS.dup X5.here hx rfl (hb hby own_mk2_d32) rfl rfl k) ?_
  refine ownStep (fun _ k => XS.iconst X5.here hx rfl (hb hby own_mk2_d33) k) ?_
  refine ownStep (fun _ k => XS.iloadN X5.here hx rfl (hb hby own_mk2_d34) rfl  k) ?_
  show ownGo p.tables e below (T5.setTop (mkF m 35 #[.val (.int (2 : Int32)), .val (.int d0), .val (.int d1), .val (.int d2), .val (.int d3)] [(.int d0), (.int (0 : Int32)), (.ref b5), (.ref b5), (.ref b1), (.ref b1)])) _
  have Vo7 := V5
  obtain ⟨cl7, Ar7, q7, S7, N7, H7, G7⟩ := Vo7
  have hin7 : ¬ ((0 : Int32) < 0 ∨ cl7.slots.size ≤ ((0 : Int32)).toNatClampNeg) := inb_of S7 ⟨by decide, by decide⟩
  obtain ⟨T8, h8, X8, e8, W8, st8⟩ := stC X5 hx hZ e5 Ar7 (j := (0 : Int32)) hin7 (g := (mkF m 35 #[.val (.int (2 : Int32)), .val (.int d0), .val (.int d1), .val (.int d2), .val (.int d3)] [(.int d0), (.int (0 : Int32)), (.ref b5), (.ref b5), (.ref b1), (.ref b1)])) rfl rfl (hb hby own_mk2_d35)
  have N9 := Fr.snoc X8 N0 gn_b5
  have KP10 : Keep h0 h8 [] := KP6.wr W8 (Or.inr gh_b5)
  have V11 : Arv Z h8 b5 k5 .char (2 : Int32) [(.int d0.toUInt32.toUInt16.toUInt32.toInt32), (.int (0 : Int32))] (.int (0 : Int32)) := Arv.set Ar7 q7 S7 N7 H7 G7 (fits_nar_char _) W8 0 rfl (Nat.le_of_ble_eq_true rfl)
  refine ownStep st8 ?_
  refine ownStep (fun _ k => XS.dup X8.here hx rfl (hb hby own_mk2_d36) rfl rfl k) ?_
  refine ownStep (fun _ k => XS.iconst X8.here hx rfl (hb hby own_mk2_d37) k) ?_
  refine ownStep (fun _ k => XS.iloadN X8.here hx rfl (hb hby own_mk2_d38) rfl  k) ?_
  show ownGo p.tables e below (T8.setTop (mkF m 39 #[.val (.int (2 : Int32)), .val (.int d0), .val (.int d1), .val (.int d2), .val (.int d3)] [(.int d1), (.int (1 : Int32)), (.ref b5), (.ref b5), (.ref b1), (.ref b1)])) _
  have Vo12 := V11
  obtain ⟨cl12, Ar12, q12, S12, N12, H12, G12⟩ := Vo12
  have hin12 : ¬ ((1 : Int32) < 0 ∨ cl12.slots.size ≤ ((1 : Int32)).toNatClampNeg) := inb_of S12 ⟨by decide, by decide⟩
  obtain ⟨T13, h13, X13, e13, W13, st13⟩ := stC X8 hx hZ e8 Ar12 (j := (1 : Int32)) hin12 (g := (mkF m 39 #[.val (.int (2 : Int32)), .val (.int d0), .val (.int d1), .val (.int d2), .val (.int d3)] [(.int d1), (.int (1 : Int32)), (.ref b5), (.ref b5), (.ref b1), (.ref b1)])) rfl rfl (hb hby own_mk2_d39)
  have N14 := Fr.snoc X13 N9 gn_b5
  have KP15 : Keep h0 h13 [] := KP10.wr W13 (Or.inr gh_b5)
  have V16 : Arv Z h13 b5 k5 .char (2 : Int32) [(.int d0.toUInt32.toUInt16.toUInt32.toInt32), (.int d1.toUInt32.toUInt16.toUInt32.toInt32)] (.int (0 : Int32)) := Arv.set Ar12 q12 S12 N12 H12 G12 (fits_nar_char _) W13 1 rfl (Nat.le_of_ble_eq_true rfl)
  refine ownStep st13 ?_
  show ownGo p.tables e below (T13.setTop (mkF m 40 #[.val (.int (2 : Int32)), .val (.int d0), .val (.int d1), .val (.int d2), .val (.int d3)] [(.ref b5), (.ref b1), (.ref b1)])) _
  have V17 : Arv Z h13 b5 k5 .char (2 : Int32) [(.int d0), (.int d1)] (.int (0 : Int32)) := by have q := V16; rw [own_nc l_d0 u_d0, own_nc l_d1 u_d1] at q; exact q
  have Q18 : Exa Z h13 b1 "java/lang/String" := (((A1.ext E5).wr W8).wr W13)
  have ne19 : b1 ≠ b5 := Nat.ne_of_lt (Nat.lt_of_lt_of_le (Nat.lt_of_lt_of_le A1.lt (Nat.le_refl _)) (Nat.le_of_eq g5.symm))
  have Q20 : Fld Z h13 b1 "java/lang/String" "value" "[B" .null := (((F4.ext E5).other W8 (Or.inl ne19)).other W13 (Or.inl ne19))
  have Q21 : Fld Z h13 b1 "java/lang/String" "coder" "B" (.int (0 : Int32)) := (((F3.ext E5).other W8 (Or.inl ne19)).other W13 (Or.inl ne19))
  have Q22 : Old Z n0 h13 := ((((hOld.ext E1).ext E5).wr W8 gn_b5).wr W13 gn_b5)
  have Q23 : Sta Z h13 "java/lang/String" "COMPACT_STRINGS" "Z" (.int zc) := Scs.ext Q22.2
  have Zs24 : n0 ≤ h13.size := Nat.le_trans Z0 KP15.1
  obtain ⟨_, _, ⟨T25, L25, k25, n25⟩, -, X25, ⟨Lc25, hQ25, l25, y25, z25⟩, st25⟩ := X13.specialBack hx (y := (⟨"java/lang/String", "<init>", "([C)V"⟩ : MethodName)) rfl hown (mvT hZ (hw _ (List.mem_of_getElem? (i := 8) rfl))) (mvT hZ (hw _ (List.mem_of_getElem? (i := 9) rfl))) (mvT hZ (hw _ (List.mem_of_getElem? (i := 10) rfl))) (by decide) (StrChars.Road.backV (W := 1) hZ (fun d hd => hw d ((by decide +kernel : ∀ d ∈ StrChars.Road.words, d ∈ tables_1) d hd)) (kI := 4) (hw _ (List.mem_of_getElem? (i := 5) rfl)) (cs := ([d0, d1] : List Int32)) (bs := ([d0, d1] : List Int32).map (fun c => c.toInt8.toInt32)) (n := 2) gn_b1 Zs24 Q18 Q20 Q21 V17 Q23 hzc rfl rfl (by decide) (by decide) (own_ccons ⟨l_d0, u_d0⟩ (own_ccons ⟨l_d1, u_d1⟩ own_cnil)) rfl (by decide) (by decide)) (g := (mkF m 40 #[.val (.int (2 : Int32)), .val (.int d0), .val (.int d1), .val (.int d2), .val (.int d3)] [(.ref b5), (.ref b1), (.ref b1)])) rfl (by rw [hml]; rfl) (Steps.refl _) (a := b1) (argsL := [(.ref b5)]) (rest := [(.ref b1)]) (lenOf own_mk2_pd0 rfl) rfl (by show 2 * 0 + _ ≤ _; exact Nat.le_of_eq rfl) (hb hby own_mk2_d40) (fun _ _ => ⟨rfl, e13, (by decide : 2 + 1 ≤ _), (by decide : 6 + 2 ≤ _)⟩)
  dsimp only [Pt.U, Pt.locs, Pt.cells, Pt.slots] at X25 l25 y25 z25 st25 hQ25
  obtain rfl : k25 = 3 := y25
  obtain rfl : n25 = 8 := z25
  obtain ⟨rfl, N25q, R25, E25s, C25s, t25, kb25, gg25, gs25, gt25, V25s, A25s⟩ := hQ25
  have N25 : Fr n0 L25 := l25 ▸ Fr.app N14 N25q
  refine ownStep (fun _ k => st25.trans k) ?_
  have gh_t25 : h0.size ≤ t25 := Nat.le_trans KP15.1 gs25
  have gn_t25 : n0 ≤ t25 := gg25
  have KP26 : Keep h0 T25.heap [] := KP15.trans R25 (allS (Or.inr gh_b1) all0)
  have B25s : Arv Z T25.heap t25 kb25 .byte (2 : Int32) [(.int d0.toInt8.toInt32), (.int d1.toInt8.toInt32)] (.int (0 : Int32)) := A25s
  show ownGo p.tables e below (T25.setTop (mkF m 43 #[.val (.int (2 : Int32)), .val (.int d0), .val (.int d1), .val (.int d2), .val (.int d3)] [(.ref b1)])) _
  have Q27 : Exa Z T25.heap b1 "java/lang/String" := (Q18.keep R25)
  exact ownRet X25 (v := some (.ref b1)) Bd.notSynchronized (fun h => by rw [Bd.returns] at h; cases h) (fun _ hr => retOut X25 hx (t := (.object "java/lang/String")) Bd.returns rfl (Or.inr (Or.inr (Or.inr (Or.inr ⟨rfl, rfl, rfl⟩)))) (hb hby own_mk2_d43) hr) (⟨b1, t25, kb25, rfl, N25, (own_extOf KP26), Q27, C25s, V25s, B25s⟩) (by decide) (by decide)
theorem own_len2_d0 : decode jdk_42_method_54_code 0 = .ok (.aload_n 0, 1) := by decide +kernel
theorem own_len2_d1 : decode jdk_42_method_54_code 1 = .ok (.getfield 9, 3) := by decide +kernel
theorem own_len2_d4 : decode jdk_42_method_54_code 4 = .ok (.arraylength, 1) := by decide +kernel
theorem own_len2_d5 : decode jdk_42_method_54_code 5 = .ok (.aload_n 0, 1) := by decide +kernel
theorem own_len2_d6 : decode jdk_42_method_54_code 6 = .ok (.invokevirtual 335, 3) := by decide +kernel
theorem own_len2_d9 : decode jdk_42_method_54_code 9 = .ok (.ishr, 1) := by decide +kernel
theorem own_len2_d10 : decode jdk_42_method_54_code 10 = .ok (.ireturn, 1) := by decide +kernel
theorem own_len2_pn : plainName "java/lang/String" = true := by first | (simp [plainName, overriddenIn]; done) | decide +kernel
theorem own_len2_pd0 : parseMethodDescriptor "()B" = some ⟨[], some .byte⟩ := by decide +kernel
theorem own_len2_ef (m : MethodId) (x0 : Addr) : entryFrame m #[(.ref x0)] 1 = mkF m 0 #[.val (.ref x0)] [] := by first | (simp [entryFrame, mkF, argsToLocals, Value.category]; done) | rfl
def own_len2_Q (Z : State) (zc : Int32) (a : Addr) (tb : Addr) (kb : ClassId) (x0 : Int32) (x1 : Int32) (h0 : Heap) (n0 : Nat) (vv_ : Option Value) (hh_ : Heap) (LL_ : List Loc) : Prop := vv_ = some (.int (2 : Int32)) ∧ Fr n0 LL_ ∧ hh_ = h0
set_option maxRecDepth 65536 in
set_option maxHeartbeats 40000000 in
theorem own_len2 (l : Launch) (Z : State) (a0 : Array Value) (hw : ∀ d ∈ tables_1, d.before a0 Z = true) (ws : List Jvm.Cond) (zc : Int32) (a : Addr) (tb : Addr) (kb : ClassId) (x0 : Int32) (x1 : Int32) (h0 : Heap) (n0 : Nat) (Z0 : n0 ≤ h0.size) (hOld : Old Z n0 h0) (Scs : Sta Z Z.heap "java/lang/String" "COMPACT_STRINGS" "Z" (.int zc)) (hzc : ¬ zc = (0 : Int32)) (E : Exa Z h0 a "java/lang/String") (C : Fld Z h0 a "java/lang/String" "coder" "B" (.int (0 : Int32))) (Vl : Fld Z h0 a "java/lang/String" "value" "[B" (.ref tb)) (B : Arv Z h0 tb kb .byte (2 : Int32) [(.int x0.toInt8.toInt32), (.int x1.toInt8.toInt32)] (.int (0 : Int32))) :
    MetFree l (⟨"java/lang/String", "length", "()I"⟩ : MethodName) (head1 (Jvm.Cond.code (⟨"java/lang/String", "length", "()I"⟩ : MethodName) jdk_42_method_54_code 1 (some .int) :: ws) ({ frames := 1, cells := 0, slots := 0, locals := 13 } : Room)) (fun aa_ UU_ => aa_ = #[(.ref a)] ∧ Z.Warmed39 UU_.vm ∧ UU_.heap = h0) (fun _ _ _ _ _ => True) (fun _ UU_ oo_ UV_ => ∃ vv_ LL_, oo_ = .returned vv_ ∧ own_len2_Q Z zc a tb kb x0 x1 h0 n0 vv_ UV_.heap LL_ ∧ FrameEnd UU_ oo_ UV_ LL_ ({ frames := 1, cells := 0, slots := 0, locals := 13 } : Room).cells ({ frames := 1, cells := 0, slots := 0, locals := 13 } : Room).slots) := by
  refine MetFree.of_bodySF (plainFor_of_name own_len2_pn) hisR ?_
  intro p e s m args below meth c s₁ Bd hml0 hP hK
  obtain ⟨rfl, hZ, hh⟩ := hP
  have hx := Bd.exec
  have hby := Bd.bytes
  have hml : c.maxLocals = 1 := hml0
  have hown : s.vm.findClass "java/lang/String" = some m.cls := findClass_of_methodNamed Bd.named
  have hnm := (name_of_methodNamed Bd.named Bd.method).1
  have X0 : Stand p l e ({ frames := 1, cells := 0, slots := 0, locals := 13 } : Room) s m #[(.ref a)] below meth c s₁ [] 0 0 := Stand.of_body Bd
  have e0 : s₁.heap = h0 := by rw [← hh, Bd.state]; rfl
  have N0 := Fr.nil n0
  have KP0 : Keep h0 h0 [] := Keep.refl _ _
  refine ownFin (Q := own_len2_Q Z zc a tb kb x0 x1 h0 n0) ?_
  refine ownStep (fun _ k => castTop (own_len2_ef m a) k) ?_
  show ownGo p.tables e below (s₁.setTop (mkF m 0 #[.val (.ref a)] [])) _
  refine ownStep (fun _ k => XS.aloadN X0.here hx rfl (hb hby own_len2_d0) rfl rfl k) ?_
  show ownGo p.tables e below (s₁.setTop (mkF m 1 #[.val (.ref a)] [(.ref a)])) _
  obtain ⟨T1, X1, e1, st1⟩ := getF X0 hx hZ hown (host := "") (Or.inl (hw _ (List.mem_of_getElem? (i := 32) rfl))) Via.refl e0 Vl (g := (mkF m 1 #[.val (.ref a)] [(.ref a)])) rfl rfl (hb hby own_len2_d1)
  refine ownStep st1 ?_
  show ownGo p.tables e below (T1.setTop (mkF m 4 #[.val (.ref a)] [(.ref tb)])) _
  have Vo2 := B
  obtain ⟨cl2, Ar2, q2, S2, N2, H2, G2⟩ := Vo2
  refine ownStep (X1.arraylength hx (by rw [e1]; exact Ar2.1) (State.isArrayOf_alike hZ.alike Ar2.2.1) (g := (mkF m 4 #[.val (.ref a)] [(.ref tb)])) rfl rfl (hb hby own_len2_d4)) ?_
  rw [len_of S2 N2]
  refine ownStep (fun _ k => XS.aloadN X1.here hx rfl (hb hby own_len2_d5) rfl rfl k) ?_
  show ownGo p.tables e below (T1.setTop (mkF m 6 #[.val (.ref a)] [(.ref a), (.int (2 : Int32))])) _
  have Zs4 : n0 ≤ h0.size := Nat.le_trans Z0 KP0.1
  obtain ⟨cq3, kq3, q3a, q3b, q3c⟩ := isOf hZ e1 E
  obtain ⟨_, _, ⟨T3, L3, k3, n3⟩, -, X3, ⟨Lc3, hQ3, l3, y3, z3⟩, st3⟩ := X1.virtualBack hx (y := (⟨"java/lang/String", "coder", "()B"⟩ : MethodName)) (z := (⟨"java/lang/String", "coder", "()B"⟩ : MethodName)) hown (mvT hZ (hw _ (List.mem_of_getElem? (i := 91) rfl))) (mvT hZ (hw _ (List.mem_of_getElem? (i := 92) rfl))) (notFace_of_selects (args := #[]) (mvT hZ (hw _ (List.mem_of_getElem? (i := 94) rfl)))) (mvT hZ (hw _ (List.mem_of_getElem? (i := 94) rfl))) (mvT hZ (hw _ (List.mem_of_getElem? (i := 93) rfl))) (by decide) (backOf (W := 1) (own_cod l Z a0 hw [] zc a h0 n0 Zs4 hOld Scs hzc C) hZ (hw _ (List.mem_of_getElem? (i := 95) rfl)) (hw _ (List.mem_of_getElem? (i := 6) rfl)) (by decide) (by decide)) q3a q3c (g := (mkF m 6 #[.val (.ref a)] [(.ref a), (.int (2 : Int32))])) rfl (by rw [hml]; rfl) (Steps.refl _) (argsL := []) (rest := [(.int (2 : Int32))]) (lenOf own_len2_pd0 rfl) rfl (by show 2 * 0 + _ ≤ _; exact Nat.le_of_eq rfl) (hb hby own_len2_d6) (fun _ _ => ⟨rfl, e1, (by decide : 0 + 0 ≤ _), (by decide : 0 + 0 ≤ _)⟩)
  dsimp only [Pt.U, Pt.locs, Pt.cells, Pt.slots] at X3 l3 y3 z3 st3 hQ3
  obtain rfl : k3 = 0 := y3
  obtain rfl : n3 = 0 := z3
  obtain ⟨rfl, N3q, R3⟩ := hQ3
  have N3 : Fr n0 L3 := l3 ▸ Fr.app N0 N3q
  refine ownStep (fun _ k => st3.trans k) ?_
  refine ownStep (fun _ k => XS.ishr X3.here hx rfl (hb hby own_len2_d9) rfl k) ?_
  show ownGo p.tables e below (T3.setTop (mkF m 10 #[.val (.ref a)] [(.int (2 : Int32))])) _
  exact ownRet X3 (v := some (.int (2 : Int32))) Bd.notSynchronized (fun h => by rw [Bd.returns] at h; cases h) (fun _ hr => retI X3 hx Bd.returns (hb hby own_len2_d10) hr) (by rw [R3]; exact ⟨rfl, N3, rfl⟩) (by decide) (by decide)
theorem own_gc2_0_d0 : decode jdk_43_method_44_code 0 = .ok (.aload_n 0, 1) := by decide +kernel
theorem own_gc2_0_d1 : decode jdk_43_method_44_code 1 = .ok (.iload_n 1, 1) := by decide +kernel
theorem own_gc2_0_d2 : decode jdk_43_method_44_code 2 = .ok (.baload, 1) := by decide +kernel
theorem own_gc2_0_d3 : decode jdk_43_method_44_code 3 = .ok (.sipush 255, 3) := by decide +kernel
theorem own_gc2_0_d6 : decode jdk_43_method_44_code 6 = .ok (.iand, 1) := by decide +kernel
theorem own_gc2_0_d7 : decode jdk_43_method_44_code 7 = .ok (.i2c, 1) := by decide +kernel
theorem own_gc2_0_d8 : decode jdk_43_method_44_code 8 = .ok (.ireturn, 1) := by decide +kernel
theorem own_gc2_0_pn : plainName "java/lang/StringLatin1" = true := by first | (simp [plainName, overriddenIn]; done) | decide +kernel
theorem own_gc2_0_ef (m : MethodId) (x0 : Addr) (x1 : Int32) : entryFrame m #[(.ref x0), (.int x1)] 2 = mkF m 0 #[.val (.ref x0), .val (.int x1)] [] := by first | (simp [entryFrame, mkF, argsToLocals, Value.category]; done) | rfl
def own_gc2_0_Q (Z : State) (tb : Addr) (kb : ClassId) (x0 : Int32) (x1 : Int32) (h0 : Heap) (n0 : Nat) (vv_ : Option Value) (hh_ : Heap) (LL_ : List Loc) : Prop := vv_ = some (.int x0) ∧ Fr n0 LL_ ∧ hh_ = h0
set_option maxRecDepth 65536 in
set_option maxHeartbeats 40000000 in
theorem own_gc2_0 (l : Launch) (Z : State) (a0 : Array Value) (hw : ∀ d ∈ tables_1, d.before a0 Z = true) (ws : List Jvm.Cond) (tb : Addr) (kb : ClassId) (x0 : Int32) (x1 : Int32) (h0 : Heap) (n0 : Nat) (Z0 : n0 ≤ h0.size) (B : Arv Z h0 tb kb .byte (2 : Int32) [(.int x0.toInt8.toInt32), (.int x1.toInt8.toInt32)] (.int (0 : Int32))) (l_x0 : ¬ x0 < (0 : Int32)) (u_x0 : ¬ (255 : Int32) < x0) :
    MetFree l (⟨"java/lang/StringLatin1", "getChar", "([BI)C"⟩ : MethodName) (head1 (Jvm.Cond.code (⟨"java/lang/StringLatin1", "getChar", "([BI)C"⟩ : MethodName) jdk_43_method_44_code 2 (some .char) :: ws) ({ frames := 0, cells := 0, slots := 0, locals := 0 } : Room)) (fun aa_ UU_ => aa_ = #[(.ref tb), (.int (0 : Int32))] ∧ Z.Warmed39 UU_.vm ∧ UU_.heap = h0) (fun _ _ _ _ _ => True) (fun _ UU_ oo_ UV_ => ∃ vv_ LL_, oo_ = .returned vv_ ∧ own_gc2_0_Q Z tb kb x0 x1 h0 n0 vv_ UV_.heap LL_ ∧ FrameEnd UU_ oo_ UV_ LL_ ({ frames := 0, cells := 0, slots := 0, locals := 0 } : Room).cells ({ frames := 0, cells := 0, slots := 0, locals := 0 } : Room).slots) := by
  refine MetFree.of_bodySF (plainFor_of_name own_gc2_0_pn) hisR ?_
  intro p e s m args below meth c s₁ Bd hml0 hP hK
  obtain ⟨rfl, hZ, hh⟩ := hP
  have hx := Bd.exec
  have hby := Bd.bytes
  have hml : c.maxLocals = 2 := hml0
  have hown : s.vm.findClass "java/lang/StringLatin1" = some m.cls := findClass_of_methodNamed Bd.named
  have hnm := (name_of_methodNamed Bd.named Bd.method).1
  have X0 : Stand p l e ({ frames := 0, cells := 0, slots := 0, locals := 0 } : Room) s m #[(.ref tb), (.int (0 : Int32))] below meth c s₁ [] 0 0 := Stand.of_body Bd
  have e0 : s₁.heap = h0 := by rw [← hh, Bd.state]; rfl
  have N0 := Fr.nil n0
  have KP0 : Keep h0 h0 [] := Keep.refl _ _
  refine ownFin (Q := own_gc2_0_Q Z tb kb x0 x1 h0 n0) ?_
  refine ownStep (fun _ k => castTop (own_gc2_0_ef m tb (0 : Int32)) k) ?_
  show ownGo p.tables e below (s₁.setTop (mkF m 0 #[.val (.ref tb), .val (.int (0 : Int32))] [])) _
  refine ownStep (fun _ k => XS.aloadN X0.here hx rfl (hb hby own_gc2_0_d0) rfl rfl k) ?_
  refine ownStep (fun _ k => XS.iloadN X0.here hx rfl (hb hby own_gc2_0_d1) rfl  k) ?_
  show ownGo p.tables e below (s₁.setTop (mkF m 2 #[.val (.ref tb), .val (.int (0 : Int32))] [(.int (0 : Int32)), (.ref tb)])) _
  have Vo1 := B
  obtain ⟨cl1, Ar1, q1, S1, N1, H1, G1⟩ := Vo1
  have hin1 : ¬ ((0 : Int32) < 0 ∨ cl1.slots.size ≤ ((0 : Int32)).toNatClampNeg) := inb_of S1 ⟨by decide, by decide⟩
  refine ownStep (X0.baloadBytes hx (j := (0 : Int32)) (v := (.int x0.toInt8.toInt32)) (by rw [e0]; exact Ar1.1) (State.isArrayOf_alike hZ.alike Ar1.2.1) Ar1.2.2 hin1 (H1.at hin1 rfl) (g := (mkF m 2 #[.val (.ref tb), .val (.int (0 : Int32))] [(.int (0 : Int32)), (.ref tb)])) rfl rfl (hb hby own_gc2_0_d2)) ?_
  refine ownStep (fun _ k => XS.sipush X0.here hx rfl (hb hby own_gc2_0_d3) k) ?_
  refine ownStep (fun _ k => XS.iand X0.here hx rfl (hb hby own_gc2_0_d6) rfl k) ?_
  refine ownStep (fun _ k => XS.i2c X0.here hx rfl (hb hby own_gc2_0_d7) rfl k) ?_
  show ownGo p.tables e below (s₁.setTop (mkF m 8 #[.val (.ref tb), .val (.int (0 : Int32))] [(.int ((x0.toInt8.toInt32 &&& (255 : Int32)).toUInt32.toUInt16.toUInt32.toInt32))])) _
  exact ownRet X0 (v := some (.int (nar .char ((x0.toInt8.toInt32 &&& (255 : Int32)).toUInt32.toUInt16.toUInt32.toInt32)))) Bd.notSynchronized (fun h => by rw [Bd.returns] at h; cases h) (fun _ hr => retN X0 hx (t := .char) Bd.returns (by simp) (hb hby own_gc2_0_d8) hr) (by rw [e0]; exact ⟨(by rw [own_lat l_x0 u_x0]), N0, rfl⟩) (by decide) (by decide)
theorem own_gc2_1_d0 : decode jdk_43_method_44_code 0 = .ok (.aload_n 0, 1) := by decide +kernel
theorem own_gc2_1_d1 : decode jdk_43_method_44_code 1 = .ok (.iload_n 1, 1) := by decide +kernel
theorem own_gc2_1_d2 : decode jdk_43_method_44_code 2 = .ok (.baload, 1) := by decide +kernel
theorem own_gc2_1_d3 : decode jdk_43_method_44_code 3 = .ok (.sipush 255, 3) := by decide +kernel
theorem own_gc2_1_d6 : decode jdk_43_method_44_code 6 = .ok (.iand, 1) := by decide +kernel
theorem own_gc2_1_d7 : decode jdk_43_method_44_code 7 = .ok (.i2c, 1) := by decide +kernel
theorem own_gc2_1_d8 : decode jdk_43_method_44_code 8 = .ok (.ireturn, 1) := by decide +kernel
theorem own_gc2_1_pn : plainName "java/lang/StringLatin1" = true := by first | (simp [plainName, overriddenIn]; done) | decide +kernel
theorem own_gc2_1_ef (m : MethodId) (x0 : Addr) (x1 : Int32) : entryFrame m #[(.ref x0), (.int x1)] 2 = mkF m 0 #[.val (.ref x0), .val (.int x1)] [] := by first | (simp [entryFrame, mkF, argsToLocals, Value.category]; done) | rfl
def own_gc2_1_Q (Z : State) (tb : Addr) (kb : ClassId) (x0 : Int32) (x1 : Int32) (h0 : Heap) (n0 : Nat) (vv_ : Option Value) (hh_ : Heap) (LL_ : List Loc) : Prop := vv_ = some (.int x1) ∧ Fr n0 LL_ ∧ hh_ = h0
set_option maxRecDepth 65536 in
set_option maxHeartbeats 40000000 in
theorem own_gc2_1 (l : Launch) (Z : State) (a0 : Array Value) (hw : ∀ d ∈ tables_1, d.before a0 Z = true) (ws : List Jvm.Cond) (tb : Addr) (kb : ClassId) (x0 : Int32) (x1 : Int32) (h0 : Heap) (n0 : Nat) (Z0 : n0 ≤ h0.size) (B : Arv Z h0 tb kb .byte (2 : Int32) [(.int x0.toInt8.toInt32), (.int x1.toInt8.toInt32)] (.int (0 : Int32))) (l_x1 : ¬ x1 < (0 : Int32)) (u_x1 : ¬ (255 : Int32) < x1) :
    MetFree l (⟨"java/lang/StringLatin1", "getChar", "([BI)C"⟩ : MethodName) (head1 (Jvm.Cond.code (⟨"java/lang/StringLatin1", "getChar", "([BI)C"⟩ : MethodName) jdk_43_method_44_code 2 (some .char) :: ws) ({ frames := 0, cells := 0, slots := 0, locals := 0 } : Room)) (fun aa_ UU_ => aa_ = #[(.ref tb), (.int (1 : Int32))] ∧ Z.Warmed39 UU_.vm ∧ UU_.heap = h0) (fun _ _ _ _ _ => True) (fun _ UU_ oo_ UV_ => ∃ vv_ LL_, oo_ = .returned vv_ ∧ own_gc2_1_Q Z tb kb x0 x1 h0 n0 vv_ UV_.heap LL_ ∧ FrameEnd UU_ oo_ UV_ LL_ ({ frames := 0, cells := 0, slots := 0, locals := 0 } : Room).cells ({ frames := 0, cells := 0, slots := 0, locals := 0 } : Room).slots) := by
  refine MetFree.of_bodySF (plainFor_of_name own_gc2_1_pn) hisR ?_
  intro p e s m args below meth c s₁ Bd hml0 hP hK
  obtain ⟨rfl, hZ, hh⟩ := hP
  have hx := Bd.exec
  have hby := Bd.bytes
  have hml : c.maxLocals = 2 := hml0
  have hown : s.vm.findClass "java/lang/StringLatin1" = some m.cls := findClass_of_methodNamed Bd.named
  have hnm := (name_of_methodNamed Bd.named Bd.method).1
  have X0 : Stand p l e ({ frames := 0, cells := 0, slots := 0, locals := 0 } : Room) s m #[(.ref tb), (.int (1 : Int32))] below meth c s₁ [] 0 0 := Stand.of_body Bd
  have e0 : s₁.heap = h0 := by rw [← hh, Bd.state]; rfl
  have N0 := Fr.nil n0
  have KP0 : Keep h0 h0 [] := Keep.refl _ _
  refine ownFin (Q := own_gc2_1_Q Z tb kb x0 x1 h0 n0) ?_
  refine ownStep (fun _ k => castTop (own_gc2_1_ef m tb (1 : Int32)) k) ?_
  show ownGo p.tables e below (s₁.setTop (mkF m 0 #[.val (.ref tb), .val (.int (1 : Int32))] [])) _
  refine ownStep (fun _ k => XS.aloadN X0.here hx rfl (hb hby own_gc2_1_d0) rfl rfl k) ?_
  refine ownStep (fun _ k => XS.iloadN X0.here hx rfl (hb hby own_gc2_1_d1) rfl  k) ?_
  show ownGo p.tables e below (s₁.setTop (mkF m 2 #[.val (.ref tb), .val (.int (1 : Int32))] [(.int (1 : Int32)), (.ref tb)])) _
  have Vo1 := B
  obtain ⟨cl1, Ar1, q1, S1, N1, H1, G1⟩ := Vo1
  have hin1 : ¬ ((1 : Int32) < 0 ∨ cl1.slots.size ≤ ((1 : Int32)).toNatClampNeg) := inb_of S1 ⟨by decide, by decide⟩
  refine ownStep (X0.baloadBytes hx (j := (1 : Int32)) (v := (.int x1.toInt8.toInt32)) (by rw [e0]; exact Ar1.1) (State.isArrayOf_alike hZ.alike Ar1.2.1) Ar1.2.2 hin1 (H1.at hin1 rfl) (g := (mkF m 2 #[.val (.ref tb), .val (.int (1 : Int32))] [(.int (1 : Int32)), (.ref tb)])) rfl rfl (hb hby own_gc2_1_d2)) ?_
  refine ownStep (fun _ k => XS.sipush X0.here hx rfl (hb hby own_gc2_1_d3) k) ?_
  refine ownStep (fun _ k => XS.iand X0.here hx rfl (hb hby own_gc2_1_d6) rfl k) ?_
  refine ownStep (fun _ k => XS.i2c X0.here hx rfl (hb hby own_gc2_1_d7) rfl k) ?_
  show ownGo p.tables e below (s₁.setTop (mkF m 8 #[.val (.ref tb), .val (.int (1 : Int32))] [(.int ((x1.toInt8.toInt32 &&& (255 : Int32)).toUInt32.toUInt16.toUInt32.toInt32))])) _
  exact ownRet X0 (v := some (.int (nar .char ((x1.toInt8.toInt32 &&& (255 : Int32)).toUInt32.toUInt16.toUInt32.toInt32)))) Bd.notSynchronized (fun h => by rw [Bd.returns] at h; cases h) (fun _ hr => retN X0 hx (t := .char) Bd.returns (by simp) (hb hby own_gc2_1_d8) hr) (by rw [e0]; exact ⟨(by rw [own_lat l_x1 u_x1]), N0, rfl⟩) (by decide) (by decide)
theorem own_inw2_d0 : decode jdk_43_method_37_code 0 = .ok (.aload_n 0, 1) := by decide +kernel
theorem own_inw2_d1 : decode jdk_43_method_37_code 1 = .ok (.arraylength, 1) := by decide +kernel
theorem own_inw2_d2 : decode jdk_43_method_37_code 2 = .ok (.istore_n 1, 1) := by decide +kernel
theorem own_inw2_d3 : decode jdk_43_method_37_code 3 = .ok (.iconst 0, 1) := by decide +kernel
theorem own_inw2_d4 : decode jdk_43_method_37_code 4 = .ok (.istore_n 2, 1) := by decide +kernel
theorem own_inw2_d5 : decode jdk_43_method_37_code 5 = .ok (.iload_n 2, 1) := by decide +kernel
theorem own_inw2_d6 : decode jdk_43_method_37_code 6 = .ok (.iload_n 1, 1) := by decide +kernel
theorem own_inw2_d7 : decode jdk_43_method_37_code 7 = .ok (.if_icmp .ge 40, 3) := by decide +kernel
theorem own_inw2_d10 : decode jdk_43_method_37_code 10 = .ok (.aload_n 0, 1) := by decide +kernel
theorem own_inw2_d11 : decode jdk_43_method_37_code 11 = .ok (.iload_n 2, 1) := by decide +kernel
theorem own_inw2_d12 : decode jdk_43_method_37_code 12 = .ok (.invokestatic 50, 3) := by decide +kernel
theorem own_inw2_d15 : decode jdk_43_method_37_code 15 = .ok (.istore_n 3, 1) := by decide +kernel
theorem own_inw2_d16 : decode jdk_43_method_37_code 16 = .ok (.iload_n 3, 1) := by decide +kernel
theorem own_inw2_d17 : decode jdk_43_method_37_code 17 = .ok (.bipush 32, 2) := by decide +kernel
theorem own_inw2_d19 : decode jdk_43_method_37_code 19 = .ok (.if_icmp .eq 22, 3) := by decide +kernel
theorem own_inw2_d22 : decode jdk_43_method_37_code 22 = .ok (.iload_n 3, 1) := by decide +kernel
theorem own_inw2_d23 : decode jdk_43_method_37_code 23 = .ok (.bipush 9, 2) := by decide +kernel
theorem own_inw2_d25 : decode jdk_43_method_37_code 25 = .ok (.if_icmp .eq 16, 3) := by decide +kernel
theorem own_inw2_d28 : decode jdk_43_method_37_code 28 = .ok (.getstatic 66, 3) := by decide +kernel
theorem own_inw2_d31 : decode jdk_43_method_37_code 31 = .ok (.iload_n 3, 1) := by decide +kernel
theorem own_inw2_d32 : decode jdk_43_method_37_code 32 = .ok (.invokevirtual 211, 3) := by decide +kernel
theorem own_inw2_d35 : decode jdk_43_method_37_code 35 = .ok (.ifCond .ne 6, 3) := by decide +kernel
theorem own_inw2_d38 : decode jdk_43_method_37_code 38 = .ok (.goto 9, 3) := by decide +kernel
theorem own_inw2_d41 : decode jdk_43_method_37_code 41 = .ok (.iinc 2 1, 3) := by decide +kernel
theorem own_inw2_d44 : decode jdk_43_method_37_code 44 = .ok (.goto (-39), 3) := by decide +kernel
theorem own_inw2_d47 : decode jdk_43_method_37_code 47 = .ok (.iload_n 2, 1) := by decide +kernel
theorem own_inw2_d48 : decode jdk_43_method_37_code 48 = .ok (.ireturn, 1) := by decide +kernel
theorem own_inw2_pn : plainName "java/lang/StringLatin1" = true := by first | (simp [plainName, overriddenIn]; done) | decide +kernel
theorem own_inw2_pd0 : parseMethodDescriptor "([BI)C" = some ⟨[(.array .byte), .int], some .char⟩ := by decide +kernel
theorem own_inw2_pd1 : parseMethodDescriptor "(I)Z" = some ⟨[.int], some .boolean⟩ := by decide +kernel
theorem own_inw2_ef (m : MethodId) (x0 : Addr) : entryFrame m #[(.ref x0)] 4 = mkF m 0 #[.val (.ref x0), .unset, .unset, .unset] [] := by first | (simp [entryFrame, mkF, argsToLocals, Value.category]; done) | rfl
def own_inw2_Q (Z : State) (zc : Int32) (ci : Addr) (ta : Addr) (clt : Cell) (tb : Addr) (kb : ClassId) (x0 : Int32) (x1 : Int32) (h0 : Heap) (n0 : Nat) (vv_ : Option Value) (hh_ : Heap) (LL_ : List Loc) : Prop := ∃ r : Int32, vv_ = some (.int r) ∧ Fr n0 LL_ ∧ hh_ = h0 ∧ (¬ r = (2 : Int32))
set_option maxRecDepth 65536 in
set_option maxHeartbeats 40000000 in
theorem own_inw2 (l : Launch) (Z : State) (a0 : Array Value) (hw : ∀ d ∈ tables_1, d.before a0 Z = true) (ws : List Jvm.Cond) (zc : Int32) (ci : Addr) (ta : Addr) (clt : Cell) (tb : Addr) (kb : ClassId) (x0 : Int32) (x1 : Int32) (h0 : Heap) (n0 : Nat) (Z0 : n0 ≤ h0.size) (hOld : Old Z n0 h0) (Scs : Sta Z Z.heap "java/lang/String" "COMPACT_STRINGS" "Z" (.int zc)) (hzc : ¬ zc = (0 : Int32)) (Sci : Sta Z Z.heap "java/lang/CharacterDataLatin1" "instance" "Ljava/lang/CharacterDataLatin1;" (.ref ci)) (Eci : Exa Z Z.heap ci "java/lang/CharacterDataLatin1") (Sca : Sta Z Z.heap "java/lang/CharacterDataLatin1" "A" "[I" (.ref ta)) (Tab : own_tab Z ta clt) (B : Arv Z h0 tb kb .byte (2 : Int32) [(.int x0.toInt8.toInt32), (.int x1.toInt8.toInt32)] (.int (0 : Int32))) (l_x0 : ¬ x0 < (0 : Int32)) (u_x0 : ¬ (255 : Int32) < x0) (l_x1 : ¬ x1 < (0 : Int32)) (u_x1 : ¬ (255 : Int32) < x1) (kk : own_keep x0 ∨ own_keep x1) :
    MetFree l (⟨"java/lang/StringLatin1", "indexOfNonWhitespace", "([B)I"⟩ : MethodName) (head1 (Jvm.Cond.code (⟨"java/lang/StringLatin1", "indexOfNonWhitespace", "([B)I"⟩ : MethodName) jdk_43_method_37_code 4 (some .int) :: ws) ({ frames := 2, cells := 0, slots := 0, locals := 29 } : Room)) (fun aa_ UU_ => aa_ = #[(.ref tb)] ∧ Z.Warmed39 UU_.vm ∧ UU_.heap = h0) (fun _ _ _ _ _ => True) (fun _ UU_ oo_ UV_ => ∃ vv_ LL_, oo_ = .returned vv_ ∧ own_inw2_Q Z zc ci ta clt tb kb x0 x1 h0 n0 vv_ UV_.heap LL_ ∧ FrameEnd UU_ oo_ UV_ LL_ ({ frames := 2, cells := 0, slots := 0, locals := 29 } : Room).cells ({ frames := 2, cells := 0, slots := 0, locals := 29 } : Room).slots) := by
  refine MetFree.of_bodySF (plainFor_of_name own_inw2_pn) hisR ?_
  intro p e s m args below meth c s₁ Bd hml0 hP hK
  obtain ⟨rfl, hZ, hh⟩ := hP
  have hx := Bd.exec
  have hby := Bd.bytes
  have hml : c.maxLocals = 4 := hml0
  have hown : s.vm.findClass "java/lang/StringLatin1" = some m.cls := findClass_of_methodNamed Bd.named
  have hnm := (name_of_methodNamed Bd.named Bd.method).1
  have X0 : Stand p l e ({ frames := 2, cells := 0, slots := 0, locals := 29 } : Room) s m #[(.ref tb)] below meth c s₁ [] 0 0 := Stand.of_body Bd
  have e0 : s₁.heap = h0 := by rw [← hh, Bd.state]; rfl
  have N0 := Fr.nil n0
  have KP0 : Keep h0 h0 [] := Keep.refl _ _
  refine ownFin (Q := own_inw2_Q Z zc ci ta clt tb kb x0 x1 h0 n0) ?_
  refine ownStep (fun _ k => castTop (own_inw2_ef m tb) k) ?_
  show ownGo p.tables e below (s₁.setTop (mkF m 0 #[.val (.ref tb), .unset, .unset, .unset] [])) _
  refine ownStep (fun _ k => XS.aloadN X0.here hx rfl (hb hby own_inw2_d0) rfl rfl k) ?_
  show ownGo p.tables e below (s₁.setTop (mkF m 1 #[.val (.ref tb), .unset, .unset, .unset] [(.ref tb)])) _
  have Vo1 := B
  obtain ⟨cl1, Ar1, q1, S1, N1, H1, G1⟩ := Vo1
  refine ownStep (X0.arraylength hx (by rw [e0]; exact Ar1.1) (State.isArrayOf_alike hZ.alike Ar1.2.1) (g := (mkF m 1 #[.val (.ref tb), .unset, .unset, .unset] [(.ref tb)])) rfl rfl (hb hby own_inw2_d1)) ?_
  rw [len_of S1 N1]
  refine ownStep (fun _ k => XS.istoreN X0.here hx rfl (hb hby own_inw2_d2) rfl (l' := #[.val (.ref tb), .val (.int (2 : Int32)), .unset, .unset]) rfl k) ?_
  refine ownStep (fun _ k => XS.iconst X0.here hx rfl (hb hby own_inw2_d3) k) ?_
  refine ownStep (fun _ k => XS.istoreN X0.here hx rfl (hb hby own_inw2_d4) rfl (l' := #[.val (.ref tb), .val (.int (2 : Int32)), .val (.int (0 : Int32)), .unset]) rfl k) ?_
  refine ownStep (fun _ k => XS.iloadN X0.here hx rfl (hb hby own_inw2_d5) rfl  k) ?_
  show ownGo p.tables e below (s₁.setTop (mkF m 6 #[.val (.ref tb), .val (.int (2 : Int32)), .val (.int (0 : Int32)), .unset] [(.int (0 : Int32))])) _
  refine ownStep (fun _ k => XS.iloadN X0.here hx rfl (hb hby own_inw2_d6) rfl  k) ?_
  refine ownStep (fun _ k => XS.icmpNo X0.here hx rfl (hb hby own_inw2_d7) rfl (tlt (by decide : (0 : Int32) < (2 : Int32))).2.1 k) ?_
  refine ownStep (fun _ k => XS.aloadN X0.here hx rfl (hb hby own_inw2_d10) rfl rfl k) ?_
  refine ownStep (fun _ k => XS.iloadN X0.here hx rfl (hb hby own_inw2_d11) rfl  k) ?_
  show ownGo p.tables e below (s₁.setTop (mkF m 12 #[.val (.ref tb), .val (.int (2 : Int32)), .val (.int (0 : Int32)), .unset] [(.int (0 : Int32)), (.ref tb)])) _
  have J0 : ∀ (Tj : State) (Lj : List Loc) (Xj : Stand p l e ({ frames := 2, cells := 0, slots := 0, locals := 29 } : Room) s m #[(.ref tb)] below meth c Tj Lj 0 0) (ej : Tj.heap = h0) (Nj : Fr n0 Lj) (hws0 : own_ws clt x0), ownGo p.tables e below (Tj.setTop (mkF m 41 #[.val (.ref tb), .val (.int (2 : Int32)), .val (.int (0 : Int32)), .val (.int x0)] [])) (ownEnd below s (own_inw2_Q Z zc ci ta clt tb kb x0 x1 h0 n0) ({ frames := 2, cells := 0, slots := 0, locals := 29 } : Room).cells ({ frames := 2, cells := 0, slots := 0, locals := 29 } : Room).slots) := by
    intro Tj Lj Xj ej Nj hws0
    refine ownStep (fun _ k => XS.iinc Xj.here hx rfl (hb hby own_inw2_d41) rfl (l' := #[.val (.ref tb), .val (.int (2 : Int32)), .val (.int (1 : Int32)), .val (.int x0)]) rfl k) ?_
    refine ownStep (fun _ k => XS.goto Xj.here hx rfl (pc0 := 44) (pc' := 5) rfl (hb hby own_inw2_d44) (by decide) (by decide) k) ?_
    refine ownStep (fun _ k => XS.iloadN Xj.here hx rfl (hb hby own_inw2_d5) rfl  k) ?_
    refine ownStep (fun _ k => XS.iloadN Xj.here hx rfl (hb hby own_inw2_d6) rfl  k) ?_
    show ownGo p.tables e below (Tj.setTop (mkF m 7 #[.val (.ref tb), .val (.int (2 : Int32)), .val (.int (1 : Int32)), .val (.int x0)] [(.int (2 : Int32)), (.int (1 : Int32))])) _
    refine ownStep (fun _ k => XS.icmpNo Xj.here hx rfl (hb hby own_inw2_d7) rfl (tlt (by decide : (1 : Int32) < (2 : Int32))).2.1 k) ?_
    refine ownStep (fun _ k => XS.aloadN Xj.here hx rfl (hb hby own_inw2_d10) rfl rfl k) ?_
    refine ownStep (fun _ k => XS.iloadN Xj.here hx rfl (hb hby own_inw2_d11) rfl  k) ?_
    show ownGo p.tables e below (Tj.setTop (mkF m 12 #[.val (.ref tb), .val (.int (2 : Int32)), .val (.int (1 : Int32)), .val (.int x0)] [(.int (1 : Int32)), (.ref tb)])) _
    have J1 : ∀ (Tj : State) (Lj : List Loc) (Xj : Stand p l e ({ frames := 2, cells := 0, slots := 0, locals := 29 } : Room) s m #[(.ref tb)] below meth c Tj Lj 0 0) (ej : Tj.heap = h0) (Nj : Fr n0 Lj) (hws1 : own_ws clt x1), ownGo p.tables e below (Tj.setTop (mkF m 41 #[.val (.ref tb), .val (.int (2 : Int32)), .val (.int (1 : Int32)), .val (.int x1)] [])) (ownEnd below s (own_inw2_Q Z zc ci ta clt tb kb x0 x1 h0 n0) ({ frames := 2, cells := 0, slots := 0, locals := 29 } : Room).cells ({ frames := 2, cells := 0, slots := 0, locals := 29 } : Room).slots) := by
      intro Tj Lj Xj ej Nj hws1
      refine ownStep (fun _ k => XS.iinc Xj.here hx rfl (hb hby own_inw2_d41) rfl (l' := #[.val (.ref tb), .val (.int (2 : Int32)), .val (.int (2 : Int32)), .val (.int x1)]) rfl k) ?_
      refine ownStep (fun _ k => XS.goto Xj.here hx rfl (pc0 := 44) (pc' := 5) rfl (hb hby own_inw2_d44) (by decide) (by decide) k) ?_
      refine ownStep (fun _ k => XS.iloadN Xj.here hx rfl (hb hby own_inw2_d5) rfl  k) ?_
      refine ownStep (fun _ k => XS.iloadN Xj.here hx rfl (hb hby own_inw2_d6) rfl  k) ?_
      show ownGo p.tables e below (Tj.setTop (mkF m 7 #[.val (.ref tb), .val (.int (2 : Int32)), .val (.int (2 : Int32)), .val (.int x1)] [(.int (2 : Int32)), (.int (2 : Int32))])) _
      exact absurd kk (own_none2 Tab hws0 hws1)
    show ownGo p.tables e below (Tj.setTop (mkF m 12 #[.val (.ref tb), .val (.int (2 : Int32)), .val (.int (1 : Int32)), .val (.int x0)] [(.int (1 : Int32)), (.ref tb)])) _
    have Zs3 : n0 ≤ h0.size := Nat.le_trans Z0 KP0.1
    obtain ⟨_, _, ⟨T2, L2, k2, n2⟩, -, X2, ⟨Lc2, hQ2, l2, y2, z2⟩, st2⟩ := Jvm.LawKit.callS Xj hx (y := (⟨"java/lang/StringLatin1", "getChar", "([BI)C"⟩ : MethodName)) hown (mvT hZ (hw _ (List.mem_of_getElem? (i := 70) rfl))) (mvT hZ (hw _ (List.mem_of_getElem? (i := 71) rfl))) (mvT hZ (hw _ (List.mem_of_getElem? (i := 39) rfl))) (mvT hZ (hw _ (List.mem_of_getElem? (i := 72) rfl))) (by decide) (backOf (W := 0) (own_gc2_1 l Z a0 hw [] tb kb x0 x1 h0 n0 Zs3 B l_x1 u_x1) hZ (hw _ (List.mem_of_getElem? (i := 72) rfl)) (hw _ (List.mem_of_getElem? (i := 39) rfl)) (by decide) (by decide)) (g := (mkF m 12 #[.val (.ref tb), .val (.int (2 : Int32)), .val (.int (1 : Int32)), .val (.int x0)] [(.int (1 : Int32)), (.ref tb)])) rfl (by rw [hml]; rfl) (argsL := [(.ref tb), (.int (1 : Int32))]) (rest := []) (lenOf own_inw2_pd0 rfl) rfl (by show 2 * 0 + _ ≤ _; exact Nat.le_of_eq rfl) (hb hby own_inw2_d12) (fun _ _ => ⟨rfl, ej, (by decide : 0 + 0 ≤ _), (by decide : 0 + 0 ≤ _)⟩)
    dsimp only [Pt.U, Pt.locs, Pt.cells, Pt.slots] at X2 l2 y2 z2 st2 hQ2
    obtain rfl : k2 = 0 := y2
    obtain rfl : n2 = 0 := z2
    obtain ⟨rfl, N2q, R2⟩ := hQ2
    have N2 : Fr n0 L2 := l2 ▸ Fr.app Nj N2q
    refine ownStep (fun _ k => st2 _ k) ?_
    refine ownStep (fun _ k => XS.istoreN X2.here hx rfl (hb hby own_inw2_d15) rfl (l' := #[.val (.ref tb), .val (.int (2 : Int32)), .val (.int (1 : Int32)), .val (.int x1)]) rfl k) ?_
    refine ownStep (fun _ k => XS.iloadN X2.here hx rfl (hb hby own_inw2_d16) rfl  k) ?_
    refine ownStep (fun _ k => XS.bipush X2.here hx rfl (hb hby own_inw2_d17) k) ?_
    show ownGo p.tables e below (T2.setTop (mkF m 19 #[.val (.ref tb), .val (.int (2 : Int32)), .val (.int (1 : Int32)), .val (.int x1)] [(.int (32 : Int32)), (.int x1)])) _
    by_cases hc19 : x1 = (32 : Int32)
    · skip
      refine ownStep (fun _ k => XS.icmpYes X2.here hx rfl (pc0 := 19) (pc' := 41) rfl (hb hby own_inw2_d19) rfl (teq (hc19 : x1 = (32 : Int32))).1 (by decide) (by decide) k) ?_
      show ownGo p.tables e below (T2.setTop (mkF m 41 #[.val (.ref tb), .val (.int (2 : Int32)), .val (.int (1 : Int32)), .val (.int x1)] [])) _
      exact J1 _ _ X2 R2 N2 (Or.inl hc19)
    · skip
      refine ownStep (fun _ k => XS.icmpNo X2.here hx rfl (hb hby own_inw2_d19) rfl (feq (hc19 : ¬ x1 = (32 : Int32))).1 k) ?_
      refine ownStep (fun _ k => XS.iloadN X2.here hx rfl (hb hby own_inw2_d22) rfl  k) ?_
      refine ownStep (fun _ k => XS.bipush X2.here hx rfl (hb hby own_inw2_d23) k) ?_
      show ownGo p.tables e below (T2.setTop (mkF m 25 #[.val (.ref tb), .val (.int (2 : Int32)), .val (.int (1 : Int32)), .val (.int x1)] [(.int (9 : Int32)), (.int x1)])) _
      by_cases hc25 : x1 = (9 : Int32)
      · skip
        refine ownStep (fun _ k => XS.icmpYes X2.here hx rfl (pc0 := 25) (pc' := 41) rfl (hb hby own_inw2_d25) rfl (teq (hc25 : x1 = (9 : Int32))).1 (by decide) (by decide) k) ?_
        show ownGo p.tables e below (T2.setTop (mkF m 41 #[.val (.ref tb), .val (.int (2 : Int32)), .val (.int (1 : Int32)), .val (.int x1)] [])) _
        exact J1 _ _ X2 R2 N2 (Or.inr (Or.inl hc25))
      · skip
        refine ownStep (fun _ k => XS.icmpNo X2.here hx rfl (hb hby own_inw2_d25) rfl (feq (hc25 : ¬ x1 = (9 : Int32))).1 k) ?_
        show ownGo p.tables e below (T2.setTop (mkF m 28 #[.val (.ref tb), .val (.int (2 : Int32)), .val (.int (1 : Int32)), .val (.int x1)] [])) _
        have Q4 : Sta Z h0 "java/lang/CharacterDataLatin1" "instance" "Ljava/lang/CharacterDataLatin1;" (.ref ci) := Sci.ext hOld.2
        obtain ⟨T5, X5, e5, st5⟩ := getS2 X2 hx hZ hown (host := "") (Or.inl (hw _ (List.mem_of_getElem? (i := 73) rfl))) Via.refl R2 Q4 (g := (mkF m 28 #[.val (.ref tb), .val (.int (2 : Int32)), .val (.int (1 : Int32)), .val (.int x1)] [])) rfl (hb hby own_inw2_d28)
        refine ownStep st5 ?_
        refine ownStep (fun _ k => XS.iloadN X5.here hx rfl (hb hby own_inw2_d31) rfl  k) ?_
        show ownGo p.tables e below (T5.setTop (mkF m 32 #[.val (.ref tb), .val (.int (2 : Int32)), .val (.int (1 : Int32)), .val (.int x1)] [(.int x1), (.ref ci)])) _
        have Q6 : Exa Z h0 ci "java/lang/CharacterDataLatin1" := Eci.ext hOld.2
        have Zs8 : n0 ≤ h0.size := Nat.le_trans Z0 KP0.1
        obtain ⟨cq7, kq7, q7a, q7b, q7c⟩ := isOf hZ e5 Q6
        obtain ⟨_, _, ⟨T7, L7, k7, n7⟩, -, X7, ⟨Lc7, hQ7, l7, y7, z7⟩, st7⟩ := X5.virtualBack hx (y := (⟨"java/lang/CharacterDataLatin1", "isWhitespace", "(I)Z"⟩ : MethodName)) (z := (⟨"java/lang/CharacterDataLatin1", "isWhitespace", "(I)Z"⟩ : MethodName)) hown (mvT hZ (hw _ (List.mem_of_getElem? (i := 75) rfl))) (mvT hZ (hw _ (List.mem_of_getElem? (i := 76) rfl))) (notFace_of_selects (args := #[]) (mvT hZ (hw _ (List.mem_of_getElem? (i := 78) rfl)))) (mvT hZ (hw _ (List.mem_of_getElem? (i := 78) rfl))) (mvT hZ (hw _ (List.mem_of_getElem? (i := 77) rfl))) (by decide) (backOf (W := 0) (own_iw l Z a0 hw [] ci ta clt ci x1 h0 n0 Zs8 hOld Q6 Sci Eci Sca Tab l_x1 u_x1) hZ (hw _ (List.mem_of_getElem? (i := 79) rfl)) (hw _ (List.mem_of_getElem? (i := 74) rfl)) (by decide) (by decide)) q7a q7c (g := (mkF m 32 #[.val (.ref tb), .val (.int (2 : Int32)), .val (.int (1 : Int32)), .val (.int x1)] [(.int x1), (.ref ci)])) rfl (by rw [hml]; rfl) (Steps.refl _) (argsL := [(.int x1)]) (rest := []) (lenOf own_inw2_pd1 rfl) rfl (by show 2 * 0 + _ ≤ _; exact Nat.le_of_eq rfl) (hb hby own_inw2_d32) (fun _ _ => ⟨rfl, e5, (by decide : 0 + 0 ≤ _), (by decide : 0 + 0 ≤ _)⟩)
        dsimp only [Pt.U, Pt.locs, Pt.cells, Pt.slots] at X7 l7 y7 z7 st7 hQ7
        obtain rfl : k7 = 0 := y7
        obtain rfl : n7 = 0 := z7
        obtain ⟨r_7, rfl, N7q, R7, P9⟩ := hQ7
        have N7 : Fr n0 L7 := l7 ▸ Fr.app N2 N7q
        refine ownStep (fun _ k => st7.trans k) ?_
        show ownGo p.tables e below (T7.setTop (mkF m 35 #[.val (.ref tb), .val (.int (2 : Int32)), .val (.int (1 : Int32)), .val (.int x1)] [(.int r_7)])) _
        by_cases hc35 : r_7 = (0 : Int32)
        · skip
          refine ownStep (fun _ k => XS.ifNo X7.here hx rfl (hb hby own_inw2_d35) rfl ((if0 _ _).trans (teq (hc35 : r_7 = (0 : Int32))).2) k) ?_
          refine ownStep (fun _ k => XS.goto X7.here hx rfl (pc0 := 38) (pc' := 47) rfl (hb hby own_inw2_d38) (by decide) (by decide) k) ?_
          refine ownStep (fun _ k => XS.iloadN X7.here hx rfl (hb hby own_inw2_d47) rfl  k) ?_
          show ownGo p.tables e below (T7.setTop (mkF m 48 #[.val (.ref tb), .val (.int (2 : Int32)), .val (.int (1 : Int32)), .val (.int x1)] [(.int (1 : Int32))])) _
          exact ownRet X7 (v := some (.int (1 : Int32))) Bd.notSynchronized (fun h => by rw [Bd.returns] at h; cases h) (fun _ hr => retI X7 hx Bd.returns (hb hby own_inw2_d48) hr) (by rw [R7]; exact ⟨(1 : Int32), rfl, N7, rfl, (by decide)⟩) (by decide) (by decide)
        · skip
          refine ownStep (fun _ k => XS.ifYes X7.here hx rfl (pc0 := 35) (pc' := 41) rfl (hb hby own_inw2_d35) rfl ((if0 _ _).trans (feq (hc35 : ¬ r_7 = (0 : Int32))).2) (by decide) (by decide) k) ?_
          show ownGo p.tables e below (T7.setTop (mkF m 41 #[.val (.ref tb), .val (.int (2 : Int32)), .val (.int (1 : Int32)), .val (.int x1)] [])) _
          exact J1 _ _ X7 R7 N7 (Or.inr (Or.inr (own_wsr P9 hc35)))
  show ownGo p.tables e below (s₁.setTop (mkF m 12 #[.val (.ref tb), .val (.int (2 : Int32)), .val (.int (0 : Int32)), .unset] [(.int (0 : Int32)), (.ref tb)])) _
  have Zs11 : n0 ≤ h0.size := Nat.le_trans Z0 KP0.1
  obtain ⟨_, _, ⟨T10, L10, k10, n10⟩, -, X10, ⟨Lc10, hQ10, l10, y10, z10⟩, st10⟩ := Jvm.LawKit.callS X0 hx (y := (⟨"java/lang/StringLatin1", "getChar", "([BI)C"⟩ : MethodName)) hown (mvT hZ (hw _ (List.mem_of_getElem? (i := 70) rfl))) (mvT hZ (hw _ (List.mem_of_getElem? (i := 71) rfl))) (mvT hZ (hw _ (List.mem_of_getElem? (i := 39) rfl))) (mvT hZ (hw _ (List.mem_of_getElem? (i := 72) rfl))) (by decide) (backOf (W := 0) (own_gc2_0 l Z a0 hw [] tb kb x0 x1 h0 n0 Zs11 B l_x0 u_x0) hZ (hw _ (List.mem_of_getElem? (i := 72) rfl)) (hw _ (List.mem_of_getElem? (i := 39) rfl)) (by decide) (by decide)) (g := (mkF m 12 #[.val (.ref tb), .val (.int (2 : Int32)), .val (.int (0 : Int32)), .unset] [(.int (0 : Int32)), (.ref tb)])) rfl (by rw [hml]; rfl) (argsL := [(.ref tb), (.int (0 : Int32))]) (rest := []) (lenOf own_inw2_pd0 rfl) rfl (by show 2 * 0 + _ ≤ _; exact Nat.le_of_eq rfl) (hb hby own_inw2_d12) (fun _ _ => ⟨rfl, e0, (by decide : 0 + 0 ≤ _), (by decide : 0 + 0 ≤ _)⟩)
  dsimp only [Pt.U, Pt.locs, Pt.cells, Pt.slots] at X10 l10 y10 z10 st10 hQ10
  obtain rfl : k10 = 0 := y10
  obtain rfl : n10 = 0 := z10
  obtain ⟨rfl, N10q, R10⟩ := hQ10
  have N10 : Fr n0 L10 := l10 ▸ Fr.app N0 N10q
  refine ownStep (fun _ k => st10 _ k) ?_
  refine ownStep (fun _ k => XS.istoreN X10.here hx rfl (hb hby own_inw2_d15) rfl (l' := #[.val (.ref tb), .val (.int (2 : Int32)), .val (.int (0 : Int32)), .val (.int x0)]) rfl k) ?_
  refine ownStep (fun _ k => XS.iloadN X10.here hx rfl (hb hby own_inw2_d16) rfl  k) ?_
  refine ownStep (fun _ k => XS.bipush X10.here hx rfl (hb hby own_inw2_d17) k) ?_
  show ownGo p.tables e below (T10.setTop (mkF m 19 #[.val (.ref tb), .val (.int (2 : Int32)), .val (.int (0 : Int32)), .val (.int x0)] [(.int (32 : Int32)), (.int x0)])) _
  by_cases hc19 : x0 = (32 : Int32)
  · skip
    refine ownStep (fun _ k => XS.icmpYes X10.here hx rfl (pc0 := 19) (pc' := 41) rfl (hb hby own_inw2_d19) rfl (teq (hc19 : x0 = (32 : Int32))).1 (by decide) (by decide) k) ?_
    show ownGo p.tables e below (T10.setTop (mkF m 41 #[.val (.ref tb), .val (.int (2 : Int32)), .val (.int (0 : Int32)), .val (.int x0)] [])) _
    exact J0 _ _ X10 R10 N10 (Or.inl hc19)
  · skip
    refine ownStep (fun _ k => XS.icmpNo X10.here hx rfl (hb hby own_inw2_d19) rfl (feq (hc19 : ¬ x0 = (32 : Int32))).1 k) ?_
    refine ownStep (fun _ k => XS.iloadN X10.here hx rfl (hb hby own_inw2_d22) rfl  k) ?_
    refine ownStep (fun _ k => XS.bipush X10.here hx rfl (hb hby own_inw2_d23) k) ?_
    show ownGo p.tables e below (T10.setTop (mkF m 25 #[.val (.ref tb), .val (.int (2 : Int32)), .val (.int (0 : Int32)), .val (.int x0)] [(.int (9 : Int32)), (.int x0)])) _
    by_cases hc25 : x0 = (9 : Int32)
    · skip
      refine ownStep (fun _ k => XS.icmpYes X10.here hx rfl (pc0 := 25) (pc' := 41) rfl (hb hby own_inw2_d25) rfl (teq (hc25 : x0 = (9 : Int32))).1 (by decide) (by decide) k) ?_
      show ownGo p.tables e below (T10.setTop (mkF m 41 #[.val (.ref tb), .val (.int (2 : Int32)), .val (.int (0 : Int32)), .val (.int x0)] [])) _
      exact J0 _ _ X10 R10 N10 (Or.inr (Or.inl hc25))
    · skip
      refine ownStep (fun _ k => XS.icmpNo X10.here hx rfl (hb hby own_inw2_d25) rfl (feq (hc25 : ¬ x0 = (9 : Int32))).1 k) ?_
      show ownGo p.tables e below (T10.setTop (mkF m 28 #[.val (.ref tb), .val (.int (2 : Int32)), .val (.int (0 : Int32)), .val (.int x0)] [])) _
      have Q12 : Sta Z h0 "java/lang/CharacterDataLatin1" "instance" "Ljava/lang/CharacterDataLatin1;" (.ref ci) := Sci.ext hOld.2
      obtain ⟨T13, X13, e13, st13⟩ := getS2 X10 hx hZ hown (host := "") (Or.inl (hw _ (List.mem_of_getElem? (i := 73) rfl))) Via.refl R10 Q12 (g := (mkF m 28 #[.val (.ref tb), .val (.int (2 : Int32)), .val (.int (0 : Int32)), .val (.int x0)] [])) rfl (hb hby own_inw2_d28)
      refine ownStep st13 ?_
      refine ownStep (fun _ k => XS.iloadN X13.here hx rfl (hb hby own_inw2_d31) rfl  k) ?_
      show ownGo p.tables e below (T13.setTop (mkF m 32 #[.val (.ref tb), .val (.int (2 : Int32)), .val (.int (0 : Int32)), .val (.int x0)] [(.int x0), (.ref ci)])) _
      have Q14 : Exa Z h0 ci "java/lang/CharacterDataLatin1" := Eci.ext hOld.2
      have Zs16 : n0 ≤ h0.size := Nat.le_trans Z0 KP0.1
      obtain ⟨cq15, kq15, q15a, q15b, q15c⟩ := isOf hZ e13 Q14
      obtain ⟨_, _, ⟨T15, L15, k15, n15⟩, -, X15, ⟨Lc15, hQ15, l15, y15, z15⟩, st15⟩ := X13.virtualBack hx (y := (⟨"java/lang/CharacterDataLatin1", "isWhitespace", "(I)Z"⟩ : MethodName)) (z := (⟨"java/lang/CharacterDataLatin1", "isWhitespace", "(I)Z"⟩ : MethodName)) hown (mvT hZ (hw _ (List.mem_of_getElem? (i := 75) rfl))) (mvT hZ (hw _ (List.mem_of_getElem? (i := 76) rfl))) (notFace_of_selects (args := #[]) (mvT hZ (hw _ (List.mem_of_getElem? (i := 78) rfl)))) (mvT hZ (hw _ (List.mem_of_getElem? (i := 78) rfl))) (mvT hZ (hw _ (List.mem_of_getElem? (i := 77) rfl))) (by decide) (backOf (W := 0) (own_iw l Z a0 hw [] ci ta clt ci x0 h0 n0 Zs16 hOld Q14 Sci Eci Sca Tab l_x0 u_x0) hZ (hw _ (List.mem_of_getElem? (i := 79) rfl)) (hw _ (List.mem_of_getElem? (i := 74) rfl)) (by decide) (by decide)) q15a q15c (g := (mkF m 32 #[.val (.ref tb), .val (.int (2 : Int32)), .val (.int (0 : Int32)), .val (.int x0)] [(.int x0), (.ref ci)])) rfl (by rw [hml]; rfl) (Steps.refl _) (argsL := [(.int x0)]) (rest := []) (lenOf own_inw2_pd1 rfl) rfl (by show 2 * 0 + _ ≤ _; exact Nat.le_of_eq rfl) (hb hby own_inw2_d32) (fun _ _ => ⟨rfl, e13, (by decide : 0 + 0 ≤ _), (by decide : 0 + 0 ≤ _)⟩)
      dsimp only [Pt.U, Pt.locs, Pt.cells, Pt.slots] at X15 l15 y15 z15 st15 hQ15
      obtain rfl : k15 = 0 := y15
      obtain rfl : n15 = 0 := z15
      obtain ⟨r_15, rfl, N15q, R15, P17⟩ := hQ15
      have N15 : Fr n0 L15 := l15 ▸ Fr.app N10 N15q
      refine ownStep (fun _ k => st15.trans k) ?_
      show ownGo p.tables e below (T15.setTop (mkF m 35 #[.val (.ref tb), .val (.int (2 : Int32)), .val (.int (0 : Int32)), .val (.int x0)] [(.int r_15)])) _
      by_cases hc35 : r_15 = (0 : Int32)
      · skip
        refine ownStep (fun _ k => XS.ifNo X15.here hx rfl (hb hby own_inw2_d35) rfl ((if0 _ _).trans (teq (hc35 : r_15 = (0 : Int32))).2) k) ?_
        refine ownStep (fun _ k => XS.goto X15.here hx rfl (pc0 := 38) (pc' := 47) rfl (hb hby own_inw2_d38) (by decide) (by decide) k) ?_
        refine ownStep (fun _ k => XS.iloadN X15.here hx rfl (hb hby own_inw2_d47) rfl  k) ?_
        show ownGo p.tables e below (T15.setTop (mkF m 48 #[.val (.ref tb), .val (.int (2 : Int32)), .val (.int (0 : Int32)), .val (.int x0)] [(.int (0 : Int32))])) _
        exact ownRet X15 (v := some (.int (0 : Int32))) Bd.notSynchronized (fun h => by rw [Bd.returns] at h; cases h) (fun _ hr => retI X15 hx Bd.returns (hb hby own_inw2_d48) hr) (by rw [R15]; exact ⟨(0 : Int32), rfl, N15, rfl, (by decide)⟩) (by decide) (by decide)
      · skip
        refine ownStep (fun _ k => XS.ifYes X15.here hx rfl (pc0 := 35) (pc' := 41) rfl (hb hby own_inw2_d35) rfl ((if0 _ _).trans (feq (hc35 : ¬ r_15 = (0 : Int32))).2) (by decide) (by decide) k) ?_
        show ownGo p.tables e below (T15.setTop (mkF m 41 #[.val (.ref tb), .val (.int (2 : Int32)), .val (.int (0 : Int32)), .val (.int x0)] [])) _
        exact J0 _ _ X15 R15 N15 (Or.inr (Or.inr (own_wsr P17 hc35)))
theorem own_sinw2_d0 : decode jdk_42_method_120_code 0 = .ok (.aload_n 0, 1) := by decide +kernel
theorem own_sinw2_d1 : decode jdk_42_method_120_code 1 = .ok (.invokevirtual 492, 3) := by decide +kernel
theorem own_sinw2_d4 : decode jdk_42_method_120_code 4 = .ok (.ifCond .eq 13, 3) := by decide +kernel
theorem own_sinw2_d7 : decode jdk_42_method_120_code 7 = .ok (.aload_n 0, 1) := by decide +kernel
theorem own_sinw2_d8 : decode jdk_42_method_120_code 8 = .ok (.getfield 9, 3) := by decide +kernel
theorem own_sinw2_d11 : decode jdk_42_method_120_code 11 = .ok (.invokestatic 924, 3) := by decide +kernel
theorem own_sinw2_d14 : decode jdk_42_method_120_code 14 = .ok (.goto 10, 3) := by decide +kernel
theorem own_sinw2_d24 : decode jdk_42_method_120_code 24 = .ok (.ireturn, 1) := by decide +kernel
theorem own_sinw2_pn : plainName "java/lang/String" = true := by first | (simp [plainName, overriddenIn]; done) | decide +kernel
theorem own_sinw2_pd0 : parseMethodDescriptor "()Z" = some ⟨[], some .boolean⟩ := by decide +kernel
theorem own_sinw2_pd1 : parseMethodDescriptor "([B)I" = some ⟨[(.array .byte)], some .int⟩ := by decide +kernel
theorem own_sinw2_ef (m : MethodId) (x0 : Addr) : entryFrame m #[(.ref x0)] 1 = mkF m 0 #[.val (.ref x0)] [] := by first | (simp [entryFrame, mkF, argsToLocals, Value.category]; done) | rfl
def own_sinw2_Q (Z : State) (zc : Int32) (ci : Addr) (ta : Addr) (clt : Cell) (a : Addr) (tb : Addr) (kb : ClassId) (x0 : Int32) (x1 : Int32) (h0 : Heap) (n0 : Nat) (vv_ : Option Value) (hh_ : Heap) (LL_ : List Loc) : Prop := ∃ r : Int32, vv_ = some (.int r) ∧ Fr n0 LL_ ∧ hh_ = h0 ∧ (¬ r = (2 : Int32))
set_option maxRecDepth 65536 in
set_option maxHeartbeats 40000000 in
theorem own_sinw2 (l : Launch) (Z : State) (a0 : Array Value) (hw : ∀ d ∈ tables_1, d.before a0 Z = true) (ws : List Jvm.Cond) (zc : Int32) (ci : Addr) (ta : Addr) (clt : Cell) (a : Addr) (tb : Addr) (kb : ClassId) (x0 : Int32) (x1 : Int32) (h0 : Heap) (n0 : Nat) (Z0 : n0 ≤ h0.size) (hOld : Old Z n0 h0) (Scs : Sta Z Z.heap "java/lang/String" "COMPACT_STRINGS" "Z" (.int zc)) (hzc : ¬ zc = (0 : Int32)) (Sci : Sta Z Z.heap "java/lang/CharacterDataLatin1" "instance" "Ljava/lang/CharacterDataLatin1;" (.ref ci)) (Eci : Exa Z Z.heap ci "java/lang/CharacterDataLatin1") (Sca : Sta Z Z.heap "java/lang/CharacterDataLatin1" "A" "[I" (.ref ta)) (Tab : own_tab Z ta clt) (E : Exa Z h0 a "java/lang/String") (C : Fld Z h0 a "java/lang/String" "coder" "B" (.int (0 : Int32))) (Vl : Fld Z h0 a "java/lang/String" "value" "[B" (.ref tb)) (B : Arv Z h0 tb kb .byte (2 : Int32) [(.int x0.toInt8.toInt32), (.int x1.toInt8.toInt32)] (.int (0 : Int32))) (l_x0 : ¬ x0 < (0 : Int32)) (u_x0 : ¬ (255 : Int32) < x0) (l_x1 : ¬ x1 < (0 : Int32)) (u_x1 : ¬ (255 : Int32) < x1) (kk : own_keep x0 ∨ own_keep x1) :
    MetFree l (⟨"java/lang/String", "indexOfNonWhitespace", "()I"⟩ : MethodName) (head1 (Jvm.Cond.code (⟨"java/lang/String", "indexOfNonWhitespace", "()I"⟩ : MethodName) jdk_42_method_120_code 1 (some .int) :: ws) ({ frames := 3, cells := 0, slots := 0, locals := 44 } : Room)) (fun aa_ UU_ => aa_ = #[(.ref a)] ∧ Z.Warmed39 UU_.vm ∧ UU_.heap = h0) (fun _ _ _ _ _ => True) (fun _ UU_ oo_ UV_ => ∃ vv_ LL_, oo_ = .returned vv_ ∧ own_sinw2_Q Z zc ci ta clt a tb kb x0 x1 h0 n0 vv_ UV_.heap LL_ ∧ FrameEnd UU_ oo_ UV_ LL_ ({ frames := 3, cells := 0, slots := 0, locals := 44 } : Room).cells ({ frames := 3, cells := 0, slots := 0, locals := 44 } : Room).slots) := by
  refine MetFree.of_bodySF (plainFor_of_name own_sinw2_pn) hisR ?_
  intro p e s m args below meth c s₁ Bd hml0 hP hK
  obtain ⟨rfl, hZ, hh⟩ := hP
  have hx := Bd.exec
  have hby := Bd.bytes
  have hml : c.maxLocals = 1 := hml0
  have hown : s.vm.findClass "java/lang/String" = some m.cls := findClass_of_methodNamed Bd.named
  have hnm := (name_of_methodNamed Bd.named Bd.method).1
  have X0 : Stand p l e ({ frames := 3, cells := 0, slots := 0, locals := 44 } : Room) s m #[(.ref a)] below meth c s₁ [] 0 0 := Stand.of_body Bd
  have e0 : s₁.heap = h0 := by rw [← hh, Bd.state]; rfl
  have N0 := Fr.nil n0
  have KP0 : Keep h0 h0 [] := Keep.refl _ _
  refine ownFin (Q := own_sinw2_Q Z zc ci ta clt a tb kb x0 x1 h0 n0) ?_
  refine ownStep (fun _ k => castTop (own_sinw2_ef m a) k) ?_
  show ownGo p.tables e below (s₁.setTop (mkF m 0 #[.val (.ref a)] [])) _
  refine ownStep (fun _ k => XS.aloadN X0.here hx rfl (hb hby own_sinw2_d0) rfl rfl k) ?_
  show ownGo p.tables e below (s₁.setTop (mkF m 1 #[.val (.ref a)] [(.ref a)])) _
  have Zs2 : n0 ≤ h0.size := Nat.le_trans Z0 KP0.1
  obtain ⟨cq1, kq1, q1a, q1b, q1c⟩ := isOf hZ e0 E
  obtain ⟨_, _, ⟨T1, L1, k1, n1⟩, -, X1, ⟨Lc1, hQ1, l1, y1, z1⟩, st1⟩ := X0.virtualBack hx (y := (⟨"java/lang/String", "isLatin1", "()Z"⟩ : MethodName)) (z := (⟨"java/lang/String", "isLatin1", "()Z"⟩ : MethodName)) hown (mvT hZ (hw _ (List.mem_of_getElem? (i := 62) rfl))) (mvT hZ (hw _ (List.mem_of_getElem? (i := 63) rfl))) (notFace_of_selects (args := #[]) (mvT hZ (hw _ (List.mem_of_getElem? (i := 65) rfl)))) (mvT hZ (hw _ (List.mem_of_getElem? (i := 65) rfl))) (mvT hZ (hw _ (List.mem_of_getElem? (i := 64) rfl))) (by decide) (backOf (W := 0) (own_isl l Z a0 hw [] zc a h0 n0 Zs2 hOld Scs hzc C) hZ (hw _ (List.mem_of_getElem? (i := 66) rfl)) (hw _ (List.mem_of_getElem? (i := 6) rfl)) (by decide) (by decide)) q1a q1c (g := (mkF m 1 #[.val (.ref a)] [(.ref a)])) rfl (by rw [hml]; rfl) (Steps.refl _) (argsL := []) (rest := []) (lenOf own_sinw2_pd0 rfl) rfl (by show 2 * 0 + _ ≤ _; exact Nat.le_of_eq rfl) (hb hby own_sinw2_d1) (fun _ _ => ⟨rfl, e0, (by decide : 0 + 0 ≤ _), (by decide : 0 + 0 ≤ _)⟩)
  dsimp only [Pt.U, Pt.locs, Pt.cells, Pt.slots] at X1 l1 y1 z1 st1 hQ1
  obtain rfl : k1 = 0 := y1
  obtain rfl : n1 = 0 := z1
  obtain ⟨rfl, N1q, R1⟩ := hQ1
  have N1 : Fr n0 L1 := l1 ▸ Fr.app N0 N1q
  refine ownStep (fun _ k => st1.trans k) ?_
  refine ownStep (fun _ k => XS.ifNo X1.here hx rfl (hb hby own_sinw2_d4) rfl ((if0 _ _).trans (feq (by decide : ¬ (1 : Int32) = (0 : Int32))).1) k) ?_
  refine ownStep (fun _ k => XS.aloadN X1.here hx rfl (hb hby own_sinw2_d7) rfl rfl k) ?_
  show ownGo p.tables e below (T1.setTop (mkF m 8 #[.val (.ref a)] [(.ref a)])) _
  obtain ⟨T3, X3, e3, st3⟩ := getF X1 hx hZ hown (host := "") (Or.inl (hw _ (List.mem_of_getElem? (i := 32) rfl))) Via.refl R1 Vl (g := (mkF m 8 #[.val (.ref a)] [(.ref a)])) rfl rfl (hb hby own_sinw2_d8)
  refine ownStep st3 ?_
  show ownGo p.tables e below (T3.setTop (mkF m 11 #[.val (.ref a)] [(.ref tb)])) _
  have Zs5 : n0 ≤ h0.size := Nat.le_trans Z0 KP0.1
  obtain ⟨_, _, ⟨T4, L4, k4, n4⟩, -, X4, ⟨Lc4, hQ4, l4, y4, z4⟩, st4⟩ := Jvm.LawKit.callS X3 hx (y := (⟨"java/lang/StringLatin1", "indexOfNonWhitespace", "([B)I"⟩ : MethodName)) hown (mvT hZ (hw _ (List.mem_of_getElem? (i := 67) rfl))) (mvT hZ (hw _ (List.mem_of_getElem? (i := 68) rfl))) (mvT hZ (hw _ (List.mem_of_getElem? (i := 39) rfl))) (mvT hZ (hw _ (List.mem_of_getElem? (i := 69) rfl))) (by decide) (backOf (W := 0) (own_inw2 l Z a0 hw [] zc ci ta clt tb kb x0 x1 h0 n0 Zs5 hOld Scs hzc Sci Eci Sca Tab B l_x0 u_x0 l_x1 u_x1 kk) hZ (hw _ (List.mem_of_getElem? (i := 69) rfl)) (hw _ (List.mem_of_getElem? (i := 39) rfl)) (by decide) (by decide)) (g := (mkF m 11 #[.val (.ref a)] [(.ref tb)])) rfl (by rw [hml]; rfl) (argsL := [(.ref tb)]) (rest := []) (lenOf own_sinw2_pd1 rfl) rfl (by show 2 * 0 + _ ≤ _; exact Nat.le_of_eq rfl) (hb hby own_sinw2_d11) (fun _ _ => ⟨rfl, e3, (by decide : 0 + 0 ≤ _), (by decide : 0 + 0 ≤ _)⟩)
  dsimp only [Pt.U, Pt.locs, Pt.cells, Pt.slots] at X4 l4 y4 z4 st4 hQ4
  obtain rfl : k4 = 0 := y4
  obtain rfl : n4 = 0 := z4
  obtain ⟨r_4, rfl, N4q, R4, P6⟩ := hQ4
  have N4 : Fr n0 L4 := l4 ▸ Fr.app N1 N4q
  refine ownStep (fun _ k => st4 _ k) ?_
  refine ownStep (fun _ k => XS.goto X4.here hx rfl (pc0 := 14) (pc' := 24) rfl (hb hby own_sinw2_d14) (by decide) (by decide) k) ?_
  show ownGo p.tables e below (T4.setTop (mkF m 24 #[.val (.ref a)] [(.int r_4)])) _
  exact ownRet X4 (v := some (.int r_4)) Bd.notSynchronized (fun h => by rw [Bd.returns] at h; cases h) (fun _ hr => retI X4 hx Bd.returns (hb hby own_sinw2_d24) hr) (by rw [R4]; exact ⟨r_4, rfl, N4, rfl, P6⟩) (by decide) (by decide)
theorem own_blank2_d0 : decode jdk_42_method_117_code 0 = .ok (.aload_n 0, 1) := by decide +kernel
theorem own_blank2_d1 : decode jdk_42_method_117_code 1 = .ok (.invokevirtual 876, 3) := by decide +kernel
theorem own_blank2_d4 : decode jdk_42_method_117_code 4 = .ok (.aload_n 0, 1) := by decide +kernel
theorem own_blank2_d5 : decode jdk_42_method_117_code 5 = .ok (.invokevirtual 505, 3) := by decide +kernel
theorem own_blank2_d8 : decode jdk_42_method_117_code 8 = .ok (.if_icmp .ne 7, 3) := by decide +kernel
theorem own_blank2_d15 : decode jdk_42_method_117_code 15 = .ok (.iconst 0, 1) := by decide +kernel
theorem own_blank2_d16 : decode jdk_42_method_117_code 16 = .ok (.ireturn, 1) := by decide +kernel
theorem own_blank2_pn : plainName "java/lang/String" = true := by first | (simp [plainName, overriddenIn]; done) | decide +kernel
theorem own_blank2_pd0 : parseMethodDescriptor "()I" = some ⟨[], some .int⟩ := by decide +kernel
theorem own_blank2_ef (m : MethodId) (x0 : Addr) : entryFrame m #[(.ref x0)] 1 = mkF m 0 #[.val (.ref x0)] [] := by first | (simp [entryFrame, mkF, argsToLocals, Value.category]; done) | rfl
def own_blank2_Q (Z : State) (zc : Int32) (ci : Addr) (ta : Addr) (clt : Cell) (a : Addr) (tb : Addr) (kb : ClassId) (x0 : Int32) (x1 : Int32) (h0 : Heap) (n0 : Nat) (vv_ : Option Value) (hh_ : Heap) (LL_ : List Loc) : Prop := vv_ = some (.int (0 : Int32)) ∧ Fr n0 LL_ ∧ hh_ = h0
set_option maxRecDepth 65536 in
set_option maxHeartbeats 40000000 in
theorem own_blank2 (l : Launch) (Z : State) (a0 : Array Value) (hw : ∀ d ∈ tables_1, d.before a0 Z = true) (ws : List Jvm.Cond) (zc : Int32) (ci : Addr) (ta : Addr) (clt : Cell) (a : Addr) (tb : Addr) (kb : ClassId) (x0 : Int32) (x1 : Int32) (h0 : Heap) (n0 : Nat) (Z0 : n0 ≤ h0.size) (hOld : Old Z n0 h0) (Scs : Sta Z Z.heap "java/lang/String" "COMPACT_STRINGS" "Z" (.int zc)) (hzc : ¬ zc = (0 : Int32)) (Sci : Sta Z Z.heap "java/lang/CharacterDataLatin1" "instance" "Ljava/lang/CharacterDataLatin1;" (.ref ci)) (Eci : Exa Z Z.heap ci "java/lang/CharacterDataLatin1") (Sca : Sta Z Z.heap "java/lang/CharacterDataLatin1" "A" "[I" (.ref ta)) (Tab : own_tab Z ta clt) (E : Exa Z h0 a "java/lang/String") (C : Fld Z h0 a "java/lang/String" "coder" "B" (.int (0 : Int32))) (Vl : Fld Z h0 a "java/lang/String" "value" "[B" (.ref tb)) (B : Arv Z h0 tb kb .byte (2 : Int32) [(.int x0.toInt8.toInt32), (.int x1.toInt8.toInt32)] (.int (0 : Int32))) (l_x0 : ¬ x0 < (0 : Int32)) (u_x0 : ¬ (255 : Int32) < x0) (l_x1 : ¬ x1 < (0 : Int32)) (u_x1 : ¬ (255 : Int32) < x1) (kk : own_keep x0 ∨ own_keep x1) :
    MetFree l (⟨"java/lang/String", "isBlank", "()Z"⟩ : MethodName) (head1 (Jvm.Cond.code (⟨"java/lang/String", "isBlank", "()Z"⟩ : MethodName) jdk_42_method_117_code 1 (some .boolean) :: ws) ({ frames := 4, cells := 0, slots := 0, locals := 56 } : Room)) (fun aa_ UU_ => aa_ = #[(.ref a)] ∧ Z.Warmed39 UU_.vm ∧ UU_.heap = h0) (fun _ _ _ _ _ => True) (fun _ UU_ oo_ UV_ => ∃ vv_ LL_, oo_ = .returned vv_ ∧ own_blank2_Q Z zc ci ta clt a tb kb x0 x1 h0 n0 vv_ UV_.heap LL_ ∧ FrameEnd UU_ oo_ UV_ LL_ ({ frames := 4, cells := 0, slots := 0, locals := 56 } : Room).cells ({ frames := 4, cells := 0, slots := 0, locals := 56 } : Room).slots) := by
  refine MetFree.of_bodySF (plainFor_of_name own_blank2_pn) hisR ?_
  intro p e s m args below meth c s₁ Bd hml0 hP hK
  obtain ⟨rfl, hZ, hh⟩ := hP
  have hx := Bd.exec
  have hby := Bd.bytes
  have hml : c.maxLocals = 1 := hml0
  have hown : s.vm.findClass "java/lang/String" = some m.cls := findClass_of_methodNamed Bd.named
  have hnm := (name_of_methodNamed Bd.named Bd.method).1
  have X0 : Stand p l e ({ frames := 4, cells := 0, slots := 0, locals := 56 } : Room) s m #[(.ref a)] below meth c s₁ [] 0 0 := Stand.of_body Bd
  have e0 : s₁.heap = h0 := by rw [← hh, Bd.state]; rfl
  have N0 := Fr.nil n0
  have KP0 : Keep h0 h0 [] := Keep.refl _ _
  refine ownFin (Q := own_blank2_Q Z zc ci ta clt a tb kb x0 x1 h0 n0) ?_
  refine ownStep (fun _ k => castTop (own_blank2_ef m a) k) ?_
  show ownGo p.tables e below (s₁.setTop (mkF m 0 #[.val (.ref a)] [])) _
  refine ownStep (fun _ k => XS.aloadN X0.here hx rfl (hb hby own_blank2_d0) rfl rfl k) ?_
  show ownGo p.tables e below (s₁.setTop (mkF m 1 #[.val (.ref a)] [(.ref a)])) _
  have Zs2 : n0 ≤ h0.size := Nat.le_trans Z0 KP0.1
  obtain ⟨cq1, q1, q1'⟩ := E.cell
  obtain ⟨_, _, ⟨T1, L1, k1, n1⟩, -, X1, ⟨Lc1, hQ1, l1, y1, z1⟩, st1⟩ := X0.privateBack hx (y := (⟨"java/lang/String", "indexOfNonWhitespace", "()I"⟩ : MethodName)) hown (mvT hZ (hw _ (List.mem_of_getElem? (i := 57) rfl))) (mvT hZ (hw _ (List.mem_of_getElem? (i := 58) rfl))) (mvT hZ (hw _ (List.mem_of_getElem? (i := 60) rfl))) (Cond.privateMethod_at (mvP hZ (hw _ (List.mem_of_getElem? (i := 59) rfl)) (args := #[]))) (mvT hZ (hw _ (List.mem_of_getElem? (i := 61) rfl))) (by decide) (backOf (W := 0) (own_sinw2 l Z a0 hw [] zc ci ta clt a tb kb x0 x1 h0 n0 Zs2 hOld Scs hzc Sci Eci Sca Tab E C Vl B l_x0 u_x0 l_x1 u_x1 kk) hZ (hw _ (List.mem_of_getElem? (i := 61) rfl)) (hw _ (List.mem_of_getElem? (i := 6) rfl)) (by decide) (by decide)) (g := (mkF m 1 #[.val (.ref a)] [(.ref a)])) rfl (by rw [hml]; rfl) (Steps.refl _) (a := a) (by rw [e0]; exact q1) q1' (argsL := []) (rest := []) (lenOf own_blank2_pd0 rfl) rfl (by show 2 * 0 + _ ≤ _; exact Nat.le_of_eq rfl) (hb hby own_blank2_d1) (fun _ _ => ⟨rfl, e0, (by decide : 0 + 0 ≤ _), (by decide : 0 + 0 ≤ _)⟩)
  dsimp only [Pt.U, Pt.locs, Pt.cells, Pt.slots] at X1 l1 y1 z1 st1 hQ1
  obtain rfl : k1 = 0 := y1
  obtain rfl : n1 = 0 := z1
  obtain ⟨r_1, rfl, N1q, R1, P3⟩ := hQ1
  have N1 : Fr n0 L1 := l1 ▸ Fr.app N0 N1q
  refine ownStep (fun _ k => st1.trans k) ?_
  refine ownStep (fun _ k => XS.aloadN X1.here hx rfl (hb hby own_blank2_d4) rfl rfl k) ?_
  show ownGo p.tables e below (T1.setTop (mkF m 5 #[.val (.ref a)] [(.ref a), (.int r_1)])) _
  have Zs5 : n0 ≤ h0.size := Nat.le_trans Z0 KP0.1
  obtain ⟨cq4, kq4, q4a, q4b, q4c⟩ := isOf hZ R1 E
  obtain ⟨_, _, ⟨T4, L4, k4, n4⟩, -, X4, ⟨Lc4, hQ4, l4, y4, z4⟩, st4⟩ := X1.virtualBack hx (y := (⟨"java/lang/String", "length", "()I"⟩ : MethodName)) (z := (⟨"java/lang/String", "length", "()I"⟩ : MethodName)) hown (mvT hZ (hw _ (List.mem_of_getElem? (i := 86) rfl))) (mvT hZ (hw _ (List.mem_of_getElem? (i := 87) rfl))) (notFace_of_selects (args := #[]) (mvT hZ (hw _ (List.mem_of_getElem? (i := 89) rfl)))) (mvT hZ (hw _ (List.mem_of_getElem? (i := 89) rfl))) (mvT hZ (hw _ (List.mem_of_getElem? (i := 88) rfl))) (by decide) (backOf (W := 1) (own_len2 l Z a0 hw [] zc a tb kb x0 x1 h0 n0 Zs5 hOld Scs hzc E C Vl B) hZ (hw _ (List.mem_of_getElem? (i := 90) rfl)) (hw _ (List.mem_of_getElem? (i := 6) rfl)) (by decide) (by decide)) q4a q4c (g := (mkF m 5 #[.val (.ref a)] [(.ref a), (.int r_1)])) rfl (by rw [hml]; rfl) (Steps.refl _) (argsL := []) (rest := [(.int r_1)]) (lenOf own_blank2_pd0 rfl) rfl (by show 2 * 0 + _ ≤ _; exact Nat.le_of_eq rfl) (hb hby own_blank2_d5) (fun _ _ => ⟨rfl, R1, (by decide : 0 + 0 ≤ _), (by decide : 0 + 0 ≤ _)⟩)
  dsimp only [Pt.U, Pt.locs, Pt.cells, Pt.slots] at X4 l4 y4 z4 st4 hQ4
  obtain rfl : k4 = 0 := y4
  obtain rfl : n4 = 0 := z4
  obtain ⟨rfl, N4q, R4⟩ := hQ4
  have N4 : Fr n0 L4 := l4 ▸ Fr.app N1 N4q
  refine ownStep (fun _ k => st4.trans k) ?_
  refine ownStep (fun _ k => XS.icmpYes X4.here hx rfl (pc0 := 8) (pc' := 15) rfl (hb hby own_blank2_d8) rfl (feq (P3 : ¬ r_1 = (2 : Int32))).2 (by decide) (by decide) k) ?_
  refine ownStep (fun _ k => XS.iconst X4.here hx rfl (hb hby own_blank2_d15) k) ?_
  show ownGo p.tables e below (T4.setTop (mkF m 16 #[.val (.ref a)] [(.int (0 : Int32))])) _
  exact ownRet X4 (v := some (.int (0 : Int32))) Bd.notSynchronized (fun h => by rw [Bd.returns] at h; cases h) (fun _ hr => retN X4 hx (t := .boolean) Bd.returns (by simp) (hb hby own_blank2_d16) hr) (by rw [R4]; exact ⟨rfl, N4, rfl⟩) (by decide) (by decide)
theorem own_req2_d0 : decode prog_3_method_2_code 0 = .ok (.aload_n 0, 1) := by decide +kernel
theorem own_req2_d1 : decode prog_3_method_2_code 1 = .ok (.ifnull 10, 3) := by decide +kernel
theorem own_req2_d4 : decode prog_3_method_2_code 4 = .ok (.aload_n 0, 1) := by decide +kernel
theorem own_req2_d5 : decode prog_3_method_2_code 5 = .ok (.invokevirtual 7, 3) := by decide +kernel
theorem own_req2_d8 : decode prog_3_method_2_code 8 = .ok (.ifCond .eq 23, 3) := by decide +kernel
theorem own_req2_d31 : decode prog_3_method_2_code 31 = .ok (.aload_n 0, 1) := by decide +kernel
theorem own_req2_d32 : decode prog_3_method_2_code 32 = .ok (.areturn, 1) := by decide +kernel
theorem own_req2_pn : plainName "com/example/circuline/circuline/circulation/Barcodes" = true := by first | (simp [plainName, overriddenIn]; done) | decide +kernel
theorem own_req2_pd0 : parseMethodDescriptor "()Z" = some ⟨[], some .boolean⟩ := by decide +kernel
theorem own_req2_ef (m : MethodId) (x0 : Addr) (x1 : Addr) (x2 : Addr) : entryFrame m #[(.ref x0), (.ref x1), (.ref x2)] 3 = mkF m 0 #[.val (.ref x0), .val (.ref x1), .val (.ref x2)] [] := by first | (simp [entryFrame, mkF, argsToLocals, Value.category]; done) | rfl
def own_req2_Q (Z : State) (zc : Int32) (ci : Addr) (ta : Addr) (clt : Cell) (a : Addr) (tb : Addr) (kb : ClassId) (x0 : Int32) (x1 : Int32) (fa : Addr) (fb : Addr) (h0 : Heap) (n0 : Nat) (vv_ : Option Value) (hh_ : Heap) (LL_ : List Loc) : Prop := vv_ = some (.ref a) ∧ Fr n0 LL_ ∧ hh_ = h0
set_option maxRecDepth 65536 in
set_option maxHeartbeats 40000000 in
theorem own_req2 (l : Launch) (Z : State) (a0 : Array Value) (hw : ∀ d ∈ tables_1, d.before a0 Z = true) (ws : List Jvm.Cond) (zc : Int32) (ci : Addr) (ta : Addr) (clt : Cell) (a : Addr) (tb : Addr) (kb : ClassId) (x0 : Int32) (x1 : Int32) (fa : Addr) (fb : Addr) (h0 : Heap) (n0 : Nat) (Z0 : n0 ≤ h0.size) (hOld : Old Z n0 h0) (Scs : Sta Z Z.heap "java/lang/String" "COMPACT_STRINGS" "Z" (.int zc)) (hzc : ¬ zc = (0 : Int32)) (Sci : Sta Z Z.heap "java/lang/CharacterDataLatin1" "instance" "Ljava/lang/CharacterDataLatin1;" (.ref ci)) (Eci : Exa Z Z.heap ci "java/lang/CharacterDataLatin1") (Sca : Sta Z Z.heap "java/lang/CharacterDataLatin1" "A" "[I" (.ref ta)) (Tab : own_tab Z ta clt) (E : Exa Z h0 a "java/lang/String") (C : Fld Z h0 a "java/lang/String" "coder" "B" (.int (0 : Int32))) (Vl : Fld Z h0 a "java/lang/String" "value" "[B" (.ref tb)) (B : Arv Z h0 tb kb .byte (2 : Int32) [(.int x0.toInt8.toInt32), (.int x1.toInt8.toInt32)] (.int (0 : Int32))) (l_x0 : ¬ x0 < (0 : Int32)) (u_x0 : ¬ (255 : Int32) < x0) (l_x1 : ¬ x1 < (0 : Int32)) (u_x1 : ¬ (255 : Int32) < x1) (kk : own_keep x0 ∨ own_keep x1) :
    MetFree l (⟨"com/example/circuline/circuline/circulation/Barcodes", "required", "(Ljava/lang/String;Ljava/lang/String;Ljava/lang/String;)Ljava/lang/String;"⟩ : MethodName) (head1 (Jvm.Cond.code (⟨"com/example/circuline/circuline/circulation/Barcodes", "required", "(Ljava/lang/String;Ljava/lang/String;Ljava/lang/String;)Ljava/lang/String;"⟩ : MethodName) prog_3_method_2_code 3 (some (.object "java/lang/String")) :: ws) ({ frames := 5, cells := 0, slots := 0, locals := 68 } : Room)) (fun aa_ UU_ => aa_ = #[(.ref a), (.ref fa), (.ref fb)] ∧ Z.Warmed39 UU_.vm ∧ UU_.heap = h0) (fun _ _ _ _ _ => True) (fun _ UU_ oo_ UV_ => ∃ vv_ LL_, oo_ = .returned vv_ ∧ own_req2_Q Z zc ci ta clt a tb kb x0 x1 fa fb h0 n0 vv_ UV_.heap LL_ ∧ FrameEnd UU_ oo_ UV_ LL_ ({ frames := 5, cells := 0, slots := 0, locals := 68 } : Room).cells ({ frames := 5, cells := 0, slots := 0, locals := 68 } : Room).slots) := by
  refine MetFree.of_bodySF (plainFor_of_name own_req2_pn) hisR ?_
  intro p e s m args below meth c s₁ Bd hml0 hP hK
  obtain ⟨rfl, hZ, hh⟩ := hP
  have hx := Bd.exec
  have hby := Bd.bytes
  have hml : c.maxLocals = 3 := hml0
  have hown : s.vm.findClass "com/example/circuline/circuline/circulation/Barcodes" = some m.cls := findClass_of_methodNamed Bd.named
  have hnm := (name_of_methodNamed Bd.named Bd.method).1
  have X0 : Stand p l e ({ frames := 5, cells := 0, slots := 0, locals := 68 } : Room) s m #[(.ref a), (.ref fa), (.ref fb)] below meth c s₁ [] 0 0 := Stand.of_body Bd
  have e0 : s₁.heap = h0 := by rw [← hh, Bd.state]; rfl
  have N0 := Fr.nil n0
  have KP0 : Keep h0 h0 [] := Keep.refl _ _
  refine ownFin (Q := own_req2_Q Z zc ci ta clt a tb kb x0 x1 fa fb h0 n0) ?_
  refine ownStep (fun _ k => castTop (own_req2_ef m a fa fb) k) ?_
  show ownGo p.tables e below (s₁.setTop (mkF m 0 #[.val (.ref a), .val (.ref fa), .val (.ref fb)] [])) _
  refine ownStep (fun _ k => XS.aloadN X0.here hx rfl (hb hby own_req2_d0) rfl rfl k) ?_
  refine ownStep (fun _ k => XS.ifnullNo X0.here hx rfl (hb hby own_req2_d1) rfl k) ?_
  refine ownStep (fun _ k => XS.aloadN X0.here hx rfl (hb hby own_req2_d4) rfl rfl k) ?_
  show ownGo p.tables e below (s₁.setTop (mkF m 5 #[.val (.ref a), .val (.ref fa), .val (.ref fb)] [(.ref a)])) _
  have Zs2 : n0 ≤ h0.size := Nat.le_trans Z0 KP0.1
  obtain ⟨cq1, kq1, q1a, q1b, q1c⟩ := isOf hZ e0 E
  obtain ⟨_, _, ⟨T1, L1, k1, n1⟩, -, X1, ⟨Lc1, hQ1, l1, y1, z1⟩, st1⟩ := X0.virtualBack hx (y := (⟨"java/lang/String", "isBlank", "()Z"⟩ : MethodName)) (z := (⟨"java/lang/String", "isBlank", "()Z"⟩ : MethodName)) hown (mvT hZ (hw _ (List.mem_of_getElem? (i := 52) rfl))) (mvT hZ (hw _ (List.mem_of_getElem? (i := 53) rfl))) (notFace_of_selects (args := #[]) (mvT hZ (hw _ (List.mem_of_getElem? (i := 55) rfl)))) (mvT hZ (hw _ (List.mem_of_getElem? (i := 55) rfl))) (mvT hZ (hw _ (List.mem_of_getElem? (i := 54) rfl))) (by decide) (backOf (W := 0) (own_blank2 l Z a0 hw [] zc ci ta clt a tb kb x0 x1 h0 n0 Zs2 hOld Scs hzc Sci Eci Sca Tab E C Vl B l_x0 u_x0 l_x1 u_x1 kk) hZ (hw _ (List.mem_of_getElem? (i := 56) rfl)) (hw _ (List.mem_of_getElem? (i := 6) rfl)) (by decide) (by decide)) q1a q1c (g := (mkF m 5 #[.val (.ref a), .val (.ref fa), .val (.ref fb)] [(.ref a)])) rfl (by rw [hml]; rfl) (Steps.refl _) (argsL := []) (rest := []) (lenOf own_req2_pd0 rfl) rfl (by show 2 * 0 + _ ≤ _; exact Nat.le_of_eq rfl) (hb hby own_req2_d5) (fun _ _ => ⟨rfl, e0, (by decide : 0 + 0 ≤ _), (by decide : 0 + 0 ≤ _)⟩)
  dsimp only [Pt.U, Pt.locs, Pt.cells, Pt.slots] at X1 l1 y1 z1 st1 hQ1
  obtain rfl : k1 = 0 := y1
  obtain rfl : n1 = 0 := z1
  obtain ⟨rfl, N1q, R1⟩ := hQ1
  have N1 : Fr n0 L1 := l1 ▸ Fr.app N0 N1q
  refine ownStep (fun _ k => st1.trans k) ?_
  refine ownStep (fun _ k => XS.ifYes X1.here hx rfl (pc0 := 8) (pc' := 31) rfl (hb hby own_req2_d8) rfl ((if0 _ _).trans (teq (by decide : (0 : Int32) = (0 : Int32))).1) (by decide) (by decide) k) ?_
  refine ownStep (fun _ k => XS.aloadN X1.here hx rfl (hb hby own_req2_d31) rfl rfl k) ?_
  show ownGo p.tables e below (T1.setTop (mkF m 32 #[.val (.ref a), .val (.ref fa), .val (.ref fb)] [(.ref a)])) _
  exact ownRet X1 (v := some (.ref a)) Bd.notSynchronized (fun h => by rw [Bd.returns] at h; cases h) (fun _ hr => retOut X1 hx (t := (.object "java/lang/String")) Bd.returns rfl (Or.inr (Or.inr (Or.inr (Or.inr ⟨rfl, rfl, rfl⟩)))) (hb hby own_req2_d32) hr) (by rw [R1]; exact ⟨rfl, N1, rfl⟩) (by decide) (by decide)
theorem own_mk3_d0 : decode method_3_code 0 = .ok (.iload_n 0, 1) := by decide +kernel
theorem own_mk3_d1 : decode method_3_code 1 = .ok (.iconst 1, 1) := by decide +kernel
theorem own_mk3_d2 : decode method_3_code 2 = .ok (.if_icmp .ne 18, 3) := by decide +kernel
theorem own_mk3_d20 : decode method_3_code 20 = .ok (.iload_n 0, 1) := by decide +kernel
theorem own_mk3_d21 : decode method_3_code 21 = .ok (.iconst 2, 1) := by decide +kernel
theorem own_mk3_d22 : decode method_3_code 22 = .ok (.if_icmp .ne 22, 3) := by decide +kernel
theorem own_mk3_d44 : decode method_3_code 44 = .ok (.iload_n 0, 1) := by decide +kernel
theorem own_mk3_d45 : decode method_3_code 45 = .ok (.iconst 3, 1) := by decide +kernel
theorem own_mk3_d46 : decode method_3_code 46 = .ok (.if_icmp .ne 26, 3) := by decide +kernel
theorem own_mk3_d49 : decode method_3_code 49 = .ok (.new 14, 3) := by decide +kernel
theorem own_mk3_d52 : decode method_3_code 52 = .ok (.dup, 1) := by decide +kernel
theorem own_mk3_d53 : decode method_3_code 53 = .ok (.iconst 3, 1) := by decide +kernel
theorem own_mk3_d54 : decode method_3_code 54 = .ok (.newarray .char, 2) := by decide +kernel
theorem own_mk3_d56 : decode method_3_code 56 = .ok (.dup, 1) := by decide +kernel
theorem own_mk3_d57 : decode method_3_code 57 = .ok (.iconst 0, 1) := by decide +kernel
theorem own_mk3_d58 : decode method_3_code 58 = .ok (.iload_n 1, 1) := by decide +kernel
theorem own_mk3_d59 : decode method_3_code 59 = .ok (.castore, 1) := by decide +kernel
theorem own_mk3_d60 : decode method_3_code 60 = .ok (.dup, 1) := by decide +kernel
theorem own_mk3_d61 : decode method_3_code 61 = .ok (.iconst 1, 1) := by decide +kernel
theorem own_mk3_d62 : decode method_3_code 62 = .ok (.iload_n 2, 1) := by decide +kernel
theorem own_mk3_d63 : decode method_3_code 63 = .ok (.castore, 1) := by decide +kernel
theorem own_mk3_d64 : decode method_3_code 64 = .ok (.dup, 1) := by decide +kernel
theorem own_mk3_d65 : decode method_3_code 65 = .ok (.iconst 2, 1) := by decide +kernel
theorem own_mk3_d66 : decode method_3_code 66 = .ok (.iload_n 3, 1) := by decide +kernel
theorem own_mk3_d67 : decode method_3_code 67 = .ok (.castore, 1) := by decide +kernel
theorem own_mk3_d68 : decode method_3_code 68 = .ok (.invokespecial 33, 3) := by decide +kernel
theorem own_mk3_d71 : decode method_3_code 71 = .ok (.areturn, 1) := by decide +kernel
theorem own_mk3_pn : plainName "com/example/circuline/circuline/circulation/BarcodesRequiredPinLaw" = true := by first | (simp [plainName, overriddenIn]; done) | decide +kernel
theorem own_mk3_pd0 : parseMethodDescriptor "([C)V" = some ⟨[(.array .char)], none⟩ := by decide +kernel
theorem own_mk3_ef (m : MethodId) (x0 : Int32) (x1 : Int32) (x2 : Int32) (x3 : Int32) (x4 : Int32) : entryFrame m #[(.int x0), (.int x1), (.int x2), (.int x3), (.int x4)] 5 = mkF m 0 #[.val (.int x0), .val (.int x1), .val (.int x2), .val (.int x3), .val (.int x4)] [] := by first | (simp [entryFrame, mkF, argsToLocals, Value.category]; done) | rfl
def own_mk3_Q (Z : State) (zc : Int32) (d0 : Int32) (d1 : Int32) (d2 : Int32) (d3 : Int32) (h0 : Heap) (n0 : Nat) (vv_ : Option Value) (hh_ : Heap) (LL_ : List Loc) : Prop := ∃ sb : Addr, ∃ tb : Addr, ∃ kb : ClassId, vv_ = some (.ref sb) ∧ Fr n0 LL_ ∧ Ext h0 hh_ ∧ (Exa Z hh_ sb "java/lang/String") ∧ (Fld Z hh_ sb "java/lang/String" "coder" "B" (.int (0 : Int32))) ∧ (Fld Z hh_ sb "java/lang/String" "value" "[B" (.ref tb)) ∧ (Arv Z hh_ tb kb .byte (3 : Int32) [(.int d0.toInt8.toInt32), (.int d1.toInt8.toInt32), (.int d2.toInt8.toInt32)] (.int (0 : Int32)))
set_option maxRecDepth 65536 in
set_option maxHeartbeats 40000000 in
theorem own_mk3 (l : Launch) (Z : State) (a0 : Array Value) (hw : ∀ d ∈ tables_1, d.before a0 Z = true) (ws : List Jvm.Cond) (zc : Int32) (d0 : Int32) (d1 : Int32) (d2 : Int32) (d3 : Int32) (h0 : Heap) (n0 : Nat) (Z0 : n0 ≤ h0.size) (hOld : Old Z n0 h0) (Scs : Sta Z Z.heap "java/lang/String" "COMPACT_STRINGS" "Z" (.int zc)) (hzc : ¬ zc = (0 : Int32)) (l_d0 : ¬ d0 < (0 : Int32)) (u_d0 : ¬ (255 : Int32) < d0) (l_d1 : ¬ d1 < (0 : Int32)) (u_d1 : ¬ (255 : Int32) < d1) (l_d2 : ¬ d2 < (0 : Int32)) (u_d2 : ¬ (255 : Int32) < d2) (l_d3 : ¬ d3 < (0 : Int32)) (u_d3 : ¬ (255 : Int32) < d3) :
    MetFree l (⟨"com/example/circuline/circuline/circulation/BarcodesRequiredPinLaw", "make", "(ICCCC)Ljava/lang/String;"⟩ : MethodName) (head1 (Jvm.Cond.code (⟨"com/example/circuline/circuline/circulation/BarcodesRequiredPinLaw", "make", "(ICCCC)Ljava/lang/String;"⟩ : MethodName) method_3_code 5 (some (.object "java/lang/String")) :: ws) ({ frames := 4, cells := 3, slots := 10, locals := 66 } : Room)) (fun aa_ UU_ => aa_ = #[(.int (3 : Int32)), (.int d0), (.int d1), (.int d2), (.int d3)] ∧ Z.Warmed39 UU_.vm ∧ UU_.heap = h0) (fun _ _ _ _ _ => True) (fun _ UU_ oo_ UV_ => ∃ vv_ LL_, oo_ = .returned vv_ ∧ own_mk3_Q Z zc d0 d1 d2 d3 h0 n0 vv_ UV_.heap LL_ ∧ FrameEnd UU_ oo_ UV_ LL_ ({ frames := 4, cells := 3, slots := 10, locals := 66 } : Room).cells ({ frames := 4, cells := 3, slots := 10, locals := 66 } : Room).slots) := by
  refine MetFree.of_bodySF (plainFor_of_name own_mk3_pn) hisR ?_
  intro p e s m args below meth c s₁ Bd hml0 hP hK
  obtain ⟨rfl, hZ, hh⟩ := hP
  have hx := Bd.exec
  have hby := Bd.bytes
  have hml : c.maxLocals = 5 := hml0
  have hown : s.vm.findClass "com/example/circuline/circuline/circulation/BarcodesRequiredPinLaw" = some m.cls := findClass_of_methodNamed Bd.named
  have hnm := (name_of_methodNamed Bd.named Bd.method).1
  have X0 : Stand p l e ({ frames := 4, cells := 3, slots := 10, locals := 66 } : Room) s m #[(.int (3 : Int32)), (.int d0), (.int d1), (.int d2), (.int d3)] below meth c s₁ [] 0 0 := Stand.of_body Bd
  have e0 : s₁.heap = h0 := by rw [← hh, Bd.state]; rfl
  have N0 := Fr.nil n0
  have KP0 : Keep h0 h0 [] := Keep.refl _ _
  refine ownFin (Q := own_mk3_Q Z zc d0 d1 d2 d3 h0 n0) ?_
  refine ownStep (fun _ k => castTop (own_mk3_ef m (3 : Int32) d0 d1 d2 d3) k) ?_
  show ownGo p.tables e below (s₁.setTop (mkF m 0 #[.val (.int (3 : Int32)), .val (.int d0), .val (.int d1), .val (.int d2), .val (.int d3)] [])) _
  refine ownStep (fun _ k => XS.iloadN X0.here hx rfl (hb hby own_mk3_d0) rfl  k) ?_
  refine ownStep (fun _ k => XS.iconst X0.here hx rfl (hb hby own_mk3_d1) k) ?_
  refine ownStep (fun _ k => XS.icmpYes X0.here hx rfl (pc0 := 2) (pc' := 20) rfl (hb hby own_mk3_d2) rfl (feq (by decide : ¬ (3 : Int32) = (1 : Int32))).2 (by decide) (by decide) k) ?_
  refine ownStep (fun _ k => XS.iloadN X0.here hx rfl (hb hby own_mk3_d20) rfl  k) ?_
  refine ownStep (fun _ k => XS.iconst X0.here hx rfl (hb hby own_mk3_d21) k) ?_
  show ownGo p.tables e below (s₁.setTop (mkF m 22 #[.val (.int (3 : Int32)), .val (.int d0), .val (.int d1), .val (.int d2), .val (.int d3)] [(.int (2 : Int32)), (.int (3 : Int32))])) _
  refine ownStep (fun _ k => XS.icmpYes X0.here hx rfl (pc0 := 22) (pc' := 44) rfl (hb hby own_mk3_d22) rfl (feq (by decide : ¬ (3 : Int32) = (2 : Int32))).2 (by decide) (by decide) k) ?_
  refine ownStep (fun _ k => XS.iloadN X0.here hx rfl (hb hby own_mk3_d44) rfl  k) ?_
  refine ownStep (fun _ k => XS.iconst X0.here hx rfl (hb hby own_mk3_d45) k) ?_
  refine ownStep (fun _ k => XS.icmpNo X0.here hx rfl (hb hby own_mk3_d46) rfl (teq (by decide : (3 : Int32) = (3 : Int32))).2 k) ?_
  show ownGo p.tables e below (s₁.setTop (mkF m 49 #[.val (.int (3 : Int32)), .val (.int d0), .val (.int d1), .val (.int d2), .val (.int d3)] [])) _
  obtain ⟨T1, h1, X1, e1, E1, A1, D1, U1, st1⟩ := newO X0 hx hZ hown (hw _ (List.mem_of_getElem? (i := 4) rfl)) (hw _ (List.mem_of_getElem? (i := 5) rfl)) (hw _ (List.mem_of_getElem? (i := 6) rfl)) e0 (g := (mkF m 49 #[.val (.int (3 : Int32)), .val (.int d0), .val (.int d1), .val (.int d2), .val (.int d3)] [])) rfl (hb hby own_mk3_d49) (by decide) (by decide)
  obtain ⟨b1, g1⟩ : ∃ z, z = h0.size := ⟨_, rfl⟩
  rw [← g1] at A1 D1 U1 st1
  have gh_b1 : h0.size ≤ b1 := Nat.le_trans KP0.1 (Nat.le_of_eq g1.symm)
  have gn_b1 : n0 ≤ b1 := Nat.le_trans Z0 gh_b1
  have KP2 : Keep h0 h1 [] := KP0.ext E1
  have F3 : Fld Z h1 b1 "java/lang/String" "coder" "B" (.int (0 : Int32)) := D1 (Or.inr (hw _ (List.mem_of_getElem? (i := 31) rfl))) (ty := .byte) (by decide)
  have F4 : Fld Z h1 b1 "java/lang/String" "value" "[B" .null := D1 (Or.inr (hw _ (List.mem_of_getElem? (i := 33) rfl))) (ty := (.array .byte)) (by decide)
  refine ownStep st1 ?_
  refine ownStep (fun _ k => XS.dup X1.here hx rfl (hb hby own_mk3_d52) rfl rfl k) ?_
  refine ownStep (fun _ k => XS.iconst X1.here hx rfl (hb hby own_mk3_d53) k) ?_
  show ownGo p.tables e below (T1.setTop (mkF m 54 #[.val (.int (3 : Int32)), .val (.int d0), .val (.int d1), .val (.int d2), .val (.int d3)] [(.int (3 : Int32)), (.ref b1), (.ref b1)])) _
  obtain ⟨T5, h5, k5, X5, e5, E5, A5, st5⟩ := newP X1 hx hZ (hw _ (List.mem_of_getElem? (i := 7) rfl)) e1 (g := (mkF m 54 #[.val (.int (3 : Int32)), .val (.int d0), .val (.int d1), .val (.int d2), .val (.int d3)] [(.int (3 : Int32)), (.ref b1), (.ref b1)])) rfl (hb hby own_mk3_d54) rfl (by decide) (cap := 3) (by decide) (by decide) (by decide) (by decide)
  obtain ⟨b5, g5⟩ : ∃ z, z = h1.size := ⟨_, rfl⟩
  rw [← g5] at A5 st5
  have gh_b5 : h0.size ≤ b5 := Nat.le_trans KP2.1 (Nat.le_of_eq g5.symm)
  have gn_b5 : n0 ≤ b5 := Nat.le_trans Z0 gh_b5
  have KP6 : Keep h0 h5 [] := KP2.ext E5
  have V5 : Arv Z h5 b5 k5 .char (3 : Int32) [(.int (0 : Int32)), (.int (0 : Int32)), (.int (0 : Int32))] (.int (0 : Int32)) := (Arv.new A5 (by decide)).pad (pad_rep [] (.int (0 : Int32)) 3)
  refine ownStep st5 ?_
  refine ownStep (fun _ k => XS.dup X5.here hx rfl (hb hby own_mk3_d56) rfl rfl k) ?_
  refine ownStep (fun _ k => XS.iconst X5.here hx rfl (hb hby own_mk3_d57) k) ?_
  refine ownStep (fun _ k => XS.iloadN X5.here hx rfl (hb hby own_mk3_d58) rfl  k) ?_
  show ownGo p.tables e below (T5.setTop (mkF m 59 #[.val (.int (3 : Int32)), .val (.int d0), .val (.int d1), .val (.int d2), .val (.int d3)] [(.int d0), (.int (0 : Int32)), (.ref b5), (.ref b5), (.ref b1), (.ref b1)])) _
  have Vo7 := V5
  obtain ⟨cl7, Ar7, q7, S7, N7, H7, G7⟩ := Vo7
  have hin7 : ¬ ((0 : Int32) < 0 ∨ cl7.slots.size ≤ ((0 : Int32)).toNatClampNeg) := inb_of S7 ⟨by decide, by decide⟩
  obtain ⟨T8, h8, X8, e8, W8, st8⟩ := stC X5 hx hZ e5 Ar7 (j := (0 : Int32)) hin7 (g := (mkF m 59 #[.val (.int (3 : Int32)), .val (.int d0), .val (.int d1), .val (.int d2), .val (.int d3)] [(.int d0), (.int (0 : Int32)), (.ref b5), (.ref b5), (.ref b1), (.ref b1)])) rfl rfl (hb hby own_mk3_d59)
  have N9 := Fr.snoc X8 N0 gn_b5
  have KP10 : Keep h0 h8 [] := KP6.wr W8 (Or.inr gh_b5)
  have V11 : Arv Z h8 b5 k5 .char (3 : Int32) [(.int d0.toUInt32.toUInt16.toUInt32.toInt32), (.int (0 : Int32)), (.int (0 : Int32))] (.int (0 : Int32)) := Arv.set Ar7 q7 S7 N7 H7 G7 (fits_nar_char _) W8 0 rfl (Nat.le_of_ble_eq_true rfl)
  refine ownStep st8 ?_
  refine ownStep (fun _ k => XS.dup X8.here hx rfl (hb hby own_mk3_d60) rfl rfl k) ?_
  refine ownStep (fun _ k => XS.iconst X8.here hx rfl (hb hby own_mk3_d61) k) ?_
  refine ownStep (fun _ k => XS.iloadN X8.here hx rfl (hb hby own_mk3_d62) rfl  k) ?_
  show ownGo p.tables e below (T8.setTop (mkF m 63 #[.val (.int (3 : Int32)), .val (.int d0), .val (.int d1), .val (.int d2), .val (.int d3)] [(.int d1), (.int (1 : Int32)), (.ref b5), (.ref b5), (.ref b1), (.ref b1)])) _
  have Vo12 := V11
  obtain ⟨cl12, Ar12, q12, S12, N12, H12, G12⟩ := Vo12
  have hin12 : ¬ ((1 : Int32) < 0 ∨ cl12.slots.size ≤ ((1 : Int32)).toNatClampNeg) := inb_of S12 ⟨by decide, by decide⟩
  obtain ⟨T13, h13, X13, e13, W13, st13⟩ := stC X8 hx hZ e8 Ar12 (j := (1 : Int32)) hin12 (g := (mkF m 63 #[.val (.int (3 : Int32)), .val (.int d0), .val (.int d1), .val (.int d2), .val (.int d3)] [(.int d1), (.int (1 : Int32)), (.ref b5), (.ref b5), (.ref b1), (.ref b1)])) rfl rfl (hb hby own_mk3_d63)
  have N14 := Fr.snoc X13 N9 gn_b5
  have KP15 : Keep h0 h13 [] := KP10.wr W13 (Or.inr gh_b5)
  have V16 : Arv Z h13 b5 k5 .char (3 : Int32) [(.int d0.toUInt32.toUInt16.toUInt32.toInt32), (.int d1.toUInt32.toUInt16.toUInt32.toInt32), (.int (0 : Int32))] (.int (0 : Int32)) := Arv.set Ar12 q12 S12 N12 H12 G12 (fits_nar_char _) W13 1 rfl (Nat.le_of_ble_eq_true rfl)
  refine ownStep st13 ?_
  refine ownStep (fun _ k => XS.dup X13.here hx rfl (hb hby own_mk3_d64) rfl rfl k) ?_
  refine ownStep (fun _ k => XS.iconst X13.here hx rfl (hb hby own_mk3_d65) k) ?_
  refine ownStep (fun _ k => XS.iloadN X13.here hx rfl (hb hby own_mk3_d66) rfl  k) ?_
  show ownGo p.tables e below (T13.setTop (mkF m 67 #[.val (.int (3 : Int32)), .val (.int d0), .val (.int d1), .val (.int d2), .val (.int d3)] [(.int d2), (.int (2 : Int32)), (.ref b5), (.ref b5), (.ref b1), (.ref b1)])) _
  have Vo17 := V16
  obtain ⟨cl17, Ar17, q17, S17, N17, H17, G17⟩ := Vo17
  have hin17 : ¬ ((2 : Int32) < 0 ∨ cl17.slots.size ≤ ((2 : Int32)).toNatClampNeg) := inb_of S17 ⟨by decide, by decide⟩
  obtain ⟨T18, h18, X18, e18, W18, st18⟩ := stC X13 hx hZ e13 Ar17 (j := (2 : Int32)) hin17 (g := (mkF m 67 #[.val (.int (3 : Int32)), .val (.int d0), .val (.int d1), .val (.int d2), .val (.int d3)] [(.int d2), (.int (2 : Int32)), (.ref b5), (.ref b5), (.ref b1), (.ref b1)])) rfl rfl (hb hby own_mk3_d67)
  have N19 := Fr.snoc X18 N14 gn_b5
  have KP20 : Keep h0 h18 [] := KP15.wr W18 (Or.inr gh_b5)
  have V21 : Arv Z h18 b5 k5 .char (3 : Int32) [(.int d0.toUInt32.toUInt16.toUInt32.toInt32), (.int d1.toUInt32.toUInt16.toUInt32.toInt32), (.int d2.toUInt32.toUInt16.toUInt32.toInt32)] (.int (0 : Int32)) := Arv.set Ar17 q17 S17 N17 H17 G17 (fits_nar_char _) W18 2 rfl (Nat.le_of_ble_eq_true rfl)
  refine ownStep st18 ?_
  show ownGo p.tables e below (T18.setTop (mkF m 68 #[.val (.int (3 : Int32)), .val (.int d0), .val (.int d1), .val (.int d2), .val (.int d3)] [(.ref b5), (.ref b1), (.ref b1)])) _
  have V22 : Arv Z h18 b5 k5 .char (3 : Int32) [(.int d0), (.int d1), (.int d2)] (.int (0 : Int32)) := by have q := V21; rw [own_nc l_d0 u_d0, own_nc l_d1 u_d1, own_nc l_d2 u_d2] at q; exact q
  have Q23 : Exa Z h18 b1 "java/lang/String" := ((((A1.ext E5).wr W8).wr W13).wr W18)
  have ne24 : b1 ≠ b5 := Nat.ne_of_lt (Nat.lt_of_lt_of_le (Nat.lt_of_lt_of_le A1.lt (Nat.le_refl _)) (Nat.le_of_eq g5.symm))
  have Q25 : Fld Z h18 b1 "java/lang/String" "value" "[B" .null := ((((F4.ext E5).other W8 (Or.inl ne24)).other W13 (Or.inl ne24)).other W18 (Or.inl ne24))
  have Q26 : Fld Z h18 b1 "java/lang/String" "coder" "B" (.int (0 : Int32)) := ((((F3.ext E5).other W8 (Or.inl ne24)).other W13 (Or.inl ne24)).other W18 (Or.inl ne24))
  have Q27 : Old Z n0 h18 := (((((hOld.ext E1).ext E5).wr W8 gn_b5).wr W13 gn_b5).wr W18 gn_b5)
  have Q28 : Sta Z h18 "java/lang/String" "COMPACT_STRINGS" "Z" (.int zc) := Scs.ext Q27.2
  have Zs29 : n0 ≤ h18.size := Nat.le_trans Z0 KP20.1
  obtain ⟨_, _, ⟨T30, L30, k30, n30⟩, -, X30, ⟨Lc30, hQ30, l30, y30, z30⟩, st30⟩ := X18.specialBack hx (y := (⟨"java/lang/String", "<init>", "([C)V"⟩ : MethodName)) rfl hown (mvT hZ (hw _ (List.mem_of_getElem? (i := 8) rfl))) (mvT hZ (hw _ (List.mem_of_getElem? (i := 9) rfl))) (mvT hZ (hw _ (List.mem_of_getElem? (i := 10) rfl))) (by decide) (StrChars.Road.backV (W := 1) hZ (fun d hd => hw d ((by decide +kernel : ∀ d ∈ StrChars.Road.words, d ∈ tables_1) d hd)) (kI := 4) (hw _ (List.mem_of_getElem? (i := 5) rfl)) (cs := ([d0, d1, d2] : List Int32)) (bs := ([d0, d1, d2] : List Int32).map (fun c => c.toInt8.toInt32)) (n := 3) gn_b1 Zs29 Q23 Q25 Q26 V22 Q28 hzc rfl rfl (by decide) (by decide) (own_ccons ⟨l_d0, u_d0⟩ (own_ccons ⟨l_d1, u_d1⟩ (own_ccons ⟨l_d2, u_d2⟩ own_cnil))) rfl (by decide) (by decide)) (g := (mkF m 68 #[.val (.int (3 : Int32)), .val (.int d0), .val (.int d1), .val (.int d2), .val (.int d3)] [(.ref b5), (.ref b1), (.ref b1)])) rfl (by rw [hml]; rfl) (Steps.refl _) (a := b1) (argsL := [(.ref b5)]) (rest := [(.ref b1)]) (lenOf own_mk3_pd0 rfl) rfl (by show 2 * 0 + _ ≤ _; exact Nat.le_of_eq rfl) (hb hby own_mk3_d68) (fun _ _ => ⟨rfl, e18, (by decide : 2 + 1 ≤ _), (by decide : 7 + 3 ≤ _)⟩)
  dsimp only [Pt.U, Pt.locs, Pt.cells, Pt.slots] at X30 l30 y30 z30 st30 hQ30
  obtain rfl : k30 = 3 := y30
  obtain rfl : n30 = 10 := z30
  obtain ⟨rfl, N30q, R30, E30s, C30s, t30, kb30, gg30, gs30, gt30, V30s, A30s⟩ := hQ30
  have N30 : Fr n0 L30 := l30 ▸ Fr.app N19 N30q
  refine ownStep (fun _ k => st30.trans k) ?_
  have gh_t30 : h0.size ≤ t30 := Nat.le_trans KP20.1 gs30
  have gn_t30 : n0 ≤ t30 := gg30
  have KP31 : Keep h0 T30.heap [] := KP20.trans R30 (allS (Or.inr gh_b1) all0)
  have B30s : Arv Z T30.heap t30 kb30 .byte (3 : Int32) [(.int d0.toInt8.toInt32), (.int d1.toInt8.toInt32), (.int d2.toInt8.toInt32)] (.int (0 : Int32)) := A30s
  show ownGo p.tables e below (T30.setTop (mkF m 71 #[.val (.int (3 : Int32)), .val (.int d0), .val (.int d1), .val (.int d2), .val (.int d3)] [(.ref b1)])) _
  have Q32 : Exa Z T30.heap b1 "java/lang/String" := (Q23.keep R30)
  exact ownRet X30 (v := some (.ref b1)) Bd.notSynchronized (fun h => by rw [Bd.returns] at h; cases h) (fun _ hr => retOut X30 hx (t := (.object "java/lang/String")) Bd.returns rfl (Or.inr (Or.inr (Or.inr (Or.inr ⟨rfl, rfl, rfl⟩)))) (hb hby own_mk3_d71) hr) (⟨b1, t30, kb30, rfl, N30, (own_extOf KP31), Q32, C30s, V30s, B30s⟩) (by decide) (by decide)
theorem own_len3_d0 : decode jdk_42_method_54_code 0 = .ok (.aload_n 0, 1) := by decide +kernel
theorem own_len3_d1 : decode jdk_42_method_54_code 1 = .ok (.getfield 9, 3) := by decide +kernel
theorem own_len3_d4 : decode jdk_42_method_54_code 4 = .ok (.arraylength, 1) := by decide +kernel
theorem own_len3_d5 : decode jdk_42_method_54_code 5 = .ok (.aload_n 0, 1) := by decide +kernel
theorem own_len3_d6 : decode jdk_42_method_54_code 6 = .ok (.invokevirtual 335, 3) := by decide +kernel
theorem own_len3_d9 : decode jdk_42_method_54_code 9 = .ok (.ishr, 1) := by decide +kernel
theorem own_len3_d10 : decode jdk_42_method_54_code 10 = .ok (.ireturn, 1) := by decide +kernel
theorem own_len3_pn : plainName "java/lang/String" = true := by first | (simp [plainName, overriddenIn]; done) | decide +kernel
theorem own_len3_pd0 : parseMethodDescriptor "()B" = some ⟨[], some .byte⟩ := by decide +kernel
theorem own_len3_ef (m : MethodId) (x0 : Addr) : entryFrame m #[(.ref x0)] 1 = mkF m 0 #[.val (.ref x0)] [] := by first | (simp [entryFrame, mkF, argsToLocals, Value.category]; done) | rfl
def own_len3_Q (Z : State) (zc : Int32) (a : Addr) (tb : Addr) (kb : ClassId) (x0 : Int32) (x1 : Int32) (x2 : Int32) (h0 : Heap) (n0 : Nat) (vv_ : Option Value) (hh_ : Heap) (LL_ : List Loc) : Prop := vv_ = some (.int (3 : Int32)) ∧ Fr n0 LL_ ∧ hh_ = h0
set_option maxRecDepth 65536 in
set_option maxHeartbeats 40000000 in
theorem own_len3 (l : Launch) (Z : State) (a0 : Array Value) (hw : ∀ d ∈ tables_1, d.before a0 Z = true) (ws : List Jvm.Cond) (zc : Int32) (a : Addr) (tb : Addr) (kb : ClassId) (x0 : Int32) (x1 : Int32) (x2 : Int32) (h0 : Heap) (n0 : Nat) (Z0 : n0 ≤ h0.size) (hOld : Old Z n0 h0) (Scs : Sta Z Z.heap "java/lang/String" "COMPACT_STRINGS" "Z" (.int zc)) (hzc : ¬ zc = (0 : Int32)) (E : Exa Z h0 a "java/lang/String") (C : Fld Z h0 a "java/lang/String" "coder" "B" (.int (0 : Int32))) (Vl : Fld Z h0 a "java/lang/String" "value" "[B" (.ref tb)) (B : Arv Z h0 tb kb .byte (3 : Int32) [(.int x0.toInt8.toInt32), (.int x1.toInt8.toInt32), (.int x2.toInt8.toInt32)] (.int (0 : Int32))) :
    MetFree l (⟨"java/lang/String", "length", "()I"⟩ : MethodName) (head1 (Jvm.Cond.code (⟨"java/lang/String", "length", "()I"⟩ : MethodName) jdk_42_method_54_code 1 (some .int) :: ws) ({ frames := 1, cells := 0, slots := 0, locals := 13 } : Room)) (fun aa_ UU_ => aa_ = #[(.ref a)] ∧ Z.Warmed39 UU_.vm ∧ UU_.heap = h0) (fun _ _ _ _ _ => True) (fun _ UU_ oo_ UV_ => ∃ vv_ LL_, oo_ = .returned vv_ ∧ own_len3_Q Z zc a tb kb x0 x1 x2 h0 n0 vv_ UV_.heap LL_ ∧ FrameEnd UU_ oo_ UV_ LL_ ({ frames := 1, cells := 0, slots := 0, locals := 13 } : Room).cells ({ frames := 1, cells := 0, slots := 0, locals := 13 } : Room).slots) := by
  refine MetFree.of_bodySF (plainFor_of_name own_len3_pn) hisR ?_
  intro p e s m args below meth c s₁ Bd hml0 hP hK
  obtain ⟨rfl, hZ, hh⟩ := hP
  have hx := Bd.exec
  have hby := Bd.bytes
  have hml : c.maxLocals = 1 := hml0
  have hown : s.vm.findClass "java/lang/String" = some m.cls := findClass_of_methodNamed Bd.named
  have hnm := (name_of_methodNamed Bd.named Bd.method).1
  have X0 : Stand p l e ({ frames := 1, cells := 0, slots := 0, locals := 13 } : Room) s m #[(.ref a)] below meth c s₁ [] 0 0 := Stand.of_body Bd
  have e0 : s₁.heap = h0 := by rw [← hh, Bd.state]; rfl
  have N0 := Fr.nil n0
  have KP0 : Keep h0 h0 [] := Keep.refl _ _
  refine ownFin (Q := own_len3_Q Z zc a tb kb x0 x1 x2 h0 n0) ?_
  refine ownStep (fun _ k => castTop (own_len3_ef m a) k) ?_
  show ownGo p.tables e below (s₁.setTop (mkF m 0 #[.val (.ref a)] [])) _
  refine ownStep (fun _ k => XS.aloadN X0.here hx rfl (hb hby own_len3_d0) rfl rfl k) ?_
  show ownGo p.tables e below (s₁.setTop (mkF m 1 #[.val (.ref a)] [(.ref a)])) _
  obtain ⟨T1, X1, e1, st1⟩ := getF X0 hx hZ hown (host := "") (Or.inl (hw _ (List.mem_of_getElem? (i := 32) rfl))) Via.refl e0 Vl (g := (mkF m 1 #[.val (.ref a)] [(.ref a)])) rfl rfl (hb hby own_len3_d1)
  refine ownStep st1 ?_
  show ownGo p.tables e below (T1.setTop (mkF m 4 #[.val (.ref a)] [(.ref tb)])) _
  have Vo2 := B
  obtain ⟨cl2, Ar2, q2, S2, N2, H2, G2⟩ := Vo2
  refine ownStep (X1.arraylength hx (by rw [e1]; exact Ar2.1) (State.isArrayOf_alike hZ.alike Ar2.2.1) (g := (mkF m 4 #[.val (.ref a)] [(.ref tb)])) rfl rfl (hb hby own_len3_d4)) ?_
  rw [len_of S2 N2]
  refine ownStep (fun _ k => XS.aloadN X1.here hx rfl (hb hby own_len3_d5) rfl rfl k) ?_
  show ownGo p.tables e below (T1.setTop (mkF m 6 #[.val (.ref a)] [(.ref a), (.int (3 : Int32))])) _
  have Zs4 : n0 ≤ h0.size := Nat.le_trans Z0 KP0.1
  obtain ⟨cq3, kq3, q3a, q3b, q3c⟩ := isOf hZ e1 E
  obtain ⟨_, _, ⟨T3, L3, k3, n3⟩, -, X3, ⟨Lc3, hQ3, l3, y3, z3⟩, st3⟩ := X1.virtualBack hx (y := (⟨"java/lang/String", "coder", "()B"⟩ : MethodName)) (z := (⟨"java/lang/String", "coder", "()B"⟩ : MethodName)) hown (mvT hZ (hw _ (List.mem_of_getElem? (i := 91) rfl))) (mvT hZ (hw _ (List.mem_of_getElem? (i := 92) rfl))) (notFace_of_selects (args := #[]) (mvT hZ (hw _ (List.mem_of_getElem? (i := 94) rfl)))) (mvT hZ (hw _ (List.mem_of_getElem? (i := 94) rfl))) (mvT hZ (hw _ (List.mem_of_getElem? (i := 93) rfl))) (by decide) (backOf (W := 1) (own_cod l Z a0 hw [] zc a h0 n0 Zs4 hOld Scs hzc C) hZ (hw _ (List.mem_of_getElem? (i := 95) rfl)) (hw _ (List.mem_of_getElem? (i := 6) rfl)) (by decide) (by decide)) q3a q3c (g := (mkF m 6 #[.val (.ref a)] [(.ref a), (.int (3 : Int32))])) rfl (by rw [hml]; rfl) (Steps.refl _) (argsL := []) (rest := [(.int (3 : Int32))]) (lenOf own_len3_pd0 rfl) rfl (by show 2 * 0 + _ ≤ _; exact Nat.le_of_eq rfl) (hb hby own_len3_d6) (fun _ _ => ⟨rfl, e1, (by decide : 0 + 0 ≤ _), (by decide : 0 + 0 ≤ _)⟩)
  dsimp only [Pt.U, Pt.locs, Pt.cells, Pt.slots] at X3 l3 y3 z3 st3 hQ3
  obtain rfl : k3 = 0 := y3
  obtain rfl : n3 = 0 := z3
  obtain ⟨rfl, N3q, R3⟩ := hQ3
  have N3 : Fr n0 L3 := l3 ▸ Fr.app N0 N3q
  refine ownStep (fun _ k => st3.trans k) ?_
  refine ownStep (fun _ k => XS.ishr X3.here hx rfl (hb hby own_len3_d9) rfl k) ?_
  show ownGo p.tables e below (T3.setTop (mkF m 10 #[.val (.ref a)] [(.int (3 : Int32))])) _
  exact ownRet X3 (v := some (.int (3 : Int32))) Bd.notSynchronized (fun h => by rw [Bd.returns] at h; cases h) (fun _ hr => retI X3 hx Bd.returns (hb hby own_len3_d10) hr) (by rw [R3]; exact ⟨rfl, N3, rfl⟩) (by decide) (by decide)
theorem own_gc3_0_d0 : decode jdk_43_method_44_code 0 = .ok (.aload_n 0, 1) := by decide +kernel
theorem own_gc3_0_d1 : decode jdk_43_method_44_code 1 = .ok (.iload_n 1, 1) := by decide +kernel
theorem own_gc3_0_d2 : decode jdk_43_method_44_code 2 = .ok (.baload, 1) := by decide +kernel
theorem own_gc3_0_d3 : decode jdk_43_method_44_code 3 = .ok (.sipush 255, 3) := by decide +kernel
theorem own_gc3_0_d6 : decode jdk_43_method_44_code 6 = .ok (.iand, 1) := by decide +kernel
theorem own_gc3_0_d7 : decode jdk_43_method_44_code 7 = .ok (.i2c, 1) := by decide +kernel
theorem own_gc3_0_d8 : decode jdk_43_method_44_code 8 = .ok (.ireturn, 1) := by decide +kernel
theorem own_gc3_0_pn : plainName "java/lang/StringLatin1" = true := by first | (simp [plainName, overriddenIn]; done) | decide +kernel
theorem own_gc3_0_ef (m : MethodId) (x0 : Addr) (x1 : Int32) : entryFrame m #[(.ref x0), (.int x1)] 2 = mkF m 0 #[.val (.ref x0), .val (.int x1)] [] := by first | (simp [entryFrame, mkF, argsToLocals, Value.category]; done) | rfl
def own_gc3_0_Q (Z : State) (tb : Addr) (kb : ClassId) (x0 : Int32) (x1 : Int32) (x2 : Int32) (h0 : Heap) (n0 : Nat) (vv_ : Option Value) (hh_ : Heap) (LL_ : List Loc) : Prop := vv_ = some (.int x0) ∧ Fr n0 LL_ ∧ hh_ = h0
set_option maxRecDepth 65536 in
set_option maxHeartbeats 40000000 in
theorem own_gc3_0 (l : Launch) (Z : State) (a0 : Array Value) (hw : ∀ d ∈ tables_1, d.before a0 Z = true) (ws : List Jvm.Cond) (tb : Addr) (kb : ClassId) (x0 : Int32) (x1 : Int32) (x2 : Int32) (h0 : Heap) (n0 : Nat) (Z0 : n0 ≤ h0.size) (B : Arv Z h0 tb kb .byte (3 : Int32) [(.int x0.toInt8.toInt32), (.int x1.toInt8.toInt32), (.int x2.toInt8.toInt32)] (.int (0 : Int32))) (l_x0 : ¬ x0 < (0 : Int32)) (u_x0 : ¬ (255 : Int32) < x0) :
    MetFree l (⟨"java/lang/StringLatin1", "getChar", "([BI)C"⟩ : MethodName) (head1 (Jvm.Cond.code (⟨"java/lang/StringLatin1", "getChar", "([BI)C"⟩ : MethodName) jdk_43_method_44_code 2 (some .char) :: ws) ({ frames := 0, cells := 0, slots := 0, locals := 0 } : Room)) (fun aa_ UU_ => aa_ = #[(.ref tb), (.int (0 : Int32))] ∧ Z.Warmed39 UU_.vm ∧ UU_.heap = h0) (fun _ _ _ _ _ => True) (fun _ UU_ oo_ UV_ => ∃ vv_ LL_, oo_ = .returned vv_ ∧ own_gc3_0_Q Z tb kb x0 x1 x2 h0 n0 vv_ UV_.heap LL_ ∧ FrameEnd UU_ oo_ UV_ LL_ ({ frames := 0, cells := 0, slots := 0, locals := 0 } : Room).cells ({ frames := 0, cells := 0, slots := 0, locals := 0 } : Room).slots) := by
  refine MetFree.of_bodySF (plainFor_of_name own_gc3_0_pn) hisR ?_
  intro p e s m args below meth c s₁ Bd hml0 hP hK
  obtain ⟨rfl, hZ, hh⟩ := hP
  have hx := Bd.exec
  have hby := Bd.bytes
  have hml : c.maxLocals = 2 := hml0
  have hown : s.vm.findClass "java/lang/StringLatin1" = some m.cls := findClass_of_methodNamed Bd.named
  have hnm := (name_of_methodNamed Bd.named Bd.method).1
  have X0 : Stand p l e ({ frames := 0, cells := 0, slots := 0, locals := 0 } : Room) s m #[(.ref tb), (.int (0 : Int32))] below meth c s₁ [] 0 0 := Stand.of_body Bd
  have e0 : s₁.heap = h0 := by rw [← hh, Bd.state]; rfl
  have N0 := Fr.nil n0
  have KP0 : Keep h0 h0 [] := Keep.refl _ _
  refine ownFin (Q := own_gc3_0_Q Z tb kb x0 x1 x2 h0 n0) ?_
  refine ownStep (fun _ k => castTop (own_gc3_0_ef m tb (0 : Int32)) k) ?_
  show ownGo p.tables e below (s₁.setTop (mkF m 0 #[.val (.ref tb), .val (.int (0 : Int32))] [])) _
  refine ownStep (fun _ k => XS.aloadN X0.here hx rfl (hb hby own_gc3_0_d0) rfl rfl k) ?_
  refine ownStep (fun _ k => XS.iloadN X0.here hx rfl (hb hby own_gc3_0_d1) rfl  k) ?_
  show ownGo p.tables e below (s₁.setTop (mkF m 2 #[.val (.ref tb), .val (.int (0 : Int32))] [(.int (0 : Int32)), (.ref tb)])) _
  have Vo1 := B
  obtain ⟨cl1, Ar1, q1, S1, N1, H1, G1⟩ := Vo1
  have hin1 : ¬ ((0 : Int32) < 0 ∨ cl1.slots.size ≤ ((0 : Int32)).toNatClampNeg) := inb_of S1 ⟨by decide, by decide⟩
  refine ownStep (X0.baloadBytes hx (j := (0 : Int32)) (v := (.int x0.toInt8.toInt32)) (by rw [e0]; exact Ar1.1) (State.isArrayOf_alike hZ.alike Ar1.2.1) Ar1.2.2 hin1 (H1.at hin1 rfl) (g := (mkF m 2 #[.val (.ref tb), .val (.int (0 : Int32))] [(.int (0 : Int32)), (.ref tb)])) rfl rfl (hb hby own_gc3_0_d2)) ?_
  refine ownStep (fun _ k => XS.sipush X0.here hx rfl (hb hby own_gc3_0_d3) k) ?_
  refine ownStep (fun _ k => XS.iand X0.here hx rfl (hb hby own_gc3_0_d6) rfl k) ?_
  refine ownStep (fun _ k => XS.i2c X0.here hx rfl (hb hby own_gc3_0_d7) rfl k) ?_
  show ownGo p.tables e below (s₁.setTop (mkF m 8 #[.val (.ref tb), .val (.int (0 : Int32))] [(.int ((x0.toInt8.toInt32 &&& (255 : Int32)).toUInt32.toUInt16.toUInt32.toInt32))])) _
  exact ownRet X0 (v := some (.int (nar .char ((x0.toInt8.toInt32 &&& (255 : Int32)).toUInt32.toUInt16.toUInt32.toInt32)))) Bd.notSynchronized (fun h => by rw [Bd.returns] at h; cases h) (fun _ hr => retN X0 hx (t := .char) Bd.returns (by simp) (hb hby own_gc3_0_d8) hr) (by rw [e0]; exact ⟨(by rw [own_lat l_x0 u_x0]), N0, rfl⟩) (by decide) (by decide)
theorem own_gc3_1_d0 : decode jdk_43_method_44_code 0 = .ok (.aload_n 0, 1) := by decide +kernel
theorem own_gc3_1_d1 : decode jdk_43_method_44_code 1 = .ok (.iload_n 1, 1) := by decide +kernel
theorem own_gc3_1_d2 : decode jdk_43_method_44_code 2 = .ok (.baload, 1) := by decide +kernel
theorem own_gc3_1_d3 : decode jdk_43_method_44_code 3 = .ok (.sipush 255, 3) := by decide +kernel
theorem own_gc3_1_d6 : decode jdk_43_method_44_code 6 = .ok (.iand, 1) := by decide +kernel
theorem own_gc3_1_d7 : decode jdk_43_method_44_code 7 = .ok (.i2c, 1) := by decide +kernel
theorem own_gc3_1_d8 : decode jdk_43_method_44_code 8 = .ok (.ireturn, 1) := by decide +kernel
theorem own_gc3_1_pn : plainName "java/lang/StringLatin1" = true := by first | (simp [plainName, overriddenIn]; done) | decide +kernel
theorem own_gc3_1_ef (m : MethodId) (x0 : Addr) (x1 : Int32) : entryFrame m #[(.ref x0), (.int x1)] 2 = mkF m 0 #[.val (.ref x0), .val (.int x1)] [] := by first | (simp [entryFrame, mkF, argsToLocals, Value.category]; done) | rfl
def own_gc3_1_Q (Z : State) (tb : Addr) (kb : ClassId) (x0 : Int32) (x1 : Int32) (x2 : Int32) (h0 : Heap) (n0 : Nat) (vv_ : Option Value) (hh_ : Heap) (LL_ : List Loc) : Prop := vv_ = some (.int x1) ∧ Fr n0 LL_ ∧ hh_ = h0
set_option maxRecDepth 65536 in
set_option maxHeartbeats 40000000 in
theorem own_gc3_1 (l : Launch) (Z : State) (a0 : Array Value) (hw : ∀ d ∈ tables_1, d.before a0 Z = true) (ws : List Jvm.Cond) (tb : Addr) (kb : ClassId) (x0 : Int32) (x1 : Int32) (x2 : Int32) (h0 : Heap) (n0 : Nat) (Z0 : n0 ≤ h0.size) (B : Arv Z h0 tb kb .byte (3 : Int32) [(.int x0.toInt8.toInt32), (.int x1.toInt8.toInt32), (.int x2.toInt8.toInt32)] (.int (0 : Int32))) (l_x1 : ¬ x1 < (0 : Int32)) (u_x1 : ¬ (255 : Int32) < x1) :
    MetFree l (⟨"java/lang/StringLatin1", "getChar", "([BI)C"⟩ : MethodName) (head1 (Jvm.Cond.code (⟨"java/lang/StringLatin1", "getChar", "([BI)C"⟩ : MethodName) jdk_43_method_44_code 2 (some .char) :: ws) ({ frames := 0, cells := 0, slots := 0, locals := 0 } : Room)) (fun aa_ UU_ => aa_ = #[(.ref tb), (.int (1 : Int32))] ∧ Z.Warmed39 UU_.vm ∧ UU_.heap = h0) (fun _ _ _ _ _ => True) (fun _ UU_ oo_ UV_ => ∃ vv_ LL_, oo_ = .returned vv_ ∧ own_gc3_1_Q Z tb kb x0 x1 x2 h0 n0 vv_ UV_.heap LL_ ∧ FrameEnd UU_ oo_ UV_ LL_ ({ frames := 0, cells := 0, slots := 0, locals := 0 } : Room).cells ({ frames := 0, cells := 0, slots := 0, locals := 0 } : Room).slots) := by
  refine MetFree.of_bodySF (plainFor_of_name own_gc3_1_pn) hisR ?_
  intro p e s m args below meth c s₁ Bd hml0 hP hK
  obtain ⟨rfl, hZ, hh⟩ := hP
  have hx := Bd.exec
  have hby := Bd.bytes
  have hml : c.maxLocals = 2 := hml0
  have hown : s.vm.findClass "java/lang/StringLatin1" = some m.cls := findClass_of_methodNamed Bd.named
  have hnm := (name_of_methodNamed Bd.named Bd.method).1
  have X0 : Stand p l e ({ frames := 0, cells := 0, slots := 0, locals := 0 } : Room) s m #[(.ref tb), (.int (1 : Int32))] below meth c s₁ [] 0 0 := Stand.of_body Bd
  have e0 : s₁.heap = h0 := by rw [← hh, Bd.state]; rfl
  have N0 := Fr.nil n0
  have KP0 : Keep h0 h0 [] := Keep.refl _ _
  refine ownFin (Q := own_gc3_1_Q Z tb kb x0 x1 x2 h0 n0) ?_
  refine ownStep (fun _ k => castTop (own_gc3_1_ef m tb (1 : Int32)) k) ?_
  show ownGo p.tables e below (s₁.setTop (mkF m 0 #[.val (.ref tb), .val (.int (1 : Int32))] [])) _
  refine ownStep (fun _ k => XS.aloadN X0.here hx rfl (hb hby own_gc3_1_d0) rfl rfl k) ?_
  refine ownStep (fun _ k => XS.iloadN X0.here hx rfl (hb hby own_gc3_1_d1) rfl  k) ?_
  show ownGo p.tables e below (s₁.setTop (mkF m 2 #[.val (.ref tb), .val (.int (1 : Int32))] [(.int (1 : Int32)), (.ref tb)])) _
  have Vo1 := B
  obtain ⟨cl1, Ar1, q1, S1, N1, H1, G1⟩ := Vo1
  have hin1 : ¬ ((1 : Int32) < 0 ∨ cl1.slots.size ≤ ((1 : Int32)).toNatClampNeg) := inb_of S1 ⟨by decide, by decide⟩
  refine ownStep (X0.baloadBytes hx (j := (1 : Int32)) (v := (.int x1.toInt8.toInt32)) (by rw [e0]; exact Ar1.1) (State.isArrayOf_alike hZ.alike Ar1.2.1) Ar1.2.2 hin1 (H1.at hin1 rfl) (g := (mkF m 2 #[.val (.ref tb), .val (.int (1 : Int32))] [(.int (1 : Int32)), (.ref tb)])) rfl rfl (hb hby own_gc3_1_d2)) ?_
  refine ownStep (fun _ k => XS.sipush X0.here hx rfl (hb hby own_gc3_1_d3) k) ?_
  refine ownStep (fun _ k => XS.iand X0.here hx rfl (hb hby own_gc3_1_d6) rfl k) ?_
  refine ownStep (fun _ k => XS.i2c X0.here hx rfl (hb hby own_gc3_1_d7) rfl k) ?_
  show ownGo p.tables e below (s₁.setTop (mkF m 8 #[.val (.ref tb), .val (.int (1 : Int32))] [(.int ((x1.toInt8.toInt32 &&& (255 : Int32)).toUInt32.toUInt16.toUInt32.toInt32))])) _
  exact ownRet X0 (v := some (.int (nar .char ((x1.toInt8.toInt32 &&& (255 : Int32)).toUInt32.toUInt16.toUInt32.toInt32)))) Bd.notSynchronized (fun h => by rw [Bd.returns] at h; cases h) (fun _ hr => retN X0 hx (t := .char) Bd.returns (by simp) (hb hby own_gc3_1_d8) hr) (by rw [e0]; exact ⟨(by rw [own_lat l_x1 u_x1]), N0, rfl⟩) (by decide) (by decide)
theorem own_gc3_2_d0 : decode jdk_43_method_44_code 0 = .ok (.aload_n 0, 1) := by decide +kernel
theorem own_gc3_2_d1 : decode jdk_43_method_44_code 1 = .ok (.iload_n 1, 1) := by decide +kernel
theorem own_gc3_2_d2 : decode jdk_43_method_44_code 2 = .ok (.baload, 1) := by decide +kernel
theorem own_gc3_2_d3 : decode jdk_43_method_44_code 3 = .ok (.sipush 255, 3) := by decide +kernel
theorem own_gc3_2_d6 : decode jdk_43_method_44_code 6 = .ok (.iand, 1) := by decide +kernel
theorem own_gc3_2_d7 : decode jdk_43_method_44_code 7 = .ok (.i2c, 1) := by decide +kernel
theorem own_gc3_2_d8 : decode jdk_43_method_44_code 8 = .ok (.ireturn, 1) := by decide +kernel
theorem own_gc3_2_pn : plainName "java/lang/StringLatin1" = true := by first | (simp [plainName, overriddenIn]; done) | decide +kernel
theorem own_gc3_2_ef (m : MethodId) (x0 : Addr) (x1 : Int32) : entryFrame m #[(.ref x0), (.int x1)] 2 = mkF m 0 #[.val (.ref x0), .val (.int x1)] [] := by first | (simp [entryFrame, mkF, argsToLocals, Value.category]; done) | rfl
def own_gc3_2_Q (Z : State) (tb : Addr) (kb : ClassId) (x0 : Int32) (x1 : Int32) (x2 : Int32) (h0 : Heap) (n0 : Nat) (vv_ : Option Value) (hh_ : Heap) (LL_ : List Loc) : Prop := vv_ = some (.int x2) ∧ Fr n0 LL_ ∧ hh_ = h0
set_option maxRecDepth 65536 in
set_option maxHeartbeats 40000000 in
theorem own_gc3_2 (l : Launch) (Z : State) (a0 : Array Value) (hw : ∀ d ∈ tables_1, d.before a0 Z = true) (ws : List Jvm.Cond) (tb : Addr) (kb : ClassId) (x0 : Int32) (x1 : Int32) (x2 : Int32) (h0 : Heap) (n0 : Nat) (Z0 : n0 ≤ h0.size) (B : Arv Z h0 tb kb .byte (3 : Int32) [(.int x0.toInt8.toInt32), (.int x1.toInt8.toInt32), (.int x2.toInt8.toInt32)] (.int (0 : Int32))) (l_x2 : ¬ x2 < (0 : Int32)) (u_x2 : ¬ (255 : Int32) < x2) :
    MetFree l (⟨"java/lang/StringLatin1", "getChar", "([BI)C"⟩ : MethodName) (head1 (Jvm.Cond.code (⟨"java/lang/StringLatin1", "getChar", "([BI)C"⟩ : MethodName) jdk_43_method_44_code 2 (some .char) :: ws) ({ frames := 0, cells := 0, slots := 0, locals := 0 } : Room)) (fun aa_ UU_ => aa_ = #[(.ref tb), (.int (2 : Int32))] ∧ Z.Warmed39 UU_.vm ∧ UU_.heap = h0) (fun _ _ _ _ _ => True) (fun _ UU_ oo_ UV_ => ∃ vv_ LL_, oo_ = .returned vv_ ∧ own_gc3_2_Q Z tb kb x0 x1 x2 h0 n0 vv_ UV_.heap LL_ ∧ FrameEnd UU_ oo_ UV_ LL_ ({ frames := 0, cells := 0, slots := 0, locals := 0 } : Room).cells ({ frames := 0, cells := 0, slots := 0, locals := 0 } : Room).slots) := by
  refine MetFree.of_bodySF (plainFor_of_name own_gc3_2_pn) hisR ?_
  intro p e s m args below meth c s₁ Bd hml0 hP hK
  obtain ⟨rfl, hZ, hh⟩ := hP
  have hx := Bd.exec
  have hby := Bd.bytes
  have hml : c.maxLocals = 2 := hml0
  have hown : s.vm.findClass "java/lang/StringLatin1" = some m.cls := findClass_of_methodNamed Bd.named
  have hnm := (name_of_methodNamed Bd.named Bd.method).1
  have X0 : Stand p l e ({ frames := 0, cells := 0, slots := 0, locals := 0 } : Room) s m #[(.ref tb), (.int (2 : Int32))] below meth c s₁ [] 0 0 := Stand.of_body Bd
  have e0 : s₁.heap = h0 := by rw [← hh, Bd.state]; rfl
  have N0 := Fr.nil n0
  have KP0 : Keep h0 h0 [] := Keep.refl _ _
  refine ownFin (Q := own_gc3_2_Q Z tb kb x0 x1 x2 h0 n0) ?_
  refine ownStep (fun _ k => castTop (own_gc3_2_ef m tb (2 : Int32)) k) ?_
  show ownGo p.tables e below (s₁.setTop (mkF m 0 #[.val (.ref tb), .val (.int (2 : Int32))] [])) _
  refine ownStep (fun _ k => XS.aloadN X0.here hx rfl (hb hby own_gc3_2_d0) rfl rfl k) ?_
  refine ownStep (fun _ k => XS.iloadN X0.here hx rfl (hb hby own_gc3_2_d1) rfl  k) ?_
  show ownGo p.tables e below (s₁.setTop (mkF m 2 #[.val (.ref tb), .val (.int (2 : Int32))] [(.int (2 : Int32)), (.ref tb)])) _
  have Vo1 := B
  obtain ⟨cl1, Ar1, q1, S1, N1, H1, G1⟩ := Vo1
  have hin1 : ¬ ((2 : Int32) < 0 ∨ cl1.slots.size ≤ ((2 : Int32)).toNatClampNeg) := inb_of S1 ⟨by decide, by decide⟩
  refine ownStep (X0.baloadBytes hx (j := (2 : Int32)) (v := (.int x2.toInt8.toInt32)) (by rw [e0]; exact Ar1.1) (State.isArrayOf_alike hZ.alike Ar1.2.1) Ar1.2.2 hin1 (H1.at hin1 rfl) (g := (mkF m 2 #[.val (.ref tb), .val (.int (2 : Int32))] [(.int (2 : Int32)), (.ref tb)])) rfl rfl (hb hby own_gc3_2_d2)) ?_
  refine ownStep (fun _ k => XS.sipush X0.here hx rfl (hb hby own_gc3_2_d3) k) ?_
  refine ownStep (fun _ k => XS.iand X0.here hx rfl (hb hby own_gc3_2_d6) rfl k) ?_
  refine ownStep (fun _ k => XS.i2c X0.here hx rfl (hb hby own_gc3_2_d7) rfl k) ?_
  show ownGo p.tables e below (s₁.setTop (mkF m 8 #[.val (.ref tb), .val (.int (2 : Int32))] [(.int ((x2.toInt8.toInt32 &&& (255 : Int32)).toUInt32.toUInt16.toUInt32.toInt32))])) _
  exact ownRet X0 (v := some (.int (nar .char ((x2.toInt8.toInt32 &&& (255 : Int32)).toUInt32.toUInt16.toUInt32.toInt32)))) Bd.notSynchronized (fun h => by rw [Bd.returns] at h; cases h) (fun _ hr => retN X0 hx (t := .char) Bd.returns (by simp) (hb hby own_gc3_2_d8) hr) (by rw [e0]; exact ⟨(by rw [own_lat l_x2 u_x2]), N0, rfl⟩) (by decide) (by decide)
theorem own_inw3_d0 : decode jdk_43_method_37_code 0 = .ok (.aload_n 0, 1) := by decide +kernel
theorem own_inw3_d1 : decode jdk_43_method_37_code 1 = .ok (.arraylength, 1) := by decide +kernel
theorem own_inw3_d2 : decode jdk_43_method_37_code 2 = .ok (.istore_n 1, 1) := by decide +kernel
theorem own_inw3_d3 : decode jdk_43_method_37_code 3 = .ok (.iconst 0, 1) := by decide +kernel
theorem own_inw3_d4 : decode jdk_43_method_37_code 4 = .ok (.istore_n 2, 1) := by decide +kernel
theorem own_inw3_d5 : decode jdk_43_method_37_code 5 = .ok (.iload_n 2, 1) := by decide +kernel
theorem own_inw3_d6 : decode jdk_43_method_37_code 6 = .ok (.iload_n 1, 1) := by decide +kernel
theorem own_inw3_d7 : decode jdk_43_method_37_code 7 = .ok (.if_icmp .ge 40, 3) := by decide +kernel
theorem own_inw3_d10 : decode jdk_43_method_37_code 10 = .ok (.aload_n 0, 1) := by decide +kernel
theorem own_inw3_d11 : decode jdk_43_method_37_code 11 = .ok (.iload_n 2, 1) := by decide +kernel
theorem own_inw3_d12 : decode jdk_43_method_37_code 12 = .ok (.invokestatic 50, 3) := by decide +kernel
theorem own_inw3_d15 : decode jdk_43_method_37_code 15 = .ok (.istore_n 3, 1) := by decide +kernel
theorem own_inw3_d16 : decode jdk_43_method_37_code 16 = .ok (.iload_n 3, 1) := by decide +kernel
theorem own_inw3_d17 : decode jdk_43_method_37_code 17 = .ok (.bipush 32, 2) := by decide +kernel
theorem own_inw3_d19 : decode jdk_43_method_37_code 19 = .ok (.if_icmp .eq 22, 3) := by decide +kernel
theorem own_inw3_d22 : decode jdk_43_method_37_code 22 = .ok (.iload_n 3, 1) := by decide +kernel
theorem own_inw3_d23 : decode jdk_43_method_37_code 23 = .ok (.bipush 9, 2) := by decide +kernel
theorem own_inw3_d25 : decode jdk_43_method_37_code 25 = .ok (.if_icmp .eq 16, 3) := by decide +kernel
theorem own_inw3_d28 : decode jdk_43_method_37_code 28 = .ok (.getstatic 66, 3) := by decide +kernel
theorem own_inw3_d31 : decode jdk_43_method_37_code 31 = .ok (.iload_n 3, 1) := by decide +kernel
theorem own_inw3_d32 : decode jdk_43_method_37_code 32 = .ok (.invokevirtual 211, 3) := by decide +kernel
theorem own_inw3_d35 : decode jdk_43_method_37_code 35 = .ok (.ifCond .ne 6, 3) := by decide +kernel
theorem own_inw3_d38 : decode jdk_43_method_37_code 38 = .ok (.goto 9, 3) := by decide +kernel
theorem own_inw3_d41 : decode jdk_43_method_37_code 41 = .ok (.iinc 2 1, 3) := by decide +kernel
theorem own_inw3_d44 : decode jdk_43_method_37_code 44 = .ok (.goto (-39), 3) := by decide +kernel
theorem own_inw3_d47 : decode jdk_43_method_37_code 47 = .ok (.iload_n 2, 1) := by decide +kernel
theorem own_inw3_d48 : decode jdk_43_method_37_code 48 = .ok (.ireturn, 1) := by decide +kernel
theorem own_inw3_pn : plainName "java/lang/StringLatin1" = true := by first | (simp [plainName, overriddenIn]; done) | decide +kernel
theorem own_inw3_pd0 : parseMethodDescriptor "([BI)C" = some ⟨[(.array .byte), .int], some .char⟩ := by decide +kernel
theorem own_inw3_pd1 : parseMethodDescriptor "(I)Z" = some ⟨[.int], some .boolean⟩ := by decide +kernel
theorem own_inw3_ef (m : MethodId) (x0 : Addr) : entryFrame m #[(.ref x0)] 4 = mkF m 0 #[.val (.ref x0), .unset, .unset, .unset] [] := by first | (simp [entryFrame, mkF, argsToLocals, Value.category]; done) | rfl
def own_inw3_Q (Z : State) (zc : Int32) (ci : Addr) (ta : Addr) (clt : Cell) (tb : Addr) (kb : ClassId) (x0 : Int32) (x1 : Int32) (x2 : Int32) (h0 : Heap) (n0 : Nat) (vv_ : Option Value) (hh_ : Heap) (LL_ : List Loc) : Prop := ∃ r : Int32, vv_ = some (.int r) ∧ Fr n0 LL_ ∧ hh_ = h0 ∧ (¬ r = (3 : Int32))
set_option maxRecDepth 65536 in
set_option maxHeartbeats 40000000 in
theorem own_inw3 (l : Launch) (Z : State) (a0 : Array Value) (hw : ∀ d ∈ tables_1, d.before a0 Z = true) (ws : List Jvm.Cond) (zc : Int32) (ci : Addr) (ta : Addr) (clt : Cell) (tb : Addr) (kb : ClassId) (x0 : Int32) (x1 : Int32) (x2 : Int32) (h0 : Heap) (n0 : Nat) (Z0 : n0 ≤ h0.size) (hOld : Old Z n0 h0) (Scs : Sta Z Z.heap "java/lang/String" "COMPACT_STRINGS" "Z" (.int zc)) (hzc : ¬ zc = (0 : Int32)) (Sci : Sta Z Z.heap "java/lang/CharacterDataLatin1" "instance" "Ljava/lang/CharacterDataLatin1;" (.ref ci)) (Eci : Exa Z Z.heap ci "java/lang/CharacterDataLatin1") (Sca : Sta Z Z.heap "java/lang/CharacterDataLatin1" "A" "[I" (.ref ta)) (Tab : own_tab Z ta clt) (B : Arv Z h0 tb kb .byte (3 : Int32) [(.int x0.toInt8.toInt32), (.int x1.toInt8.toInt32), (.int x2.toInt8.toInt32)] (.int (0 : Int32))) (l_x0 : ¬ x0 < (0 : Int32)) (u_x0 : ¬ (255 : Int32) < x0) (l_x1 : ¬ x1 < (0 : Int32)) (u_x1 : ¬ (255 : Int32) < x1) (l_x2 : ¬ x2 < (0 : Int32)) (u_x2 : ¬ (255 : Int32) < x2) (kk : own_keep x0 ∨ own_keep x1 ∨ own_keep x2) :
    MetFree l (⟨"java/lang/StringLatin1", "indexOfNonWhitespace", "([B)I"⟩ : MethodName) (head1 (Jvm.Cond.code (⟨"java/lang/StringLatin1", "indexOfNonWhitespace", "([B)I"⟩ : MethodName) jdk_43_method_37_code 4 (some .int) :: ws) ({ frames := 2, cells := 0, slots := 0, locals := 29 } : Room)) (fun aa_ UU_ => aa_ = #[(.ref tb)] ∧ Z.Warmed39 UU_.vm ∧ UU_.heap = h0) (fun _ _ _ _ _ => True) (fun _ UU_ oo_ UV_ => ∃ vv_ LL_, oo_ = .returned vv_ ∧ own_inw3_Q Z zc ci ta clt tb kb x0 x1 x2 h0 n0 vv_ UV_.heap LL_ ∧ FrameEnd UU_ oo_ UV_ LL_ ({ frames := 2, cells := 0, slots := 0, locals := 29 } : Room).cells ({ frames := 2, cells := 0, slots := 0, locals := 29 } : Room).slots) := by
  refine MetFree.of_bodySF (plainFor_of_name own_inw3_pn) hisR ?_
  intro p e s m args below meth c s₁ Bd hml0 hP hK
  obtain ⟨rfl, hZ, hh⟩ := hP
  have hx := Bd.exec
  have hby := Bd.bytes
  have hml : c.maxLocals = 4 := hml0
  have hown : s.vm.findClass "java/lang/StringLatin1" = some m.cls := findClass_of_methodNamed Bd.named
  have hnm := (name_of_methodNamed Bd.named Bd.method).1
  have X0 : Stand p l e ({ frames := 2, cells := 0, slots := 0, locals := 29 } : Room) s m #[(.ref tb)] below meth c s₁ [] 0 0 := Stand.of_body Bd
  have e0 : s₁.heap = h0 := by rw [← hh, Bd.state]; rfl
  have N0 := Fr.nil n0
  have KP0 : Keep h0 h0 [] := Keep.refl _ _
  refine ownFin (Q := own_inw3_Q Z zc ci ta clt tb kb x0 x1 x2 h0 n0) ?_
  refine ownStep (fun _ k => castTop (own_inw3_ef m tb) k) ?_
  show ownGo p.tables e below (s₁.setTop (mkF m 0 #[.val (.ref tb), .unset, .unset, .unset] [])) _
  refine ownStep (fun _ k => XS.aloadN X0.here hx rfl (hb hby own_inw3_d0) rfl rfl k) ?_
  show ownGo p.tables e below (s₁.setTop (mkF m 1 #[.val (.ref tb), .unset, .unset, .unset] [(.ref tb)])) _
  have Vo1 := B
  obtain ⟨cl1, Ar1, q1, S1, N1, H1, G1⟩ := Vo1
  refine ownStep (X0.arraylength hx (by rw [e0]; exact Ar1.1) (State.isArrayOf_alike hZ.alike Ar1.2.1) (g := (mkF m 1 #[.val (.ref tb), .unset, .unset, .unset] [(.ref tb)])) rfl rfl (hb hby own_inw3_d1)) ?_
  rw [len_of S1 N1]
  refine ownStep (fun _ k => XS.istoreN X0.here hx rfl (hb hby own_inw3_d2) rfl (l' := #[.val (.ref tb), .val (.int (3 : Int32)), .unset, .unset]) rfl k) ?_
  refine ownStep (fun _ k => XS.iconst X0.here hx rfl (hb hby own_inw3_d3) k) ?_
  refine ownStep (fun _ k => XS.istoreN X0.here hx rfl (hb hby own_inw3_d4) rfl (l' := #[.val (.ref tb), .val (.int (3 : Int32)), .val (.int (0 : Int32)), .unset]) rfl k) ?_
  refine ownStep (fun _ k => XS.iloadN X0.here hx rfl (hb hby own_inw3_d5) rfl  k) ?_
  show ownGo p.tables e below (s₁.setTop (mkF m 6 #[.val (.ref tb), .val (.int (3 : Int32)), .val (.int (0 : Int32)), .unset] [(.int (0 : Int32))])) _
  refine ownStep (fun _ k => XS.iloadN X0.here hx rfl (hb hby own_inw3_d6) rfl  k) ?_
  refine ownStep (fun _ k => XS.icmpNo X0.here hx rfl (hb hby own_inw3_d7) rfl (tlt (by decide : (0 : Int32) < (3 : Int32))).2.1 k) ?_
  refine ownStep (fun _ k => XS.aloadN X0.here hx rfl (hb hby own_inw3_d10) rfl rfl k) ?_
  refine ownStep (fun _ k => XS.iloadN X0.here hx rfl (hb hby own_inw3_d11) rfl  k) ?_
  show ownGo p.tables e below (s₁.setTop (mkF m 12 #[.val (.ref tb), .val (.int (3 : Int32)), .val (.int (0 : Int32)), .unset] [(.int (0 : Int32)), (.ref tb)])) _
  have J0 : ∀ (Tj : State) (Lj : List Loc) (Xj : Stand p l e ({ frames := 2, cells := 0, slots := 0, locals := 29 } : Room) s m #[(.ref tb)] below meth c Tj Lj 0 0) (ej : Tj.heap = h0) (Nj : Fr n0 Lj) (hws0 : own_ws clt x0), ownGo p.tables e below (Tj.setTop (mkF m 41 #[.val (.ref tb), .val (.int (3 : Int32)), .val (.int (0 : Int32)), .val (.int x0)] [])) (ownEnd below s (own_inw3_Q Z zc ci ta clt tb kb x0 x1 x2 h0 n0) ({ frames := 2, cells := 0, slots := 0, locals := 29 } : Room).cells ({ frames := 2, cells := 0, slots := 0, locals := 29 } : Room).slots) := by
    intro Tj Lj Xj ej Nj hws0
    refine ownStep (fun _ k => XS.iinc Xj.here hx rfl (hb hby own_inw3_d41) rfl (l' := #[.val (.ref tb), .val (.int (3 : Int32)), .val (.int (1 : Int32)), .val (.int x0)]) rfl k) ?_
    refine ownStep (fun _ k => XS.goto Xj.here hx rfl (pc0 := 44) (pc' := 5) rfl (hb hby own_inw3_d44) (by decide) (by decide) k) ?_
    refine ownStep (fun _ k => XS.iloadN Xj.here hx rfl (hb hby own_inw3_d5) rfl  k) ?_
    refine ownStep (fun _ k => XS.iloadN Xj.here hx rfl (hb hby own_inw3_d6) rfl  k) ?_
    show ownGo p.tables e below (Tj.setTop (mkF m 7 #[.val (.ref tb), .val (.int (3 : Int32)), .val (.int (1 : Int32)), .val (.int x0)] [(.int (3 : Int32)), (.int (1 : Int32))])) _
    refine ownStep (fun _ k => XS.icmpNo Xj.here hx rfl (hb hby own_inw3_d7) rfl (tlt (by decide : (1 : Int32) < (3 : Int32))).2.1 k) ?_
    refine ownStep (fun _ k => XS.aloadN Xj.here hx rfl (hb hby own_inw3_d10) rfl rfl k) ?_
    refine ownStep (fun _ k => XS.iloadN Xj.here hx rfl (hb hby own_inw3_d11) rfl  k) ?_
    show ownGo p.tables e below (Tj.setTop (mkF m 12 #[.val (.ref tb), .val (.int (3 : Int32)), .val (.int (1 : Int32)), .val (.int x0)] [(.int (1 : Int32)), (.ref tb)])) _
    have J1 : ∀ (Tj : State) (Lj : List Loc) (Xj : Stand p l e ({ frames := 2, cells := 0, slots := 0, locals := 29 } : Room) s m #[(.ref tb)] below meth c Tj Lj 0 0) (ej : Tj.heap = h0) (Nj : Fr n0 Lj) (hws1 : own_ws clt x1), ownGo p.tables e below (Tj.setTop (mkF m 41 #[.val (.ref tb), .val (.int (3 : Int32)), .val (.int (1 : Int32)), .val (.int x1)] [])) (ownEnd below s (own_inw3_Q Z zc ci ta clt tb kb x0 x1 x2 h0 n0) ({ frames := 2, cells := 0, slots := 0, locals := 29 } : Room).cells ({ frames := 2, cells := 0, slots := 0, locals := 29 } : Room).slots) := by
      intro Tj Lj Xj ej Nj hws1
      refine ownStep (fun _ k => XS.iinc Xj.here hx rfl (hb hby own_inw3_d41) rfl (l' := #[.val (.ref tb), .val (.int (3 : Int32)), .val (.int (2 : Int32)), .val (.int x1)]) rfl k) ?_
      refine ownStep (fun _ k => XS.goto Xj.here hx rfl (pc0 := 44) (pc' := 5) rfl (hb hby own_inw3_d44) (by decide) (by decide) k) ?_
      refine ownStep (fun _ k => XS.iloadN Xj.here hx rfl (hb hby own_inw3_d5) rfl  k) ?_
      refine ownStep (fun _ k => XS.iloadN Xj.here hx rfl (hb hby own_inw3_d6) rfl  k) ?_
      show ownGo p.tables e below (Tj.setTop (mkF m 7 #[.val (.ref tb), .val (.int (3 : Int32)), .val (.int (2 : Int32)), .val (.int x1)] [(.int (3 : Int32)), (.int (2 : Int32))])) _
      refine ownStep (fun _ k => XS.icmpNo Xj.here hx rfl (hb hby own_inw3_d7) rfl (tlt (by decide : (2 : Int32) < (3 : Int32))).2.1 k) ?_
      refine ownStep (fun _ k => XS.aloadN Xj.here hx rfl (hb hby own_inw3_d10) rfl rfl k) ?_
      refine ownStep (fun _ k => XS.iloadN Xj.here hx rfl (hb hby own_inw3_d11) rfl  k) ?_
      show ownGo p.tables e below (Tj.setTop (mkF m 12 #[.val (.ref tb), .val (.int (3 : Int32)), .val (.int (2 : Int32)), .val (.int x1)] [(.int (2 : Int32)), (.ref tb)])) _
      have J2 : ∀ (Tj : State) (Lj : List Loc) (Xj : Stand p l e ({ frames := 2, cells := 0, slots := 0, locals := 29 } : Room) s m #[(.ref tb)] below meth c Tj Lj 0 0) (ej : Tj.heap = h0) (Nj : Fr n0 Lj) (hws2 : own_ws clt x2), ownGo p.tables e below (Tj.setTop (mkF m 41 #[.val (.ref tb), .val (.int (3 : Int32)), .val (.int (2 : Int32)), .val (.int x2)] [])) (ownEnd below s (own_inw3_Q Z zc ci ta clt tb kb x0 x1 x2 h0 n0) ({ frames := 2, cells := 0, slots := 0, locals := 29 } : Room).cells ({ frames := 2, cells := 0, slots := 0, locals := 29 } : Room).slots) := by
        intro Tj Lj Xj ej Nj hws2
        refine ownStep (fun _ k => XS.iinc Xj.here hx rfl (hb hby own_inw3_d41) rfl (l' := #[.val (.ref tb), .val (.int (3 : Int32)), .val (.int (3 : Int32)), .val (.int x2)]) rfl k) ?_
        refine ownStep (fun _ k => XS.goto Xj.here hx rfl (pc0 := 44) (pc' := 5) rfl (hb hby own_inw3_d44) (by decide) (by decide) k) ?_
        refine ownStep (fun _ k => XS.iloadN Xj.here hx rfl (hb hby own_inw3_d5) rfl  k) ?_
        refine ownStep (fun _ k => XS.iloadN Xj.here hx rfl (hb hby own_inw3_d6) rfl  k) ?_
        show ownGo p.tables e below (Tj.setTop (mkF m 7 #[.val (.ref tb), .val (.int (3 : Int32)), .val (.int (3 : Int32)), .val (.int x2)] [(.int (3 : Int32)), (.int (3 : Int32))])) _
        exact absurd kk (own_none3 Tab hws0 hws1 hws2)
      show ownGo p.tables e below (Tj.setTop (mkF m 12 #[.val (.ref tb), .val (.int (3 : Int32)), .val (.int (2 : Int32)), .val (.int x1)] [(.int (2 : Int32)), (.ref tb)])) _
      have Zs3 : n0 ≤ h0.size := Nat.le_trans Z0 KP0.1
      obtain ⟨_, _, ⟨T2, L2, k2, n2⟩, -, X2, ⟨Lc2, hQ2, l2, y2, z2⟩, st2⟩ := Jvm.LawKit.callS Xj hx (y := (⟨"java/lang/StringLatin1", "getChar", "([BI)C"⟩ : MethodName)) hown (mvT hZ (hw _ (List.mem_of_getElem? (i := 70) rfl))) (mvT hZ (hw _ (List.mem_of_getElem? (i := 71) rfl))) (mvT hZ (hw _ (List.mem_of_getElem? (i := 39) rfl))) (mvT hZ (hw _ (List.mem_of_getElem? (i := 72) rfl))) (by decide) (backOf (W := 0) (own_gc3_2 l Z a0 hw [] tb kb x0 x1 x2 h0 n0 Zs3 B l_x2 u_x2) hZ (hw _ (List.mem_of_getElem? (i := 72) rfl)) (hw _ (List.mem_of_getElem? (i := 39) rfl)) (by decide) (by decide)) (g := (mkF m 12 #[.val (.ref tb), .val (.int (3 : Int32)), .val (.int (2 : Int32)), .val (.int x1)] [(.int (2 : Int32)), (.ref tb)])) rfl (by rw [hml]; rfl) (argsL := [(.ref tb), (.int (2 : Int32))]) (rest := []) (lenOf own_inw3_pd0 rfl) rfl (by show 2 * 0 + _ ≤ _; exact Nat.le_of_eq rfl) (hb hby own_inw3_d12) (fun _ _ => ⟨rfl, ej, (by decide : 0 + 0 ≤ _), (by decide : 0 + 0 ≤ _)⟩)
      dsimp only [Pt.U, Pt.locs, Pt.cells, Pt.slots] at X2 l2 y2 z2 st2 hQ2
      obtain rfl : k2 = 0 := y2
      obtain rfl : n2 = 0 := z2
      obtain ⟨rfl, N2q, R2⟩ := hQ2
      have N2 : Fr n0 L2 := l2 ▸ Fr.app Nj N2q
      refine ownStep (fun _ k => st2 _ k) ?_
      refine ownStep (fun _ k => XS.istoreN X2.here hx rfl (hb hby own_inw3_d15) rfl (l' := #[.val (.ref tb), .val (.int (3 : Int32)), .val (.int (2 : Int32)), .val (.int x2)]) rfl k) ?_
      refine ownStep (fun _ k => XS.iloadN X2.here hx rfl (hb hby own_inw3_d16) rfl  k) ?_
      refine ownStep (fun _ k => XS.bipush X2.here hx rfl (hb hby own_inw3_d17) k) ?_
      show ownGo p.tables e below (T2.setTop (mkF m 19 #[.val (.ref tb), .val (.int (3 : Int32)), .val (.int (2 : Int32)), .val (.int x2)] [(.int (32 : Int32)), (.int x2)])) _
      by_cases hc19 : x2 = (32 : Int32)
      · skip
        refine ownStep (fun _ k => XS.icmpYes X2.here hx rfl (pc0 := 19) (pc' := 41) rfl (hb hby own_inw3_d19) rfl (teq (hc19 : x2 = (32 : Int32))).1 (by decide) (by decide) k) ?_
        show ownGo p.tables e below (T2.setTop (mkF m 41 #[.val (.ref tb), .val (.int (3 : Int32)), .val (.int (2 : Int32)), .val (.int x2)] [])) _
        exact J2 _ _ X2 R2 N2 (Or.inl hc19)
      · skip
        refine ownStep (fun _ k => XS.icmpNo X2.here hx rfl (hb hby own_inw3_d19) rfl (feq (hc19 : ¬ x2 = (32 : Int32))).1 k) ?_
        refine ownStep (fun _ k => XS.iloadN X2.here hx rfl (hb hby own_inw3_d22) rfl  k) ?_
        refine ownStep (fun _ k => XS.bipush X2.here hx rfl (hb hby own_inw3_d23) k) ?_
        show ownGo p.tables e below (T2.setTop (mkF m 25 #[.val (.ref tb), .val (.int (3 : Int32)), .val (.int (2 : Int32)), .val (.int x2)] [(.int (9 : Int32)), (.int x2)])) _
        by_cases hc25 : x2 = (9 : Int32)
        · skip
          refine ownStep (fun _ k => XS.icmpYes X2.here hx rfl (pc0 := 25) (pc' := 41) rfl (hb hby own_inw3_d25) rfl (teq (hc25 : x2 = (9 : Int32))).1 (by decide) (by decide) k) ?_
          show ownGo p.tables e below (T2.setTop (mkF m 41 #[.val (.ref tb), .val (.int (3 : Int32)), .val (.int (2 : Int32)), .val (.int x2)] [])) _
          exact J2 _ _ X2 R2 N2 (Or.inr (Or.inl hc25))
        · skip
          refine ownStep (fun _ k => XS.icmpNo X2.here hx rfl (hb hby own_inw3_d25) rfl (feq (hc25 : ¬ x2 = (9 : Int32))).1 k) ?_
          show ownGo p.tables e below (T2.setTop (mkF m 28 #[.val (.ref tb), .val (.int (3 : Int32)), .val (.int (2 : Int32)), .val (.int x2)] [])) _
          have Q4 : Sta Z h0 "java/lang/CharacterDataLatin1" "instance" "Ljava/lang/CharacterDataLatin1;" (.ref ci) := Sci.ext hOld.2
          obtain ⟨T5, X5, e5, st5⟩ := getS2 X2 hx hZ hown (host := "") (Or.inl (hw _ (List.mem_of_getElem? (i := 73) rfl))) Via.refl R2 Q4 (g := (mkF m 28 #[.val (.ref tb), .val (.int (3 : Int32)), .val (.int (2 : Int32)), .val (.int x2)] [])) rfl (hb hby own_inw3_d28)
          refine ownStep st5 ?_
          refine ownStep (fun _ k => XS.iloadN X5.here hx rfl (hb hby own_inw3_d31) rfl  k) ?_
          show ownGo p.tables e below (T5.setTop (mkF m 32 #[.val (.ref tb), .val (.int (3 : Int32)), .val (.int (2 : Int32)), .val (.int x2)] [(.int x2), (.ref ci)])) _
          have Q6 : Exa Z h0 ci "java/lang/CharacterDataLatin1" := Eci.ext hOld.2
          have Zs8 : n0 ≤ h0.size := Nat.le_trans Z0 KP0.1
          obtain ⟨cq7, kq7, q7a, q7b, q7c⟩ := isOf hZ e5 Q6
          obtain ⟨_, _, ⟨T7, L7, k7, n7⟩, -, X7, ⟨Lc7, hQ7, l7, y7, z7⟩, st7⟩ := X5.virtualBack hx (y := (⟨"java/lang/CharacterDataLatin1", "isWhitespace", "(I)Z"⟩ : MethodName)) (z := (⟨"java/lang/CharacterDataLatin1", "isWhitespace", "(I)Z"⟩ : MethodName)) hown (mvT hZ (hw _ (List.mem_of_getElem? (i := 75) rfl))) (mvT hZ (hw _ (List.mem_of_getElem? (i := 76) rfl))) (notFace_of_selects (args := #[]) (mvT hZ (hw _ (List.mem_of_getElem? (i := 78) rfl)))) (mvT hZ (hw _ (List.mem_of_getElem? (i := 78) rfl))) (mvT hZ (hw _ (List.mem_of_getElem? (i := 77) rfl))) (by decide) (backOf (W := 0) (own_iw l Z a0 hw [] ci ta clt ci x2 h0 n0 Zs8 hOld Q6 Sci Eci Sca Tab l_x2 u_x2) hZ (hw _ (List.mem_of_getElem? (i := 79) rfl)) (hw _ (List.mem_of_getElem? (i := 74) rfl)) (by decide) (by decide)) q7a q7c (g := (mkF m 32 #[.val (.ref tb), .val (.int (3 : Int32)), .val (.int (2 : Int32)), .val (.int x2)] [(.int x2), (.ref ci)])) rfl (by rw [hml]; rfl) (Steps.refl _) (argsL := [(.int x2)]) (rest := []) (lenOf own_inw3_pd1 rfl) rfl (by show 2 * 0 + _ ≤ _; exact Nat.le_of_eq rfl) (hb hby own_inw3_d32) (fun _ _ => ⟨rfl, e5, (by decide : 0 + 0 ≤ _), (by decide : 0 + 0 ≤ _)⟩)
          dsimp only [Pt.U, Pt.locs, Pt.cells, Pt.slots] at X7 l7 y7 z7 st7 hQ7
          obtain rfl : k7 = 0 := y7
          obtain rfl : n7 = 0 := z7
          obtain ⟨r_7, rfl, N7q, R7, P9⟩ := hQ7
          have N7 : Fr n0 L7 := l7 ▸ Fr.app N2 N7q
          refine ownStep (fun _ k => st7.trans k) ?_
          show ownGo p.tables e below (T7.setTop (mkF m 35 #[.val (.ref tb), .val (.int (3 : Int32)), .val (.int (2 : Int32)), .val (.int x2)] [(.int r_7)])) _
          by_cases hc35 : r_7 = (0 : Int32)
          · skip
            refine ownStep (fun _ k => XS.ifNo X7.here hx rfl (hb hby own_inw3_d35) rfl ((if0 _ _).trans (teq (hc35 : r_7 = (0 : Int32))).2) k) ?_
            refine ownStep (fun _ k => XS.goto X7.here hx rfl (pc0 := 38) (pc' := 47) rfl (hb hby own_inw3_d38) (by decide) (by decide) k) ?_
            refine ownStep (fun _ k => XS.iloadN X7.here hx rfl (hb hby own_inw3_d47) rfl  k) ?_
            show ownGo p.tables e below (T7.setTop (mkF m 48 #[.val (.ref tb), .val (.int (3 : Int32)), .val (.int (2 : Int32)), .val (.int x2)] [(.int (2 : Int32))])) _
            exact ownRet X7 (v := some (.int (2 : Int32))) Bd.notSynchronized (fun h => by rw [Bd.returns] at h; cases h) (fun _ hr => retI X7 hx Bd.returns (hb hby own_inw3_d48) hr) (by rw [R7]; exact ⟨(2 : Int32), rfl, N7, rfl, (by decide)⟩) (by decide) (by decide)
          · skip
            refine ownStep (fun _ k => XS.ifYes X7.here hx rfl (pc0 := 35) (pc' := 41) rfl (hb hby own_inw3_d35) rfl ((if0 _ _).trans (feq (hc35 : ¬ r_7 = (0 : Int32))).2) (by decide) (by decide) k) ?_
            show ownGo p.tables e below (T7.setTop (mkF m 41 #[.val (.ref tb), .val (.int (3 : Int32)), .val (.int (2 : Int32)), .val (.int x2)] [])) _
            exact J2 _ _ X7 R7 N7 (Or.inr (Or.inr (own_wsr P9 hc35)))
    show ownGo p.tables e below (Tj.setTop (mkF m 12 #[.val (.ref tb), .val (.int (3 : Int32)), .val (.int (1 : Int32)), .val (.int x0)] [(.int (1 : Int32)), (.ref tb)])) _
    have Zs11 : n0 ≤ h0.size := Nat.le_trans Z0 KP0.1
    obtain ⟨_, _, ⟨T10, L10, k10, n10⟩, -, X10, ⟨Lc10, hQ10, l10, y10, z10⟩, st10⟩ := Jvm.LawKit.callS Xj hx (y := (⟨"java/lang/StringLatin1", "getChar", "([BI)C"⟩ : MethodName)) hown (mvT hZ (hw _ (List.mem_of_getElem? (i := 70) rfl))) (mvT hZ (hw _ (List.mem_of_getElem? (i := 71) rfl))) (mvT hZ (hw _ (List.mem_of_getElem? (i := 39) rfl))) (mvT hZ (hw _ (List.mem_of_getElem? (i := 72) rfl))) (by decide) (backOf (W := 0) (own_gc3_1 l Z a0 hw [] tb kb x0 x1 x2 h0 n0 Zs11 B l_x1 u_x1) hZ (hw _ (List.mem_of_getElem? (i := 72) rfl)) (hw _ (List.mem_of_getElem? (i := 39) rfl)) (by decide) (by decide)) (g := (mkF m 12 #[.val (.ref tb), .val (.int (3 : Int32)), .val (.int (1 : Int32)), .val (.int x0)] [(.int (1 : Int32)), (.ref tb)])) rfl (by rw [hml]; rfl) (argsL := [(.ref tb), (.int (1 : Int32))]) (rest := []) (lenOf own_inw3_pd0 rfl) rfl (by show 2 * 0 + _ ≤ _; exact Nat.le_of_eq rfl) (hb hby own_inw3_d12) (fun _ _ => ⟨rfl, ej, (by decide : 0 + 0 ≤ _), (by decide : 0 + 0 ≤ _)⟩)
    dsimp only [Pt.U, Pt.locs, Pt.cells, Pt.slots] at X10 l10 y10 z10 st10 hQ10
    obtain rfl : k10 = 0 := y10
    obtain rfl : n10 = 0 := z10
    obtain ⟨rfl, N10q, R10⟩ := hQ10
    have N10 : Fr n0 L10 := l10 ▸ Fr.app Nj N10q
    refine ownStep (fun _ k => st10 _ k) ?_
    refine ownStep (fun _ k => XS.istoreN X10.here hx rfl (hb hby own_inw3_d15) rfl (l' := #[.val (.ref tb), .val (.int (3 : Int32)), .val (.int (1 : Int32)), .val (.int x1)]) rfl k) ?_
    refine ownStep (fun _ k => XS.iloadN X10.here hx rfl (hb hby own_inw3_d16) rfl  k) ?_
    refine ownStep (fun _ k => XS.bipush X10.here hx rfl (hb hby own_inw3_d17) k) ?_
    show ownGo p.tables e below (T10.setTop (mkF m 19 #[.val (.ref tb), .val (.int (3 : Int32)), .val (.int (1 : Int32)), .val (.int x1)] [(.int (32 : Int32)), (.int x1)])) _
    by_cases hc19 : x1 = (32 : Int32)
    · skip
      refine ownStep (fun _ k => XS.icmpYes X10.here hx rfl (pc0 := 19) (pc' := 41) rfl (hb hby own_inw3_d19) rfl (teq (hc19 : x1 = (32 : Int32))).1 (by decide) (by decide) k) ?_
      show ownGo p.tables e below (T10.setTop (mkF m 41 #[.val (.ref tb), .val (.int (3 : Int32)), .val (.int (1 : Int32)), .val (.int x1)] [])) _
      exact J1 _ _ X10 R10 N10 (Or.inl hc19)
    · skip
      refine ownStep (fun _ k => XS.icmpNo X10.here hx rfl (hb hby own_inw3_d19) rfl (feq (hc19 : ¬ x1 = (32 : Int32))).1 k) ?_
      refine ownStep (fun _ k => XS.iloadN X10.here hx rfl (hb hby own_inw3_d22) rfl  k) ?_
      refine ownStep (fun _ k => XS.bipush X10.here hx rfl (hb hby own_inw3_d23) k) ?_
      show ownGo p.tables e below (T10.setTop (mkF m 25 #[.val (.ref tb), .val (.int (3 : Int32)), .val (.int (1 : Int32)), .val (.int x1)] [(.int (9 : Int32)), (.int x1)])) _
      by_cases hc25 : x1 = (9 : Int32)
      · skip
        refine ownStep (fun _ k => XS.icmpYes X10.here hx rfl (pc0 := 25) (pc' := 41) rfl (hb hby own_inw3_d25) rfl (teq (hc25 : x1 = (9 : Int32))).1 (by decide) (by decide) k) ?_
        show ownGo p.tables e below (T10.setTop (mkF m 41 #[.val (.ref tb), .val (.int (3 : Int32)), .val (.int (1 : Int32)), .val (.int x1)] [])) _
        exact J1 _ _ X10 R10 N10 (Or.inr (Or.inl hc25))
      · skip
        refine ownStep (fun _ k => XS.icmpNo X10.here hx rfl (hb hby own_inw3_d25) rfl (feq (hc25 : ¬ x1 = (9 : Int32))).1 k) ?_
        show ownGo p.tables e below (T10.setTop (mkF m 28 #[.val (.ref tb), .val (.int (3 : Int32)), .val (.int (1 : Int32)), .val (.int x1)] [])) _
        have Q12 : Sta Z h0 "java/lang/CharacterDataLatin1" "instance" "Ljava/lang/CharacterDataLatin1;" (.ref ci) := Sci.ext hOld.2
        obtain ⟨T13, X13, e13, st13⟩ := getS2 X10 hx hZ hown (host := "") (Or.inl (hw _ (List.mem_of_getElem? (i := 73) rfl))) Via.refl R10 Q12 (g := (mkF m 28 #[.val (.ref tb), .val (.int (3 : Int32)), .val (.int (1 : Int32)), .val (.int x1)] [])) rfl (hb hby own_inw3_d28)
        refine ownStep st13 ?_
        refine ownStep (fun _ k => XS.iloadN X13.here hx rfl (hb hby own_inw3_d31) rfl  k) ?_
        show ownGo p.tables e below (T13.setTop (mkF m 32 #[.val (.ref tb), .val (.int (3 : Int32)), .val (.int (1 : Int32)), .val (.int x1)] [(.int x1), (.ref ci)])) _
        have Q14 : Exa Z h0 ci "java/lang/CharacterDataLatin1" := Eci.ext hOld.2
        have Zs16 : n0 ≤ h0.size := Nat.le_trans Z0 KP0.1
        obtain ⟨cq15, kq15, q15a, q15b, q15c⟩ := isOf hZ e13 Q14
        obtain ⟨_, _, ⟨T15, L15, k15, n15⟩, -, X15, ⟨Lc15, hQ15, l15, y15, z15⟩, st15⟩ := X13.virtualBack hx (y := (⟨"java/lang/CharacterDataLatin1", "isWhitespace", "(I)Z"⟩ : MethodName)) (z := (⟨"java/lang/CharacterDataLatin1", "isWhitespace", "(I)Z"⟩ : MethodName)) hown (mvT hZ (hw _ (List.mem_of_getElem? (i := 75) rfl))) (mvT hZ (hw _ (List.mem_of_getElem? (i := 76) rfl))) (notFace_of_selects (args := #[]) (mvT hZ (hw _ (List.mem_of_getElem? (i := 78) rfl)))) (mvT hZ (hw _ (List.mem_of_getElem? (i := 78) rfl))) (mvT hZ (hw _ (List.mem_of_getElem? (i := 77) rfl))) (by decide) (backOf (W := 0) (own_iw l Z a0 hw [] ci ta clt ci x1 h0 n0 Zs16 hOld Q14 Sci Eci Sca Tab l_x1 u_x1) hZ (hw _ (List.mem_of_getElem? (i := 79) rfl)) (hw _ (List.mem_of_getElem? (i := 74) rfl)) (by decide) (by decide)) q15a q15c (g := (mkF m 32 #[.val (.ref tb), .val (.int (3 : Int32)), .val (.int (1 : Int32)), .val (.int x1)] [(.int x1), (.ref ci)])) rfl (by rw [hml]; rfl) (Steps.refl _) (argsL := [(.int x1)]) (rest := []) (lenOf own_inw3_pd1 rfl) rfl (by show 2 * 0 + _ ≤ _; exact Nat.le_of_eq rfl) (hb hby own_inw3_d32) (fun _ _ => ⟨rfl, e13, (by decide : 0 + 0 ≤ _), (by decide : 0 + 0 ≤ _)⟩)
        dsimp only [Pt.U, Pt.locs, Pt.cells, Pt.slots] at X15 l15 y15 z15 st15 hQ15
        obtain rfl : k15 = 0 := y15
        obtain rfl : n15 = 0 := z15
        obtain ⟨r_15, rfl, N15q, R15, P17⟩ := hQ15
        have N15 : Fr n0 L15 := l15 ▸ Fr.app N10 N15q
        refine ownStep (fun _ k => st15.trans k) ?_
        show ownGo p.tables e below (T15.setTop (mkF m 35 #[.val (.ref tb), .val (.int (3 : Int32)), .val (.int (1 : Int32)), .val (.int x1)] [(.int r_15)])) _
        by_cases hc35 : r_15 = (0 : Int32)
        · skip
          refine ownStep (fun _ k => XS.ifNo X15.here hx rfl (hb hby own_inw3_d35) rfl ((if0 _ _).trans (teq (hc35 : r_15 = (0 : Int32))).2) k) ?_
          refine ownStep (fun _ k => XS.goto X15.here hx rfl (pc0 := 38) (pc' := 47) rfl (hb hby own_inw3_d38) (by decide) (by decide) k) ?_
          refine ownStep (fun _ k => XS.iloadN X15.here hx rfl (hb hby own_inw3_d47) rfl  k) ?_
          show ownGo p.tables e below (T15.setTop (mkF m 48 #[.val (.ref tb), .val (.int (3 : Int32)), .val (.int (1 : Int32)), .val (.int x1)] [(.int (1 : Int32))])) _
          exact ownRet X15 (v := some (.int (1 : Int32))) Bd.notSynchronized (fun h => by rw [Bd.returns] at h; cases h) (fun _ hr => retI X15 hx Bd.returns (hb hby own_inw3_d48) hr) (by rw [R15]; exact ⟨(1 : Int32), rfl, N15, rfl, (by decide)⟩) (by decide) (by decide)
        · skip
          refine ownStep (fun _ k => XS.ifYes X15.here hx rfl (pc0 := 35) (pc' := 41) rfl (hb hby own_inw3_d35) rfl ((if0 _ _).trans (feq (hc35 : ¬ r_15 = (0 : Int32))).2) (by decide) (by decide) k) ?_
          show ownGo p.tables e below (T15.setTop (mkF m 41 #[.val (.ref tb), .val (.int (3 : Int32)), .val (.int (1 : Int32)), .val (.int x1)] [])) _
          exact J1 _ _ X15 R15 N15 (Or.inr (Or.inr (own_wsr P17 hc35)))
  show ownGo p.tables e below (s₁.setTop (mkF m 12 #[.val (.ref tb), .val (.int (3 : Int32)), .val (.int (0 : Int32)), .unset] [(.int (0 : Int32)), (.ref tb)])) _
  have Zs19 : n0 ≤ h0.size := Nat.le_trans Z0 KP0.1
  obtain ⟨_, _, ⟨T18, L18, k18, n18⟩, -, X18, ⟨Lc18, hQ18, l18, y18, z18⟩, st18⟩ := Jvm.LawKit.callS X0 hx (y := (⟨"java/lang/StringLatin1", "getChar", "([BI)C"⟩ : MethodName)) hown (mvT hZ (hw _ (List.mem_of_getElem? (i := 70) rfl))) (mvT hZ (hw _ (List.mem_of_getElem? (i := 71) rfl))) (mvT hZ (hw _ (List.mem_of_getElem? (i := 39) rfl))) (mvT hZ (hw _ (List.mem_of_getElem? (i := 72) rfl))) (by decide) (backOf (W := 0) (own_gc3_0 l Z a0 hw [] tb kb x0 x1 x2 h0 n0 Zs19 B l_x0 u_x0) hZ (hw _ (List.mem_of_getElem? (i := 72) rfl)) (hw _ (List.mem_of_getElem? (i := 39) rfl)) (by decide) (by decide)) (g := (mkF m 12 #[.val (.ref tb), .val (.int (3 : Int32)), .val (.int (0 : Int32)), .unset] [(.int (0 : Int32)), (.ref tb)])) rfl (by rw [hml]; rfl) (argsL := [(.ref tb), (.int (0 : Int32))]) (rest := []) (lenOf own_inw3_pd0 rfl) rfl (by show 2 * 0 + _ ≤ _; exact Nat.le_of_eq rfl) (hb hby own_inw3_d12) (fun _ _ => ⟨rfl, e0, (by decide : 0 + 0 ≤ _), (by decide : 0 + 0 ≤ _)⟩)
  dsimp only [Pt.U, Pt.locs, Pt.cells, Pt.slots] at X18 l18 y18 z18 st18 hQ18
  obtain rfl : k18 = 0 := y18
  obtain rfl : n18 = 0 := z18
  obtain ⟨rfl, N18q, R18⟩ := hQ18
  have N18 : Fr n0 L18 := l18 ▸ Fr.app N0 N18q
  refine ownStep (fun _ k => st18 _ k) ?_
  refine ownStep (fun _ k => XS.istoreN X18.here hx rfl (hb hby own_inw3_d15) rfl (l' := #[.val (.ref tb), .val (.int (3 : Int32)), .val (.int (0 : Int32)), .val (.int x0)]) rfl k) ?_
  refine ownStep (fun _ k => XS.iloadN X18.here hx rfl (hb hby own_inw3_d16) rfl  k) ?_
  refine ownStep (fun _ k => XS.bipush X18.here hx rfl (hb hby own_inw3_d17) k) ?_
  show ownGo p.tables e below (T18.setTop (mkF m 19 #[.val (.ref tb), .val (.int (3 : Int32)), .val (.int (0 : Int32)), .val (.int x0)] [(.int (32 : Int32)), (.int x0)])) _
  by_cases hc19 : x0 = (32 : Int32)
  · skip
    refine ownStep (fun _ k => XS.icmpYes X18.here hx rfl (pc0 := 19) (pc' := 41) rfl (hb hby own_inw3_d19) rfl (teq (hc19 : x0 = (32 : Int32))).1 (by decide) (by decide) k) ?_
    show ownGo p.tables e below (T18.setTop (mkF m 41 #[.val (.ref tb), .val (.int (3 : Int32)), .val (.int (0 : Int32)), .val (.int x0)] [])) _
    exact J0 _ _ X18 R18 N18 (Or.inl hc19)
  · skip
    refine ownStep (fun _ k => XS.icmpNo X18.here hx rfl (hb hby own_inw3_d19) rfl (feq (hc19 : ¬ x0 = (32 : Int32))).1 k) ?_
    refine ownStep (fun _ k => XS.iloadN X18.here hx rfl (hb hby own_inw3_d22) rfl  k) ?_
    refine ownStep (fun _ k => XS.bipush X18.here hx rfl (hb hby own_inw3_d23) k) ?_
    show ownGo p.tables e below (T18.setTop (mkF m 25 #[.val (.ref tb), .val (.int (3 : Int32)), .val (.int (0 : Int32)), .val (.int x0)] [(.int (9 : Int32)), (.int x0)])) _
    by_cases hc25 : x0 = (9 : Int32)
    · skip
      refine ownStep (fun _ k => XS.icmpYes X18.here hx rfl (pc0 := 25) (pc' := 41) rfl (hb hby own_inw3_d25) rfl (teq (hc25 : x0 = (9 : Int32))).1 (by decide) (by decide) k) ?_
      show ownGo p.tables e below (T18.setTop (mkF m 41 #[.val (.ref tb), .val (.int (3 : Int32)), .val (.int (0 : Int32)), .val (.int x0)] [])) _
      exact J0 _ _ X18 R18 N18 (Or.inr (Or.inl hc25))
    · skip
      refine ownStep (fun _ k => XS.icmpNo X18.here hx rfl (hb hby own_inw3_d25) rfl (feq (hc25 : ¬ x0 = (9 : Int32))).1 k) ?_
      show ownGo p.tables e below (T18.setTop (mkF m 28 #[.val (.ref tb), .val (.int (3 : Int32)), .val (.int (0 : Int32)), .val (.int x0)] [])) _
      have Q20 : Sta Z h0 "java/lang/CharacterDataLatin1" "instance" "Ljava/lang/CharacterDataLatin1;" (.ref ci) := Sci.ext hOld.2
      obtain ⟨T21, X21, e21, st21⟩ := getS2 X18 hx hZ hown (host := "") (Or.inl (hw _ (List.mem_of_getElem? (i := 73) rfl))) Via.refl R18 Q20 (g := (mkF m 28 #[.val (.ref tb), .val (.int (3 : Int32)), .val (.int (0 : Int32)), .val (.int x0)] [])) rfl (hb hby own_inw3_d28)
      refine ownStep st21 ?_
      refine ownStep (fun _ k => XS.iloadN X21.here hx rfl (hb hby own_inw3_d31) rfl  k) ?_
      show ownGo p.tables e below (T21.setTop (mkF m 32 #[.val (.ref tb), .val (.int (3 : Int32)), .val (.int (0 : Int32)), .val (.int x0)] [(.int x0), (.ref ci)])) _
      have Q22 : Exa Z h0 ci "java/lang/CharacterDataLatin1" := Eci.ext hOld.2
      have Zs24 : n0 ≤ h0.size := Nat.le_trans Z0 KP0.1
      obtain ⟨cq23, kq23, q23a, q23b, q23c⟩ := isOf hZ e21 Q22
      obtain ⟨_, _, ⟨T23, L23, k23, n23⟩, -, X23, ⟨Lc23, hQ23, l23, y23, z23⟩, st23⟩ := X21.virtualBack hx (y := (⟨"java/lang/CharacterDataLatin1", "isWhitespace", "(I)Z"⟩ : MethodName)) (z := (⟨"java/lang/CharacterDataLatin1", "isWhitespace", "(I)Z"⟩ : MethodName)) hown (mvT hZ (hw _ (List.mem_of_getElem? (i := 75) rfl))) (mvT hZ (hw _ (List.mem_of_getElem? (i := 76) rfl))) (notFace_of_selects (args := #[]) (mvT hZ (hw _ (List.mem_of_getElem? (i := 78) rfl)))) (mvT hZ (hw _ (List.mem_of_getElem? (i := 78) rfl))) (mvT hZ (hw _ (List.mem_of_getElem? (i := 77) rfl))) (by decide) (backOf (W := 0) (own_iw l Z a0 hw [] ci ta clt ci x0 h0 n0 Zs24 hOld Q22 Sci Eci Sca Tab l_x0 u_x0) hZ (hw _ (List.mem_of_getElem? (i := 79) rfl)) (hw _ (List.mem_of_getElem? (i := 74) rfl)) (by decide) (by decide)) q23a q23c (g := (mkF m 32 #[.val (.ref tb), .val (.int (3 : Int32)), .val (.int (0 : Int32)), .val (.int x0)] [(.int x0), (.ref ci)])) rfl (by rw [hml]; rfl) (Steps.refl _) (argsL := [(.int x0)]) (rest := []) (lenOf own_inw3_pd1 rfl) rfl (by show 2 * 0 + _ ≤ _; exact Nat.le_of_eq rfl) (hb hby own_inw3_d32) (fun _ _ => ⟨rfl, e21, (by decide : 0 + 0 ≤ _), (by decide : 0 + 0 ≤ _)⟩)
      dsimp only [Pt.U, Pt.locs, Pt.cells, Pt.slots] at X23 l23 y23 z23 st23 hQ23
      obtain rfl : k23 = 0 := y23
      obtain rfl : n23 = 0 := z23
      obtain ⟨r_23, rfl, N23q, R23, P25⟩ := hQ23
      have N23 : Fr n0 L23 := l23 ▸ Fr.app N18 N23q
      refine ownStep (fun _ k => st23.trans k) ?_
      show ownGo p.tables e below (T23.setTop (mkF m 35 #[.val (.ref tb), .val (.int (3 : Int32)), .val (.int (0 : Int32)), .val (.int x0)] [(.int r_23)])) _
      by_cases hc35 : r_23 = (0 : Int32)
      · skip
        refine ownStep (fun _ k => XS.ifNo X23.here hx rfl (hb hby own_inw3_d35) rfl ((if0 _ _).trans (teq (hc35 : r_23 = (0 : Int32))).2) k) ?_
        refine ownStep (fun _ k => XS.goto X23.here hx rfl (pc0 := 38) (pc' := 47) rfl (hb hby own_inw3_d38) (by decide) (by decide) k) ?_
        refine ownStep (fun _ k => XS.iloadN X23.here hx rfl (hb hby own_inw3_d47) rfl  k) ?_
        show ownGo p.tables e below (T23.setTop (mkF m 48 #[.val (.ref tb), .val (.int (3 : Int32)), .val (.int (0 : Int32)), .val (.int x0)] [(.int (0 : Int32))])) _
        exact ownRet X23 (v := some (.int (0 : Int32))) Bd.notSynchronized (fun h => by rw [Bd.returns] at h; cases h) (fun _ hr => retI X23 hx Bd.returns (hb hby own_inw3_d48) hr) (by rw [R23]; exact ⟨(0 : Int32), rfl, N23, rfl, (by decide)⟩) (by decide) (by decide)
      · skip
        refine ownStep (fun _ k => XS.ifYes X23.here hx rfl (pc0 := 35) (pc' := 41) rfl (hb hby own_inw3_d35) rfl ((if0 _ _).trans (feq (hc35 : ¬ r_23 = (0 : Int32))).2) (by decide) (by decide) k) ?_
        show ownGo p.tables e below (T23.setTop (mkF m 41 #[.val (.ref tb), .val (.int (3 : Int32)), .val (.int (0 : Int32)), .val (.int x0)] [])) _
        exact J0 _ _ X23 R23 N23 (Or.inr (Or.inr (own_wsr P25 hc35)))
theorem own_sinw3_d0 : decode jdk_42_method_120_code 0 = .ok (.aload_n 0, 1) := by decide +kernel
theorem own_sinw3_d1 : decode jdk_42_method_120_code 1 = .ok (.invokevirtual 492, 3) := by decide +kernel
theorem own_sinw3_d4 : decode jdk_42_method_120_code 4 = .ok (.ifCond .eq 13, 3) := by decide +kernel
theorem own_sinw3_d7 : decode jdk_42_method_120_code 7 = .ok (.aload_n 0, 1) := by decide +kernel
theorem own_sinw3_d8 : decode jdk_42_method_120_code 8 = .ok (.getfield 9, 3) := by decide +kernel
theorem own_sinw3_d11 : decode jdk_42_method_120_code 11 = .ok (.invokestatic 924, 3) := by decide +kernel
theorem own_sinw3_d14 : decode jdk_42_method_120_code 14 = .ok (.goto 10, 3) := by decide +kernel
theorem own_sinw3_d24 : decode jdk_42_method_120_code 24 = .ok (.ireturn, 1) := by decide +kernel
theorem own_sinw3_pn : plainName "java/lang/String" = true := by first | (simp [plainName, overriddenIn]; done) | decide +kernel
theorem own_sinw3_pd0 : parseMethodDescriptor "()Z" = some ⟨[], some .boolean⟩ := by decide +kernel
theorem own_sinw3_pd1 : parseMethodDescriptor "([B)I" = some ⟨[(.array .byte)], some .int⟩ := by decide +kernel
theorem own_sinw3_ef (m : MethodId) (x0 : Addr) : entryFrame m #[(.ref x0)] 1 = mkF m 0 #[.val (.ref x0)] [] := by first | (simp [entryFrame, mkF, argsToLocals, Value.category]; done) | rfl
def own_sinw3_Q (Z : State) (zc : Int32) (ci : Addr) (ta : Addr) (clt : Cell) (a : Addr) (tb : Addr) (kb : ClassId) (x0 : Int32) (x1 : Int32) (x2 : Int32) (h0 : Heap) (n0 : Nat) (vv_ : Option Value) (hh_ : Heap) (LL_ : List Loc) : Prop := ∃ r : Int32, vv_ = some (.int r) ∧ Fr n0 LL_ ∧ hh_ = h0 ∧ (¬ r = (3 : Int32))
set_option maxRecDepth 65536 in
set_option maxHeartbeats 40000000 in
theorem own_sinw3 (l : Launch) (Z : State) (a0 : Array Value) (hw : ∀ d ∈ tables_1, d.before a0 Z = true) (ws : List Jvm.Cond) (zc : Int32) (ci : Addr) (ta : Addr) (clt : Cell) (a : Addr) (tb : Addr) (kb : ClassId) (x0 : Int32) (x1 : Int32) (x2 : Int32) (h0 : Heap) (n0 : Nat) (Z0 : n0 ≤ h0.size) (hOld : Old Z n0 h0) (Scs : Sta Z Z.heap "java/lang/String" "COMPACT_STRINGS" "Z" (.int zc)) (hzc : ¬ zc = (0 : Int32)) (Sci : Sta Z Z.heap "java/lang/CharacterDataLatin1" "instance" "Ljava/lang/CharacterDataLatin1;" (.ref ci)) (Eci : Exa Z Z.heap ci "java/lang/CharacterDataLatin1") (Sca : Sta Z Z.heap "java/lang/CharacterDataLatin1" "A" "[I" (.ref ta)) (Tab : own_tab Z ta clt) (E : Exa Z h0 a "java/lang/String") (C : Fld Z h0 a "java/lang/String" "coder" "B" (.int (0 : Int32))) (Vl : Fld Z h0 a "java/lang/String" "value" "[B" (.ref tb)) (B : Arv Z h0 tb kb .byte (3 : Int32) [(.int x0.toInt8.toInt32), (.int x1.toInt8.toInt32), (.int x2.toInt8.toInt32)] (.int (0 : Int32))) (l_x0 : ¬ x0 < (0 : Int32)) (u_x0 : ¬ (255 : Int32) < x0) (l_x1 : ¬ x1 < (0 : Int32)) (u_x1 : ¬ (255 : Int32) < x1) (l_x2 : ¬ x2 < (0 : Int32)) (u_x2 : ¬ (255 : Int32) < x2) (kk : own_keep x0 ∨ own_keep x1 ∨ own_keep x2) :
    MetFree l (⟨"java/lang/String", "indexOfNonWhitespace", "()I"⟩ : MethodName) (head1 (Jvm.Cond.code (⟨"java/lang/String", "indexOfNonWhitespace", "()I"⟩ : MethodName) jdk_42_method_120_code 1 (some .int) :: ws) ({ frames := 3, cells := 0, slots := 0, locals := 44 } : Room)) (fun aa_ UU_ => aa_ = #[(.ref a)] ∧ Z.Warmed39 UU_.vm ∧ UU_.heap = h0) (fun _ _ _ _ _ => True) (fun _ UU_ oo_ UV_ => ∃ vv_ LL_, oo_ = .returned vv_ ∧ own_sinw3_Q Z zc ci ta clt a tb kb x0 x1 x2 h0 n0 vv_ UV_.heap LL_ ∧ FrameEnd UU_ oo_ UV_ LL_ ({ frames := 3, cells := 0, slots := 0, locals := 44 } : Room).cells ({ frames := 3, cells := 0, slots := 0, locals := 44 } : Room).slots) := by
  refine MetFree.of_bodySF (plainFor_of_name own_sinw3_pn) hisR ?_
  intro p e s m args below meth c s₁ Bd hml0 hP hK
  obtain ⟨rfl, hZ, hh⟩ := hP
  have hx := Bd.exec
  have hby := Bd.bytes
  have hml : c.maxLocals = 1 := hml0
  have hown : s.vm.findClass "java/lang/String" = some m.cls := findClass_of_methodNamed Bd.named
  have hnm := (name_of_methodNamed Bd.named Bd.method).1
  have X0 : Stand p l e ({ frames := 3, cells := 0, slots := 0, locals := 44 } : Room) s m #[(.ref a)] below meth c s₁ [] 0 0 := Stand.of_body Bd
  have e0 : s₁.heap = h0 := by rw [← hh, Bd.state]; rfl
  have N0 := Fr.nil n0
  have KP0 : Keep h0 h0 [] := Keep.refl _ _
  refine ownFin (Q := own_sinw3_Q Z zc ci ta clt a tb kb x0 x1 x2 h0 n0) ?_
  refine ownStep (fun _ k => castTop (own_sinw3_ef m a) k) ?_
  show ownGo p.tables e below (s₁.setTop (mkF m 0 #[.val (.ref a)] [])) _
  refine ownStep (fun _ k => XS.aloadN X0.here hx rfl (hb hby own_sinw3_d0) rfl rfl k) ?_
  show ownGo p.tables e below (s₁.setTop (mkF m 1 #[.val (.ref a)] [(.ref a)])) _
  have Zs2 : n0 ≤ h0.size := Nat.le_trans Z0 KP0.1
  obtain ⟨cq1, kq1, q1a, q1b, q1c⟩ := isOf hZ e0 E
  obtain ⟨_, _, ⟨T1, L1, k1, n1⟩, -, X1, ⟨Lc1, hQ1, l1, y1, z1⟩, st1⟩ := X0.virtualBack hx (y := (⟨"java/lang/String", "isLatin1", "()Z"⟩ : MethodName)) (z := (⟨"java/lang/String", "isLatin1", "()Z"⟩ : MethodName)) hown (mvT hZ (hw _ (List.mem_of_getElem? (i := 62) rfl))) (mvT hZ (hw _ (List.mem_of_getElem? (i := 63) rfl))) (notFace_of_selects (args := #[]) (mvT hZ (hw _ (List.mem_of_getElem? (i := 65) rfl)))) (mvT hZ (hw _ (List.mem_of_getElem? (i := 65) rfl))) (mvT hZ (hw _ (List.mem_of_getElem? (i := 64) rfl))) (by decide) (backOf (W := 0) (own_isl l Z a0 hw [] zc a h0 n0 Zs2 hOld Scs hzc C) hZ (hw _ (List.mem_of_getElem? (i := 66) rfl)) (hw _ (List.mem_of_getElem? (i := 6) rfl)) (by decide) (by decide)) q1a q1c (g := (mkF m 1 #[.val (.ref a)] [(.ref a)])) rfl (by rw [hml]; rfl) (Steps.refl _) (argsL := []) (rest := []) (lenOf own_sinw3_pd0 rfl) rfl (by show 2 * 0 + _ ≤ _; exact Nat.le_of_eq rfl) (hb hby own_sinw3_d1) (fun _ _ => ⟨rfl, e0, (by decide : 0 + 0 ≤ _), (by decide : 0 + 0 ≤ _)⟩)
  dsimp only [Pt.U, Pt.locs, Pt.cells, Pt.slots] at X1 l1 y1 z1 st1 hQ1
  obtain rfl : k1 = 0 := y1
  obtain rfl : n1 = 0 := z1
  obtain ⟨rfl, N1q, R1⟩ := hQ1
  have N1 : Fr n0 L1 := l1 ▸ Fr.app N0 N1q
  refine ownStep (fun _ k => st1.trans k) ?_
  refine ownStep (fun _ k => XS.ifNo X1.here hx rfl (hb hby own_sinw3_d4) rfl ((if0 _ _).trans (feq (by decide : ¬ (1 : Int32) = (0 : Int32))).1) k) ?_
  refine ownStep (fun _ k => XS.aloadN X1.here hx rfl (hb hby own_sinw3_d7) rfl rfl k) ?_
  show ownGo p.tables e below (T1.setTop (mkF m 8 #[.val (.ref a)] [(.ref a)])) _
  obtain ⟨T3, X3, e3, st3⟩ := getF X1 hx hZ hown (host := "") (Or.inl (hw _ (List.mem_of_getElem? (i := 32) rfl))) Via.refl R1 Vl (g := (mkF m 8 #[.val (.ref a)] [(.ref a)])) rfl rfl (hb hby own_sinw3_d8)
  refine ownStep st3 ?_
  show ownGo p.tables e below (T3.setTop (mkF m 11 #[.val (.ref a)] [(.ref tb)])) _
  have Zs5 : n0 ≤ h0.size := Nat.le_trans Z0 KP0.1
  obtain ⟨_, _, ⟨T4, L4, k4, n4⟩, -, X4, ⟨Lc4, hQ4, l4, y4, z4⟩, st4⟩ := Jvm.LawKit.callS X3 hx (y := (⟨"java/lang/StringLatin1", "indexOfNonWhitespace", "([B)I"⟩ : MethodName)) hown (mvT hZ (hw _ (List.mem_of_getElem? (i := 67) rfl))) (mvT hZ (hw _ (List.mem_of_getElem? (i := 68) rfl))) (mvT hZ (hw _ (List.mem_of_getElem? (i := 39) rfl))) (mvT hZ (hw _ (List.mem_of_getElem? (i := 69) rfl))) (by decide) (backOf (W := 0) (own_inw3 l Z a0 hw [] zc ci ta clt tb kb x0 x1 x2 h0 n0 Zs5 hOld Scs hzc Sci Eci Sca Tab B l_x0 u_x0 l_x1 u_x1 l_x2 u_x2 kk) hZ (hw _ (List.mem_of_getElem? (i := 69) rfl)) (hw _ (List.mem_of_getElem? (i := 39) rfl)) (by decide) (by decide)) (g := (mkF m 11 #[.val (.ref a)] [(.ref tb)])) rfl (by rw [hml]; rfl) (argsL := [(.ref tb)]) (rest := []) (lenOf own_sinw3_pd1 rfl) rfl (by show 2 * 0 + _ ≤ _; exact Nat.le_of_eq rfl) (hb hby own_sinw3_d11) (fun _ _ => ⟨rfl, e3, (by decide : 0 + 0 ≤ _), (by decide : 0 + 0 ≤ _)⟩)
  dsimp only [Pt.U, Pt.locs, Pt.cells, Pt.slots] at X4 l4 y4 z4 st4 hQ4
  obtain rfl : k4 = 0 := y4
  obtain rfl : n4 = 0 := z4
  obtain ⟨r_4, rfl, N4q, R4, P6⟩ := hQ4
  have N4 : Fr n0 L4 := l4 ▸ Fr.app N1 N4q
  refine ownStep (fun _ k => st4 _ k) ?_
  refine ownStep (fun _ k => XS.goto X4.here hx rfl (pc0 := 14) (pc' := 24) rfl (hb hby own_sinw3_d14) (by decide) (by decide) k) ?_
  show ownGo p.tables e below (T4.setTop (mkF m 24 #[.val (.ref a)] [(.int r_4)])) _
  exact ownRet X4 (v := some (.int r_4)) Bd.notSynchronized (fun h => by rw [Bd.returns] at h; cases h) (fun _ hr => retI X4 hx Bd.returns (hb hby own_sinw3_d24) hr) (by rw [R4]; exact ⟨r_4, rfl, N4, rfl, P6⟩) (by decide) (by decide)
theorem own_blank3_d0 : decode jdk_42_method_117_code 0 = .ok (.aload_n 0, 1) := by decide +kernel
theorem own_blank3_d1 : decode jdk_42_method_117_code 1 = .ok (.invokevirtual 876, 3) := by decide +kernel
theorem own_blank3_d4 : decode jdk_42_method_117_code 4 = .ok (.aload_n 0, 1) := by decide +kernel
theorem own_blank3_d5 : decode jdk_42_method_117_code 5 = .ok (.invokevirtual 505, 3) := by decide +kernel
theorem own_blank3_d8 : decode jdk_42_method_117_code 8 = .ok (.if_icmp .ne 7, 3) := by decide +kernel
theorem own_blank3_d15 : decode jdk_42_method_117_code 15 = .ok (.iconst 0, 1) := by decide +kernel
theorem own_blank3_d16 : decode jdk_42_method_117_code 16 = .ok (.ireturn, 1) := by decide +kernel
theorem own_blank3_pn : plainName "java/lang/String" = true := by first | (simp [plainName, overriddenIn]; done) | decide +kernel
theorem own_blank3_pd0 : parseMethodDescriptor "()I" = some ⟨[], some .int⟩ := by decide +kernel
theorem own_blank3_ef (m : MethodId) (x0 : Addr) : entryFrame m #[(.ref x0)] 1 = mkF m 0 #[.val (.ref x0)] [] := by first | (simp [entryFrame, mkF, argsToLocals, Value.category]; done) | rfl
def own_blank3_Q (Z : State) (zc : Int32) (ci : Addr) (ta : Addr) (clt : Cell) (a : Addr) (tb : Addr) (kb : ClassId) (x0 : Int32) (x1 : Int32) (x2 : Int32) (h0 : Heap) (n0 : Nat) (vv_ : Option Value) (hh_ : Heap) (LL_ : List Loc) : Prop := vv_ = some (.int (0 : Int32)) ∧ Fr n0 LL_ ∧ hh_ = h0
set_option maxRecDepth 65536 in
set_option maxHeartbeats 40000000 in
theorem own_blank3 (l : Launch) (Z : State) (a0 : Array Value) (hw : ∀ d ∈ tables_1, d.before a0 Z = true) (ws : List Jvm.Cond) (zc : Int32) (ci : Addr) (ta : Addr) (clt : Cell) (a : Addr) (tb : Addr) (kb : ClassId) (x0 : Int32) (x1 : Int32) (x2 : Int32) (h0 : Heap) (n0 : Nat) (Z0 : n0 ≤ h0.size) (hOld : Old Z n0 h0) (Scs : Sta Z Z.heap "java/lang/String" "COMPACT_STRINGS" "Z" (.int zc)) (hzc : ¬ zc = (0 : Int32)) (Sci : Sta Z Z.heap "java/lang/CharacterDataLatin1" "instance" "Ljava/lang/CharacterDataLatin1;" (.ref ci)) (Eci : Exa Z Z.heap ci "java/lang/CharacterDataLatin1") (Sca : Sta Z Z.heap "java/lang/CharacterDataLatin1" "A" "[I" (.ref ta)) (Tab : own_tab Z ta clt) (E : Exa Z h0 a "java/lang/String") (C : Fld Z h0 a "java/lang/String" "coder" "B" (.int (0 : Int32))) (Vl : Fld Z h0 a "java/lang/String" "value" "[B" (.ref tb)) (B : Arv Z h0 tb kb .byte (3 : Int32) [(.int x0.toInt8.toInt32), (.int x1.toInt8.toInt32), (.int x2.toInt8.toInt32)] (.int (0 : Int32))) (l_x0 : ¬ x0 < (0 : Int32)) (u_x0 : ¬ (255 : Int32) < x0) (l_x1 : ¬ x1 < (0 : Int32)) (u_x1 : ¬ (255 : Int32) < x1) (l_x2 : ¬ x2 < (0 : Int32)) (u_x2 : ¬ (255 : Int32) < x2) (kk : own_keep x0 ∨ own_keep x1 ∨ own_keep x2) :
    MetFree l (⟨"java/lang/String", "isBlank", "()Z"⟩ : MethodName) (head1 (Jvm.Cond.code (⟨"java/lang/String", "isBlank", "()Z"⟩ : MethodName) jdk_42_method_117_code 1 (some .boolean) :: ws) ({ frames := 4, cells := 0, slots := 0, locals := 56 } : Room)) (fun aa_ UU_ => aa_ = #[(.ref a)] ∧ Z.Warmed39 UU_.vm ∧ UU_.heap = h0) (fun _ _ _ _ _ => True) (fun _ UU_ oo_ UV_ => ∃ vv_ LL_, oo_ = .returned vv_ ∧ own_blank3_Q Z zc ci ta clt a tb kb x0 x1 x2 h0 n0 vv_ UV_.heap LL_ ∧ FrameEnd UU_ oo_ UV_ LL_ ({ frames := 4, cells := 0, slots := 0, locals := 56 } : Room).cells ({ frames := 4, cells := 0, slots := 0, locals := 56 } : Room).slots) := by
  refine MetFree.of_bodySF (plainFor_of_name own_blank3_pn) hisR ?_
  intro p e s m args below meth c s₁ Bd hml0 hP hK
  obtain ⟨rfl, hZ, hh⟩ := hP
  have hx := Bd.exec
  have hby := Bd.bytes
  have hml : c.maxLocals = 1 := hml0
  have hown : s.vm.findClass "java/lang/String" = some m.cls := findClass_of_methodNamed Bd.named
  have hnm := (name_of_methodNamed Bd.named Bd.method).1
  have X0 : Stand p l e ({ frames := 4, cells := 0, slots := 0, locals := 56 } : Room) s m #[(.ref a)] below meth c s₁ [] 0 0 := Stand.of_body Bd
  have e0 : s₁.heap = h0 := by rw [← hh, Bd.state]; rfl
  have N0 := Fr.nil n0
  have KP0 : Keep h0 h0 [] := Keep.refl _ _
  refine ownFin (Q := own_blank3_Q Z zc ci ta clt a tb kb x0 x1 x2 h0 n0) ?_
  refine ownStep (fun _ k => castTop (own_blank3_ef m a) k) ?_
  show ownGo p.tables e below (s₁.setTop (mkF m 0 #[.val (.ref a)] [])) _
  refine ownStep (fun _ k => XS.aloadN X0.here hx rfl (hb hby own_blank3_d0) rfl rfl k) ?_
  show ownGo p.tables e below (s₁.setTop (mkF m 1 #[.val (.ref a)] [(.ref a)])) _
  have Zs2 : n0 ≤ h0.size := Nat.le_trans Z0 KP0.1
  obtain ⟨cq1, q1, q1'⟩ := E.cell
  obtain ⟨_, _, ⟨T1, L1, k1, n1⟩, -, X1, ⟨Lc1, hQ1, l1, y1, z1⟩, st1⟩ := X0.privateBack hx (y := (⟨"java/lang/String", "indexOfNonWhitespace", "()I"⟩ : MethodName)) hown (mvT hZ (hw _ (List.mem_of_getElem? (i := 57) rfl))) (mvT hZ (hw _ (List.mem_of_getElem? (i := 58) rfl))) (mvT hZ (hw _ (List.mem_of_getElem? (i := 60) rfl))) (Cond.privateMethod_at (mvP hZ (hw _ (List.mem_of_getElem? (i := 59) rfl)) (args := #[]))) (mvT hZ (hw _ (List.mem_of_getElem? (i := 61) rfl))) (by decide) (backOf (W := 0) (own_sinw3 l Z a0 hw [] zc ci ta clt a tb kb x0 x1 x2 h0 n0 Zs2 hOld Scs hzc Sci Eci Sca Tab E C Vl B l_x0 u_x0 l_x1 u_x1 l_x2 u_x2 kk) hZ (hw _ (List.mem_of_getElem? (i := 61) rfl)) (hw _ (List.mem_of_getElem? (i := 6) rfl)) (by decide) (by decide)) (g := (mkF m 1 #[.val (.ref a)] [(.ref a)])) rfl (by rw [hml]; rfl) (Steps.refl _) (a := a) (by rw [e0]; exact q1) q1' (argsL := []) (rest := []) (lenOf own_blank3_pd0 rfl) rfl (by show 2 * 0 + _ ≤ _; exact Nat.le_of_eq rfl) (hb hby own_blank3_d1) (fun _ _ => ⟨rfl, e0, (by decide : 0 + 0 ≤ _), (by decide : 0 + 0 ≤ _)⟩)
  dsimp only [Pt.U, Pt.locs, Pt.cells, Pt.slots] at X1 l1 y1 z1 st1 hQ1
  obtain rfl : k1 = 0 := y1
  obtain rfl : n1 = 0 := z1
  obtain ⟨r_1, rfl, N1q, R1, P3⟩ := hQ1
  have N1 : Fr n0 L1 := l1 ▸ Fr.app N0 N1q
  refine ownStep (fun _ k => st1.trans k) ?_
  refine ownStep (fun _ k => XS.aloadN X1.here hx rfl (hb hby own_blank3_d4) rfl rfl k) ?_
  show ownGo p.tables e below (T1.setTop (mkF m 5 #[.val (.ref a)] [(.ref a), (.int r_1)])) _
  have Zs5 : n0 ≤ h0.size := Nat.le_trans Z0 KP0.1
  obtain ⟨cq4, kq4, q4a, q4b, q4c⟩ := isOf hZ R1 E
  obtain ⟨_, _, ⟨T4, L4, k4, n4⟩, -, X4, ⟨Lc4, hQ4, l4, y4, z4⟩, st4⟩ := X1.virtualBack hx (y := (⟨"java/lang/String", "length", "()I"⟩ : MethodName)) (z := (⟨"java/lang/String", "length", "()I"⟩ : MethodName)) hown (mvT hZ (hw _ (List.mem_of_getElem? (i := 86) rfl))) (mvT hZ (hw _ (List.mem_of_getElem? (i := 87) rfl))) (notFace_of_selects (args := #[]) (mvT hZ (hw _ (List.mem_of_getElem? (i := 89) rfl)))) (mvT hZ (hw _ (List.mem_of_getElem? (i := 89) rfl))) (mvT hZ (hw _ (List.mem_of_getElem? (i := 88) rfl))) (by decide) (backOf (W := 1) (own_len3 l Z a0 hw [] zc a tb kb x0 x1 x2 h0 n0 Zs5 hOld Scs hzc E C Vl B) hZ (hw _ (List.mem_of_getElem? (i := 90) rfl)) (hw _ (List.mem_of_getElem? (i := 6) rfl)) (by decide) (by decide)) q4a q4c (g := (mkF m 5 #[.val (.ref a)] [(.ref a), (.int r_1)])) rfl (by rw [hml]; rfl) (Steps.refl _) (argsL := []) (rest := [(.int r_1)]) (lenOf own_blank3_pd0 rfl) rfl (by show 2 * 0 + _ ≤ _; exact Nat.le_of_eq rfl) (hb hby own_blank3_d5) (fun _ _ => ⟨rfl, R1, (by decide : 0 + 0 ≤ _), (by decide : 0 + 0 ≤ _)⟩)
  dsimp only [Pt.U, Pt.locs, Pt.cells, Pt.slots] at X4 l4 y4 z4 st4 hQ4
  obtain rfl : k4 = 0 := y4
  obtain rfl : n4 = 0 := z4
  obtain ⟨rfl, N4q, R4⟩ := hQ4
  have N4 : Fr n0 L4 := l4 ▸ Fr.app N1 N4q
  refine ownStep (fun _ k => st4.trans k) ?_
  refine ownStep (fun _ k => XS.icmpYes X4.here hx rfl (pc0 := 8) (pc' := 15) rfl (hb hby own_blank3_d8) rfl (feq (P3 : ¬ r_1 = (3 : Int32))).2 (by decide) (by decide) k) ?_
  refine ownStep (fun _ k => XS.iconst X4.here hx rfl (hb hby own_blank3_d15) k) ?_
  show ownGo p.tables e below (T4.setTop (mkF m 16 #[.val (.ref a)] [(.int (0 : Int32))])) _
  exact ownRet X4 (v := some (.int (0 : Int32))) Bd.notSynchronized (fun h => by rw [Bd.returns] at h; cases h) (fun _ hr => retN X4 hx (t := .boolean) Bd.returns (by simp) (hb hby own_blank3_d16) hr) (by rw [R4]; exact ⟨rfl, N4, rfl⟩) (by decide) (by decide)
theorem own_req3_d0 : decode prog_3_method_2_code 0 = .ok (.aload_n 0, 1) := by decide +kernel
theorem own_req3_d1 : decode prog_3_method_2_code 1 = .ok (.ifnull 10, 3) := by decide +kernel
theorem own_req3_d4 : decode prog_3_method_2_code 4 = .ok (.aload_n 0, 1) := by decide +kernel
theorem own_req3_d5 : decode prog_3_method_2_code 5 = .ok (.invokevirtual 7, 3) := by decide +kernel
theorem own_req3_d8 : decode prog_3_method_2_code 8 = .ok (.ifCond .eq 23, 3) := by decide +kernel
theorem own_req3_d31 : decode prog_3_method_2_code 31 = .ok (.aload_n 0, 1) := by decide +kernel
theorem own_req3_d32 : decode prog_3_method_2_code 32 = .ok (.areturn, 1) := by decide +kernel
theorem own_req3_pn : plainName "com/example/circuline/circuline/circulation/Barcodes" = true := by first | (simp [plainName, overriddenIn]; done) | decide +kernel
theorem own_req3_pd0 : parseMethodDescriptor "()Z" = some ⟨[], some .boolean⟩ := by decide +kernel
theorem own_req3_ef (m : MethodId) (x0 : Addr) (x1 : Addr) (x2 : Addr) : entryFrame m #[(.ref x0), (.ref x1), (.ref x2)] 3 = mkF m 0 #[.val (.ref x0), .val (.ref x1), .val (.ref x2)] [] := by first | (simp [entryFrame, mkF, argsToLocals, Value.category]; done) | rfl
def own_req3_Q (Z : State) (zc : Int32) (ci : Addr) (ta : Addr) (clt : Cell) (a : Addr) (tb : Addr) (kb : ClassId) (x0 : Int32) (x1 : Int32) (x2 : Int32) (fa : Addr) (fb : Addr) (h0 : Heap) (n0 : Nat) (vv_ : Option Value) (hh_ : Heap) (LL_ : List Loc) : Prop := vv_ = some (.ref a) ∧ Fr n0 LL_ ∧ hh_ = h0
set_option maxRecDepth 65536 in
set_option maxHeartbeats 40000000 in
theorem own_req3 (l : Launch) (Z : State) (a0 : Array Value) (hw : ∀ d ∈ tables_1, d.before a0 Z = true) (ws : List Jvm.Cond) (zc : Int32) (ci : Addr) (ta : Addr) (clt : Cell) (a : Addr) (tb : Addr) (kb : ClassId) (x0 : Int32) (x1 : Int32) (x2 : Int32) (fa : Addr) (fb : Addr) (h0 : Heap) (n0 : Nat) (Z0 : n0 ≤ h0.size) (hOld : Old Z n0 h0) (Scs : Sta Z Z.heap "java/lang/String" "COMPACT_STRINGS" "Z" (.int zc)) (hzc : ¬ zc = (0 : Int32)) (Sci : Sta Z Z.heap "java/lang/CharacterDataLatin1" "instance" "Ljava/lang/CharacterDataLatin1;" (.ref ci)) (Eci : Exa Z Z.heap ci "java/lang/CharacterDataLatin1") (Sca : Sta Z Z.heap "java/lang/CharacterDataLatin1" "A" "[I" (.ref ta)) (Tab : own_tab Z ta clt) (E : Exa Z h0 a "java/lang/String") (C : Fld Z h0 a "java/lang/String" "coder" "B" (.int (0 : Int32))) (Vl : Fld Z h0 a "java/lang/String" "value" "[B" (.ref tb)) (B : Arv Z h0 tb kb .byte (3 : Int32) [(.int x0.toInt8.toInt32), (.int x1.toInt8.toInt32), (.int x2.toInt8.toInt32)] (.int (0 : Int32))) (l_x0 : ¬ x0 < (0 : Int32)) (u_x0 : ¬ (255 : Int32) < x0) (l_x1 : ¬ x1 < (0 : Int32)) (u_x1 : ¬ (255 : Int32) < x1) (l_x2 : ¬ x2 < (0 : Int32)) (u_x2 : ¬ (255 : Int32) < x2) (kk : own_keep x0 ∨ own_keep x1 ∨ own_keep x2) :
    MetFree l (⟨"com/example/circuline/circuline/circulation/Barcodes", "required", "(Ljava/lang/String;Ljava/lang/String;Ljava/lang/String;)Ljava/lang/String;"⟩ : MethodName) (head1 (Jvm.Cond.code (⟨"com/example/circuline/circuline/circulation/Barcodes", "required", "(Ljava/lang/String;Ljava/lang/String;Ljava/lang/String;)Ljava/lang/String;"⟩ : MethodName) prog_3_method_2_code 3 (some (.object "java/lang/String")) :: ws) ({ frames := 5, cells := 0, slots := 0, locals := 68 } : Room)) (fun aa_ UU_ => aa_ = #[(.ref a), (.ref fa), (.ref fb)] ∧ Z.Warmed39 UU_.vm ∧ UU_.heap = h0) (fun _ _ _ _ _ => True) (fun _ UU_ oo_ UV_ => ∃ vv_ LL_, oo_ = .returned vv_ ∧ own_req3_Q Z zc ci ta clt a tb kb x0 x1 x2 fa fb h0 n0 vv_ UV_.heap LL_ ∧ FrameEnd UU_ oo_ UV_ LL_ ({ frames := 5, cells := 0, slots := 0, locals := 68 } : Room).cells ({ frames := 5, cells := 0, slots := 0, locals := 68 } : Room).slots) := by
  refine MetFree.of_bodySF (plainFor_of_name own_req3_pn) hisR ?_
  intro p e s m args below meth c s₁ Bd hml0 hP hK
  obtain ⟨rfl, hZ, hh⟩ := hP
  have hx := Bd.exec
  have hby := Bd.bytes
  have hml : c.maxLocals = 3 := hml0
  have hown : s.vm.findClass "com/example/circuline/circuline/circulation/Barcodes" = some m.cls := findClass_of_methodNamed Bd.named
  have hnm := (name_of_methodNamed Bd.named Bd.method).1
  have X0 : Stand p l e ({ frames := 5, cells := 0, slots := 0, locals := 68 } : Room) s m #[(.ref a), (.ref fa), (.ref fb)] below meth c s₁ [] 0 0 := Stand.of_body Bd
  have e0 : s₁.heap = h0 := by rw [← hh, Bd.state]; rfl
  have N0 := Fr.nil n0
  have KP0 : Keep h0 h0 [] := Keep.refl _ _
  refine ownFin (Q := own_req3_Q Z zc ci ta clt a tb kb x0 x1 x2 fa fb h0 n0) ?_
  refine ownStep (fun _ k => castTop (own_req3_ef m a fa fb) k) ?_
  show ownGo p.tables e below (s₁.setTop (mkF m 0 #[.val (.ref a), .val (.ref fa), .val (.ref fb)] [])) _
  refine ownStep (fun _ k => XS.aloadN X0.here hx rfl (hb hby own_req3_d0) rfl rfl k) ?_
  refine ownStep (fun _ k => XS.ifnullNo X0.here hx rfl (hb hby own_req3_d1) rfl k) ?_
  refine ownStep (fun _ k => XS.aloadN X0.here hx rfl (hb hby own_req3_d4) rfl rfl k) ?_
  show ownGo p.tables e below (s₁.setTop (mkF m 5 #[.val (.ref a), .val (.ref fa), .val (.ref fb)] [(.ref a)])) _
  have Zs2 : n0 ≤ h0.size := Nat.le_trans Z0 KP0.1
  obtain ⟨cq1, kq1, q1a, q1b, q1c⟩ := isOf hZ e0 E
  obtain ⟨_, _, ⟨T1, L1, k1, n1⟩, -, X1, ⟨Lc1, hQ1, l1, y1, z1⟩, st1⟩ := X0.virtualBack hx (y := (⟨"java/lang/String", "isBlank", "()Z"⟩ : MethodName)) (z := (⟨"java/lang/String", "isBlank", "()Z"⟩ : MethodName)) hown (mvT hZ (hw _ (List.mem_of_getElem? (i := 52) rfl))) (mvT hZ (hw _ (List.mem_of_getElem? (i := 53) rfl))) (notFace_of_selects (args := #[]) (mvT hZ (hw _ (List.mem_of_getElem? (i := 55) rfl)))) (mvT hZ (hw _ (List.mem_of_getElem? (i := 55) rfl))) (mvT hZ (hw _ (List.mem_of_getElem? (i := 54) rfl))) (by decide) (backOf (W := 0) (own_blank3 l Z a0 hw [] zc ci ta clt a tb kb x0 x1 x2 h0 n0 Zs2 hOld Scs hzc Sci Eci Sca Tab E C Vl B l_x0 u_x0 l_x1 u_x1 l_x2 u_x2 kk) hZ (hw _ (List.mem_of_getElem? (i := 56) rfl)) (hw _ (List.mem_of_getElem? (i := 6) rfl)) (by decide) (by decide)) q1a q1c (g := (mkF m 5 #[.val (.ref a), .val (.ref fa), .val (.ref fb)] [(.ref a)])) rfl (by rw [hml]; rfl) (Steps.refl _) (argsL := []) (rest := []) (lenOf own_req3_pd0 rfl) rfl (by show 2 * 0 + _ ≤ _; exact Nat.le_of_eq rfl) (hb hby own_req3_d5) (fun _ _ => ⟨rfl, e0, (by decide : 0 + 0 ≤ _), (by decide : 0 + 0 ≤ _)⟩)
  dsimp only [Pt.U, Pt.locs, Pt.cells, Pt.slots] at X1 l1 y1 z1 st1 hQ1
  obtain rfl : k1 = 0 := y1
  obtain rfl : n1 = 0 := z1
  obtain ⟨rfl, N1q, R1⟩ := hQ1
  have N1 : Fr n0 L1 := l1 ▸ Fr.app N0 N1q
  refine ownStep (fun _ k => st1.trans k) ?_
  refine ownStep (fun _ k => XS.ifYes X1.here hx rfl (pc0 := 8) (pc' := 31) rfl (hb hby own_req3_d8) rfl ((if0 _ _).trans (teq (by decide : (0 : Int32) = (0 : Int32))).1) (by decide) (by decide) k) ?_
  refine ownStep (fun _ k => XS.aloadN X1.here hx rfl (hb hby own_req3_d31) rfl rfl k) ?_
  show ownGo p.tables e below (T1.setTop (mkF m 32 #[.val (.ref a), .val (.ref fa), .val (.ref fb)] [(.ref a)])) _
  exact ownRet X1 (v := some (.ref a)) Bd.notSynchronized (fun h => by rw [Bd.returns] at h; cases h) (fun _ hr => retOut X1 hx (t := (.object "java/lang/String")) Bd.returns rfl (Or.inr (Or.inr (Or.inr (Or.inr ⟨rfl, rfl, rfl⟩)))) (hb hby own_req3_d32) hr) (by rw [R1]; exact ⟨rfl, N1, rfl⟩) (by decide) (by decide)
theorem own_mk4_d0 : decode method_3_code 0 = .ok (.iload_n 0, 1) := by decide +kernel
theorem own_mk4_d1 : decode method_3_code 1 = .ok (.iconst 1, 1) := by decide +kernel
theorem own_mk4_d2 : decode method_3_code 2 = .ok (.if_icmp .ne 18, 3) := by decide +kernel
theorem own_mk4_d20 : decode method_3_code 20 = .ok (.iload_n 0, 1) := by decide +kernel
theorem own_mk4_d21 : decode method_3_code 21 = .ok (.iconst 2, 1) := by decide +kernel
theorem own_mk4_d22 : decode method_3_code 22 = .ok (.if_icmp .ne 22, 3) := by decide +kernel
theorem own_mk4_d44 : decode method_3_code 44 = .ok (.iload_n 0, 1) := by decide +kernel
theorem own_mk4_d45 : decode method_3_code 45 = .ok (.iconst 3, 1) := by decide +kernel
theorem own_mk4_d46 : decode method_3_code 46 = .ok (.if_icmp .ne 26, 3) := by decide +kernel
theorem own_mk4_d72 : decode method_3_code 72 = .ok (.new 14, 3) := by decide +kernel
theorem own_mk4_d75 : decode method_3_code 75 = .ok (.dup, 1) := by decide +kernel
theorem own_mk4_d76 : decode method_3_code 76 = .ok (.iconst 4, 1) := by decide +kernel
theorem own_mk4_d77 : decode method_3_code 77 = .ok (.newarray .char, 2) := by decide +kernel
theorem own_mk4_d79 : decode method_3_code 79 = .ok (.dup, 1) := by decide +kernel
theorem own_mk4_d80 : decode method_3_code 80 = .ok (.iconst 0, 1) := by decide +kernel
theorem own_mk4_d81 : decode method_3_code 81 = .ok (.iload_n 1, 1) := by decide +kernel
theorem own_mk4_d82 : decode method_3_code 82 = .ok (.castore, 1) := by decide +kernel
theorem own_mk4_d83 : decode method_3_code 83 = .ok (.dup, 1) := by decide +kernel
theorem own_mk4_d84 : decode method_3_code 84 = .ok (.iconst 1, 1) := by decide +kernel
theorem own_mk4_d85 : decode method_3_code 85 = .ok (.iload_n 2, 1) := by decide +kernel
theorem own_mk4_d86 : decode method_3_code 86 = .ok (.castore, 1) := by decide +kernel
theorem own_mk4_d87 : decode method_3_code 87 = .ok (.dup, 1) := by decide +kernel
theorem own_mk4_d88 : decode method_3_code 88 = .ok (.iconst 2, 1) := by decide +kernel
theorem own_mk4_d89 : decode method_3_code 89 = .ok (.iload_n 3, 1) := by decide +kernel
theorem own_mk4_d90 : decode method_3_code 90 = .ok (.castore, 1) := by decide +kernel
theorem own_mk4_d91 : decode method_3_code 91 = .ok (.dup, 1) := by decide +kernel
theorem own_mk4_d92 : decode method_3_code 92 = .ok (.iconst 3, 1) := by decide +kernel
theorem own_mk4_d93 : decode method_3_code 93 = .ok (.iload 4, 2) := by decide +kernel
theorem own_mk4_d95 : decode method_3_code 95 = .ok (.castore, 1) := by decide +kernel
theorem own_mk4_d96 : decode method_3_code 96 = .ok (.invokespecial 33, 3) := by decide +kernel
theorem own_mk4_d99 : decode method_3_code 99 = .ok (.areturn, 1) := by decide +kernel
theorem own_mk4_pn : plainName "com/example/circuline/circuline/circulation/BarcodesRequiredPinLaw" = true := by first | (simp [plainName, overriddenIn]; done) | decide +kernel
theorem own_mk4_pd0 : parseMethodDescriptor "([C)V" = some ⟨[(.array .char)], none⟩ := by decide +kernel
theorem own_mk4_ef (m : MethodId) (x0 : Int32) (x1 : Int32) (x2 : Int32) (x3 : Int32) (x4 : Int32) : entryFrame m #[(.int x0), (.int x1), (.int x2), (.int x3), (.int x4)] 5 = mkF m 0 #[.val (.int x0), .val (.int x1), .val (.int x2), .val (.int x3), .val (.int x4)] [] := by first | (simp [entryFrame, mkF, argsToLocals, Value.category]; done) | rfl
def own_mk4_Q (Z : State) (zc : Int32) (d0 : Int32) (d1 : Int32) (d2 : Int32) (d3 : Int32) (h0 : Heap) (n0 : Nat) (vv_ : Option Value) (hh_ : Heap) (LL_ : List Loc) : Prop := ∃ sb : Addr, ∃ tb : Addr, ∃ kb : ClassId, vv_ = some (.ref sb) ∧ Fr n0 LL_ ∧ Ext h0 hh_ ∧ (Exa Z hh_ sb "java/lang/String") ∧ (Fld Z hh_ sb "java/lang/String" "coder" "B" (.int (0 : Int32))) ∧ (Fld Z hh_ sb "java/lang/String" "value" "[B" (.ref tb)) ∧ (Arv Z hh_ tb kb .byte (4 : Int32) [(.int d0.toInt8.toInt32), (.int d1.toInt8.toInt32), (.int d2.toInt8.toInt32), (.int d3.toInt8.toInt32)] (.int (0 : Int32)))
set_option maxRecDepth 65536 in
set_option maxHeartbeats 40000000 in
theorem own_mk4 (l : Launch) (Z : State) (a0 : Array Value) (hw : ∀ d ∈ tables_1, d.before a0 Z = true) (ws : List Jvm.Cond) (zc : Int32) (d0 : Int32) (d1 : Int32) (d2 : Int32) (d3 : Int32) (h0 : Heap) (n0 : Nat) (Z0 : n0 ≤ h0.size) (hOld : Old Z n0 h0) (Scs : Sta Z Z.heap "java/lang/String" "COMPACT_STRINGS" "Z" (.int zc)) (hzc : ¬ zc = (0 : Int32)) (l_d0 : ¬ d0 < (0 : Int32)) (u_d0 : ¬ (255 : Int32) < d0) (l_d1 : ¬ d1 < (0 : Int32)) (u_d1 : ¬ (255 : Int32) < d1) (l_d2 : ¬ d2 < (0 : Int32)) (u_d2 : ¬ (255 : Int32) < d2) (l_d3 : ¬ d3 < (0 : Int32)) (u_d3 : ¬ (255 : Int32) < d3) :
    MetFree l (⟨"com/example/circuline/circuline/circulation/BarcodesRequiredPinLaw", "make", "(ICCCC)Ljava/lang/String;"⟩ : MethodName) (head1 (Jvm.Cond.code (⟨"com/example/circuline/circuline/circulation/BarcodesRequiredPinLaw", "make", "(ICCCC)Ljava/lang/String;"⟩ : MethodName) method_3_code 5 (some (.object "java/lang/String")) :: ws) ({ frames := 4, cells := 3, slots := 12, locals := 66 } : Room)) (fun aa_ UU_ => aa_ = #[(.int (4 : Int32)), (.int d0), (.int d1), (.int d2), (.int d3)] ∧ Z.Warmed39 UU_.vm ∧ UU_.heap = h0) (fun _ _ _ _ _ => True) (fun _ UU_ oo_ UV_ => ∃ vv_ LL_, oo_ = .returned vv_ ∧ own_mk4_Q Z zc d0 d1 d2 d3 h0 n0 vv_ UV_.heap LL_ ∧ FrameEnd UU_ oo_ UV_ LL_ ({ frames := 4, cells := 3, slots := 12, locals := 66 } : Room).cells ({ frames := 4, cells := 3, slots := 12, locals := 66 } : Room).slots) := by
  refine MetFree.of_bodySF (plainFor_of_name own_mk4_pn) hisR ?_
  intro p e s m args below meth c s₁ Bd hml0 hP hK
  obtain ⟨rfl, hZ, hh⟩ := hP
  have hx := Bd.exec
  have hby := Bd.bytes
  have hml : c.maxLocals = 5 := hml0
  have hown : s.vm.findClass "com/example/circuline/circuline/circulation/BarcodesRequiredPinLaw" = some m.cls := findClass_of_methodNamed Bd.named
  have hnm := (name_of_methodNamed Bd.named Bd.method).1
  have X0 : Stand p l e ({ frames := 4, cells := 3, slots := 12, locals := 66 } : Room) s m #[(.int (4 : Int32)), (.int d0), (.int d1), (.int d2), (.int d3)] below meth c s₁ [] 0 0 := Stand.of_body Bd
  have e0 : s₁.heap = h0 := by rw [← hh, Bd.state]; rfl
  have N0 := Fr.nil n0
  have KP0 : Keep h0 h0 [] := Keep.refl _ _
  refine ownFin (Q := own_mk4_Q Z zc d0 d1 d2 d3 h0 n0) ?_
  refine ownStep (fun _ k => castTop (own_mk4_ef m (4 : Int32) d0 d1 d2 d3) k) ?_
  show ownGo p.tables e below (s₁.setTop (mkF m 0 #[.val (.int (4 : Int32)), .val (.int d0), .val (.int d1), .val (.int d2), .val (.int d3)] [])) _
  refine ownStep (fun _ k => XS.iloadN X0.here hx rfl (hb hby own_mk4_d0) rfl  k) ?_
  refine ownStep (fun _ k => XS.iconst X0.here hx rfl (hb hby own_mk4_d1) k) ?_
  refine ownStep (fun _ k => XS.icmpYes X0.here hx rfl (pc0 := 2) (pc' := 20) rfl (hb hby own_mk4_d2) rfl (feq (by decide : ¬ (4 : Int32) = (1 : Int32))).2 (by decide) (by decide) k) ?_
  refine ownStep (fun _ k => XS.iloadN X0.here hx rfl (hb hby own_mk4_d20) rfl  k) ?_
  refine ownStep (fun _ k => XS.iconst X0.here hx rfl (hb hby own_mk4_d21) k) ?_
  show ownGo p.tables e below (s₁.setTop (mkF m 22 #[.val (.int (4 : Int32)), .val (.int d0), .val (.int d1), .val (.int d2), .val (.int d3)] [(.int (2 : Int32)), (.int (4 : Int32))])) _
  refine ownStep (fun _ k => XS.icmpYes X0.here hx rfl (pc0 := 22) (pc' := 44) rfl (hb hby own_mk4_d22) rfl (feq (by decide : ¬ (4 : Int32) = (2 : Int32))).2 (by decide) (by decide) k) ?_
  refine ownStep (fun _ k => XS.iloadN X0.here hx rfl (hb hby own_mk4_d44) rfl  k) ?_
  refine ownStep (fun _ k => XS.iconst X0.here hx rfl (hb hby own_mk4_d45) k) ?_
  refine ownStep (fun _ k => XS.icmpYes X0.here hx rfl (pc0 := 46) (pc' := 72) rfl (hb hby own_mk4_d46) rfl (feq (by decide : ¬ (4 : Int32) = (3 : Int32))).2 (by decide) (by decide) k) ?_
  show ownGo p.tables e below (s₁.setTop (mkF m 72 #[.val (.int (4 : Int32)), .val (.int d0), .val (.int d1), .val (.int d2), .val (.int d3)] [])) _
  obtain ⟨T1, h1, X1, e1, E1, A1, D1, U1, st1⟩ := newO X0 hx hZ hown (hw _ (List.mem_of_getElem? (i := 4) rfl)) (hw _ (List.mem_of_getElem? (i := 5) rfl)) (hw _ (List.mem_of_getElem? (i := 6) rfl)) e0 (g := (mkF m 72 #[.val (.int (4 : Int32)), .val (.int d0), .val (.int d1), .val (.int d2), .val (.int d3)] [])) rfl (hb hby own_mk4_d72) (by decide) (by decide)
  obtain ⟨b1, g1⟩ : ∃ z, z = h0.size := ⟨_, rfl⟩
  rw [← g1] at A1 D1 U1 st1
  have gh_b1 : h0.size ≤ b1 := Nat.le_trans KP0.1 (Nat.le_of_eq g1.symm)
  have gn_b1 : n0 ≤ b1 := Nat.le_trans Z0 gh_b1
  have KP2 : Keep h0 h1 [] := KP0.ext E1
  have F3 : Fld Z h1 b1 "java/lang/String" "coder" "B" (.int (0 : Int32)) := D1 (Or.inr (hw _ (List.mem_of_getElem? (i := 31) rfl))) (ty := .byte) (by decide)
  have F4 : Fld Z h1 b1 "java/lang/String" "value" "[B" .null := D1 (Or.inr (hw _ (List.mem_of_getElem? (i := 33) rfl))) (ty := (.array .byte)) (by decide)
  refine ownStep st1 ?_
  refine ownStep (fun _ k => XS.dup X1.here hx rfl (hb hby own_mk4_d75) rfl rfl k) ?_
  refine ownStep (fun _ k => XS.iconst X1.here hx rfl (hb hby own_mk4_d76) k) ?_
  show ownGo p.tables e below (T1.setTop (mkF m 77 #[.val (.int (4 : Int32)), .val (.int d0), .val (.int d1), .val (.int d2), .val (.int d3)] [(.int (4 : Int32)), (.ref b1), (.ref b1)])) _
  obtain ⟨T5, h5, k5, X5, e5, E5, A5, st5⟩ := newP X1 hx hZ (hw _ (List.mem_of_getElem? (i := 7) rfl)) e1 (g := (mkF m 77 #[.val (.int (4 : Int32)), .val (.int d0), .val (.int d1), .val (.int d2), .val (.int d3)] [(.int (4 : Int32)), (.ref b1), (.ref b1)])) rfl (hb hby own_mk4_d77) rfl (by decide) (cap := 4) (by decide) (by decide) (by decide) (by decide)
  obtain ⟨b5, g5⟩ : ∃ z, z = h1.size := ⟨_, rfl⟩
  rw [← g5] at A5 st5
  have gh_b5 : h0.size ≤ b5 := Nat.le_trans KP2.1 (Nat.le_of_eq g5.symm)
  have gn_b5 : n0 ≤ b5 := Nat.le_trans Z0 gh_b5
  have KP6 : Keep h0 h5 [] := KP2.ext E5
  have V5 : Arv Z h5 b5 k5 .char (4 : Int32) [(.int (0 : Int32)), (.int (0 : Int32)), (.int (0 : Int32)), (.int (0 : Int32))] (.int (0 : Int32)) := (Arv.new A5 (by decide)).pad (pad_rep [] (.int (0 : Int32)) 4)
  refine ownStep st5 ?_
  refine ownStep (fun _ k => XS.dup X5.here hx rfl (hb hby own_mk4_d79) rfl rfl k) ?_
  refine ownStep (fun _ k => XS.iconst X5.here hx rfl (hb hby own_mk4_d80) k) ?_
  refine ownStep (fun _ k => XS.iloadN X5.here hx rfl (hb hby own_mk4_d81) rfl  k) ?_
  show ownGo p.tables e below (T5.setTop (mkF m 82 #[.val (.int (4 : Int32)), .val (.int d0), .val (.int d1), .val (.int d2), .val (.int d3)] [(.int d0), (.int (0 : Int32)), (.ref b5), (.ref b5), (.ref b1), (.ref b1)])) _
  have Vo7 := V5
  obtain ⟨cl7, Ar7, q7, S7, N7, H7, G7⟩ := Vo7
  have hin7 : ¬ ((0 : Int32) < 0 ∨ cl7.slots.size ≤ ((0 : Int32)).toNatClampNeg) := inb_of S7 ⟨by decide, by decide⟩
  obtain ⟨T8, h8, X8, e8, W8, st8⟩ := stC X5 hx hZ e5 Ar7 (j := (0 : Int32)) hin7 (g := (mkF m 82 #[.val (.int (4 : Int32)), .val (.int d0), .val (.int d1), .val (.int d2), .val (.int d3)] [(.int d0), (.int (0 : Int32)), (.ref b5), (.ref b5), (.ref b1), (.ref b1)])) rfl rfl (hb hby own_mk4_d82)
  have N9 := Fr.snoc X8 N0 gn_b5
  have KP10 : Keep h0 h8 [] := KP6.wr W8 (Or.inr gh_b5)
  have V11 : Arv Z h8 b5 k5 .char (4 : Int32) [(.int d0.toUInt32.toUInt16.toUInt32.toInt32), (.int (0 : Int32)), (.int (0 : Int32)), (.int (0 : Int32))] (.int (0 : Int32)) := Arv.set Ar7 q7 S7 N7 H7 G7 (fits_nar_char _) W8 0 rfl (Nat.le_of_ble_eq_true rfl)
  refine ownStep st8 ?_
  refine ownStep (fun _ k => XS.dup X8.here hx rfl (hb hby own_mk4_d83) rfl rfl k) ?_
  refine ownStep (fun _ k => XS.iconst X8.here hx rfl (hb hby own_mk4_d84) k) ?_
  refine ownStep (fun _ k => XS.iloadN X8.here hx rfl (hb hby own_mk4_d85) rfl  k) ?_
  show ownGo p.tables e below (T8.setTop (mkF m 86 #[.val (.int (4 : Int32)), .val (.int d0), .val (.int d1), .val (.int d2), .val (.int d3)] [(.int d1), (.int (1 : Int32)), (.ref b5), (.ref b5), (.ref b1), (.ref b1)])) _
  have Vo12 := V11
  obtain ⟨cl12, Ar12, q12, S12, N12, H12, G12⟩ := Vo12
  have hin12 : ¬ ((1 : Int32) < 0 ∨ cl12.slots.size ≤ ((1 : Int32)).toNatClampNeg) := inb_of S12 ⟨by decide, by decide⟩
  obtain ⟨T13, h13, X13, e13, W13, st13⟩ := stC X8 hx hZ e8 Ar12 (j := (1 : Int32)) hin12 (g := (mkF m 86 #[.val (.int (4 : Int32)), .val (.int d0), .val (.int d1), .val (.int d2), .val (.int d3)] [(.int d1), (.int (1 : Int32)), (.ref b5), (.ref b5), (.ref b1), (.ref b1)])) rfl rfl (hb hby own_mk4_d86)
  have N14 := Fr.snoc X13 N9 gn_b5
  have KP15 : Keep h0 h13 [] := KP10.wr W13 (Or.inr gh_b5)
  have V16 : Arv Z h13 b5 k5 .char (4 : Int32) [(.int d0.toUInt32.toUInt16.toUInt32.toInt32), (.int d1.toUInt32.toUInt16.toUInt32.toInt32), (.int (0 : Int32)), (.int (0 : Int32))] (.int (0 : Int32)) := Arv.set Ar12 q12 S12 N12 H12 G12 (fits_nar_char _) W13 1 rfl (Nat.le_of_ble_eq_true rfl)
  refine ownStep st13 ?_
  refine ownStep (fun _ k => XS.dup X13.here hx rfl (hb hby own_mk4_d87) rfl rfl k) ?_
  refine ownStep (fun _ k => XS.iconst X13.here hx rfl (hb hby own_mk4_d88) k) ?_
  refine ownStep (fun _ k => XS.iloadN X13.here hx rfl (hb hby own_mk4_d89) rfl  k) ?_
  show ownGo p.tables e below (T13.setTop (mkF m 90 #[.val (.int (4 : Int32)), .val (.int d0), .val (.int d1), .val (.int d2), .val (.int d3)] [(.int d2), (.int (2 : Int32)), (.ref b5), (.ref b5), (.ref b1), (.ref b1)])) _
  have Vo17 := V16
  obtain ⟨cl17, Ar17, q17, S17, N17, H17, G17⟩ := Vo17
  have hin17 : ¬ ((2 : Int32) < 0 ∨ cl17.slots.size ≤ ((2 : Int32)).toNatClampNeg) := inb_of S17 ⟨by decide, by decide⟩
  obtain ⟨T18, h18, X18, e18, W18, st18⟩ := stC X13 hx hZ e13 Ar17 (j := (2 : Int32)) hin17 (g := (mkF m 90 #[.val (.int (4 : Int32)), .val (.int d0), .val (.int d1), .val (.int d2), .val (.int d3)] [(.int d2), (.int (2 : Int32)), (.ref b5), (.ref b5), (.ref b1), (.ref b1)])) rfl rfl (hb hby own_mk4_d90)
  have N19 := Fr.snoc X18 N14 gn_b5
  have KP20 : Keep h0 h18 [] := KP15.wr W18 (Or.inr gh_b5)
  have V21 : Arv Z h18 b5 k5 .char (4 : Int32) [(.int d0.toUInt32.toUInt16.toUInt32.toInt32), (.int d1.toUInt32.toUInt16.toUInt32.toInt32), (.int d2.toUInt32.toUInt16.toUInt32.toInt32), (.int (0 : Int32))] (.int (0 : Int32)) := Arv.set Ar17 q17 S17 N17 H17 G17 (fits_nar_char _) W18 2 rfl (Nat.le_of_ble_eq_true rfl)
  refine ownStep st18 ?_
  refine ownStep (fun _ k => XS.dup X18.here hx rfl (hb hby own_mk4_d91) rfl rfl k) ?_
  refine ownStep (fun _ k => XS.iconst X18.here hx rfl (hb hby own_mk4_d92) k) ?_
  refine ownStep (fun _ k => XS.iload X18.here hx rfl (hb hby own_mk4_d93) rfl  k) ?_
  show ownGo p.tables e below (T18.setTop (mkF m 95 #[.val (.int (4 : Int32)), .val (.int d0), .val (.int d1), .val (.int d2), .val (.int d3)] [(.int d3), (.int (3 : Int32)), (.ref b5), (.ref b5), (.ref b1), (.ref b1)])) _
  have Vo22 := V21
  obtain ⟨cl22, Ar22, q22, S22, N22, H22, G22⟩ := Vo22
  have hin22 : ¬ ((3 : Int32) < 0 ∨ cl22.slots.size ≤ ((3 : Int32)).toNatClampNeg) := inb_of S22 ⟨by decide, by decide⟩
  obtain ⟨T23, h23, X23, e23, W23, st23⟩ := stC X18 hx hZ e18 Ar22 (j := (3 : Int32)) hin22 (g := (mkF m 95 #[.val (.int (4 : Int32)), .val (.int d0), .val (.int d1), .val (.int d2), .val (.int d3)] [(.int d3), (.int (3 : Int32)), (.ref b5), (.ref b5), (.ref b1), (.ref b1)])) rfl rfl (hb hby own_mk4_d95)
  have N24 := Fr.snoc X23 N19 gn_b5
  have KP25 : Keep h0 h23 [] := KP20.wr W23 (Or.inr gh_b5)
  have V26 : Arv Z h23 b5 k5 .char (4 : Int32) [(.int d0.toUInt32.toUInt16.toUInt32.toInt32), (.int d1.toUInt32.toUInt16.toUInt32.toInt32), (.int d2.toUInt32.toUInt16.toUInt32.toInt32), (.int d3.toUInt32.toUInt16.toUInt32.toInt32)] (.int (0 : Int32)) := Arv.set Ar22 q22 S22 N22 H22 G22 (fits_nar_char _) W23 3 rfl (Nat.le_of_ble_eq_true rfl)
  refine ownStep st23 ?_
  show ownGo p.tables e below (T23.setTop (mkF m 96 #[.val (.int (4 : Int32)), .val (.int d0), .val (.int d1), .val (.int d2), .val (.int d3)] [(.ref b5), (.ref b1), (.ref b1)])) _
  have V27 : Arv Z h23 b5 k5 .char (4 : Int32) [(.int d0), (.int d1), (.int d2), (.int d3)] (.int (0 : Int32)) := by have q := V26; rw [own_nc l_d0 u_d0, own_nc l_d1 u_d1, own_nc l_d2 u_d2, own_nc l_d3 u_d3] at q; exact q
  have Q28 : Exa Z h23 b1 "java/lang/String" := (((((A1.ext E5).wr W8).wr W13).wr W18).wr W23)
  have ne29 : b1 ≠ b5 := Nat.ne_of_lt (Nat.lt_of_lt_of_le (Nat.lt_of_lt_of_le A1.lt (Nat.le_refl _)) (Nat.le_of_eq g5.symm))
  have Q30 : Fld Z h23 b1 "java/lang/String" "value" "[B" .null := (((((F4.ext E5).other W8 (Or.inl ne29)).other W13 (Or.inl ne29)).other W18 (Or.inl ne29)).other W23 (Or.inl ne29))
  have Q31 : Fld Z h23 b1 "java/lang/String" "coder" "B" (.int (0 : Int32)) := (((((F3.ext E5).other W8 (Or.inl ne29)).other W13 (Or.inl ne29)).other W18 (Or.inl ne29)).other W23 (Or.inl ne29))
  have Q32 : Old Z n0 h23 := ((((((hOld.ext E1).ext E5).wr W8 gn_b5).wr W13 gn_b5).wr W18 gn_b5).wr W23 gn_b5)
  have Q33 : Sta Z h23 "java/lang/String" "COMPACT_STRINGS" "Z" (.int zc) := Scs.ext Q32.2
  have Zs34 : n0 ≤ h23.size := Nat.le_trans Z0 KP25.1
  obtain ⟨_, _, ⟨T35, L35, k35, n35⟩, -, X35, ⟨Lc35, hQ35, l35, y35, z35⟩, st35⟩ := X23.specialBack hx (y := (⟨"java/lang/String", "<init>", "([C)V"⟩ : MethodName)) rfl hown (mvT hZ (hw _ (List.mem_of_getElem? (i := 8) rfl))) (mvT hZ (hw _ (List.mem_of_getElem? (i := 9) rfl))) (mvT hZ (hw _ (List.mem_of_getElem? (i := 10) rfl))) (by decide) (StrChars.Road.backV (W := 1) hZ (fun d hd => hw d ((by decide +kernel : ∀ d ∈ StrChars.Road.words, d ∈ tables_1) d hd)) (kI := 4) (hw _ (List.mem_of_getElem? (i := 5) rfl)) (cs := ([d0, d1, d2, d3] : List Int32)) (bs := ([d0, d1, d2, d3] : List Int32).map (fun c => c.toInt8.toInt32)) (n := 4) gn_b1 Zs34 Q28 Q30 Q31 V27 Q33 hzc rfl rfl (by decide) (by decide) (own_ccons ⟨l_d0, u_d0⟩ (own_ccons ⟨l_d1, u_d1⟩ (own_ccons ⟨l_d2, u_d2⟩ (own_ccons ⟨l_d3, u_d3⟩ own_cnil)))) rfl (by decide) (by decide)) (g := (mkF m 96 #[.val (.int (4 : Int32)), .val (.int d0), .val (.int d1), .val (.int d2), .val (.int d3)] [(.ref b5), (.ref b1), (.ref b1)])) rfl (by rw [hml]; rfl) (Steps.refl _) (a := b1) (argsL := [(.ref b5)]) (rest := [(.ref b1)]) (lenOf own_mk4_pd0 rfl) rfl (by show 2 * 0 + _ ≤ _; exact Nat.le_of_eq rfl) (hb hby own_mk4_d96) (fun _ _ => ⟨rfl, e23, (by decide : 2 + 1 ≤ _), (by decide : 8 + 4 ≤ _)⟩)
  dsimp only [Pt.U, Pt.locs, Pt.cells, Pt.slots] at X35 l35 y35 z35 st35 hQ35
  obtain rfl : k35 = 3 := y35
  obtain rfl : n35 = 12 := z35
  obtain ⟨rfl, N35q, R35, E35s, C35s, t35, kb35, gg35, gs35, gt35, V35s, A35s⟩ := hQ35
  have N35 : Fr n0 L35 := l35 ▸ Fr.app N24 N35q
  refine ownStep (fun _ k => st35.trans k) ?_
  have gh_t35 : h0.size ≤ t35 := Nat.le_trans KP25.1 gs35
  have gn_t35 : n0 ≤ t35 := gg35
  have KP36 : Keep h0 T35.heap [] := KP25.trans R35 (allS (Or.inr gh_b1) all0)
  have B35s : Arv Z T35.heap t35 kb35 .byte (4 : Int32) [(.int d0.toInt8.toInt32), (.int d1.toInt8.toInt32), (.int d2.toInt8.toInt32), (.int d3.toInt8.toInt32)] (.int (0 : Int32)) := A35s
  show ownGo p.tables e below (T35.setTop (mkF m 99 #[.val (.int (4 : Int32)), .val (.int d0), .val (.int d1), .val (.int d2), .val (.int d3)] [(.ref b1)])) _
  have Q37 : Exa Z T35.heap b1 "java/lang/String" := (Q28.keep R35)
  exact ownRet X35 (v := some (.ref b1)) Bd.notSynchronized (fun h => by rw [Bd.returns] at h; cases h) (fun _ hr => retOut X35 hx (t := (.object "java/lang/String")) Bd.returns rfl (Or.inr (Or.inr (Or.inr (Or.inr ⟨rfl, rfl, rfl⟩)))) (hb hby own_mk4_d99) hr) (⟨b1, t35, kb35, rfl, N35, (own_extOf KP36), Q37, C35s, V35s, B35s⟩) (by decide) (by decide)
theorem own_len4_d0 : decode jdk_42_method_54_code 0 = .ok (.aload_n 0, 1) := by decide +kernel
theorem own_len4_d1 : decode jdk_42_method_54_code 1 = .ok (.getfield 9, 3) := by decide +kernel
theorem own_len4_d4 : decode jdk_42_method_54_code 4 = .ok (.arraylength, 1) := by decide +kernel
theorem own_len4_d5 : decode jdk_42_method_54_code 5 = .ok (.aload_n 0, 1) := by decide +kernel
theorem own_len4_d6 : decode jdk_42_method_54_code 6 = .ok (.invokevirtual 335, 3) := by decide +kernel
theorem own_len4_d9 : decode jdk_42_method_54_code 9 = .ok (.ishr, 1) := by decide +kernel
theorem own_len4_d10 : decode jdk_42_method_54_code 10 = .ok (.ireturn, 1) := by decide +kernel
theorem own_len4_pn : plainName "java/lang/String" = true := by first | (simp [plainName, overriddenIn]; done) | decide +kernel
theorem own_len4_pd0 : parseMethodDescriptor "()B" = some ⟨[], some .byte⟩ := by decide +kernel
theorem own_len4_ef (m : MethodId) (x0 : Addr) : entryFrame m #[(.ref x0)] 1 = mkF m 0 #[.val (.ref x0)] [] := by first | (simp [entryFrame, mkF, argsToLocals, Value.category]; done) | rfl
def own_len4_Q (Z : State) (zc : Int32) (a : Addr) (tb : Addr) (kb : ClassId) (x0 : Int32) (x1 : Int32) (x2 : Int32) (x3 : Int32) (h0 : Heap) (n0 : Nat) (vv_ : Option Value) (hh_ : Heap) (LL_ : List Loc) : Prop := vv_ = some (.int (4 : Int32)) ∧ Fr n0 LL_ ∧ hh_ = h0
set_option maxRecDepth 65536 in
set_option maxHeartbeats 40000000 in
theorem own_len4 (l : Launch) (Z : State) (a0 : Array Value) (hw : ∀ d ∈ tables_1, d.before a0 Z = true) (ws : List Jvm.Cond) (zc : Int32) (a : Addr) (tb : Addr) (kb : ClassId) (x0 : Int32) (x1 : Int32) (x2 : Int32) (x3 : Int32) (h0 : Heap) (n0 : Nat) (Z0 : n0 ≤ h0.size) (hOld : Old Z n0 h0) (Scs : Sta Z Z.heap "java/lang/String" "COMPACT_STRINGS" "Z" (.int zc)) (hzc : ¬ zc = (0 : Int32)) (E : Exa Z h0 a "java/lang/String") (C : Fld Z h0 a "java/lang/String" "coder" "B" (.int (0 : Int32))) (Vl : Fld Z h0 a "java/lang/String" "value" "[B" (.ref tb)) (B : Arv Z h0 tb kb .byte (4 : Int32) [(.int x0.toInt8.toInt32), (.int x1.toInt8.toInt32), (.int x2.toInt8.toInt32), (.int x3.toInt8.toInt32)] (.int (0 : Int32))) :
    MetFree l (⟨"java/lang/String", "length", "()I"⟩ : MethodName) (head1 (Jvm.Cond.code (⟨"java/lang/String", "length", "()I"⟩ : MethodName) jdk_42_method_54_code 1 (some .int) :: ws) ({ frames := 1, cells := 0, slots := 0, locals := 13 } : Room)) (fun aa_ UU_ => aa_ = #[(.ref a)] ∧ Z.Warmed39 UU_.vm ∧ UU_.heap = h0) (fun _ _ _ _ _ => True) (fun _ UU_ oo_ UV_ => ∃ vv_ LL_, oo_ = .returned vv_ ∧ own_len4_Q Z zc a tb kb x0 x1 x2 x3 h0 n0 vv_ UV_.heap LL_ ∧ FrameEnd UU_ oo_ UV_ LL_ ({ frames := 1, cells := 0, slots := 0, locals := 13 } : Room).cells ({ frames := 1, cells := 0, slots := 0, locals := 13 } : Room).slots) := by
  refine MetFree.of_bodySF (plainFor_of_name own_len4_pn) hisR ?_
  intro p e s m args below meth c s₁ Bd hml0 hP hK
  obtain ⟨rfl, hZ, hh⟩ := hP
  have hx := Bd.exec
  have hby := Bd.bytes
  have hml : c.maxLocals = 1 := hml0
  have hown : s.vm.findClass "java/lang/String" = some m.cls := findClass_of_methodNamed Bd.named
  have hnm := (name_of_methodNamed Bd.named Bd.method).1
  have X0 : Stand p l e ({ frames := 1, cells := 0, slots := 0, locals := 13 } : Room) s m #[(.ref a)] below meth c s₁ [] 0 0 := Stand.of_body Bd
  have e0 : s₁.heap = h0 := by rw [← hh, Bd.state]; rfl
  have N0 := Fr.nil n0
  have KP0 : Keep h0 h0 [] := Keep.refl _ _
  refine ownFin (Q := own_len4_Q Z zc a tb kb x0 x1 x2 x3 h0 n0) ?_
  refine ownStep (fun _ k => castTop (own_len4_ef m a) k) ?_
  show ownGo p.tables e below (s₁.setTop (mkF m 0 #[.val (.ref a)] [])) _
  refine ownStep (fun _ k => XS.aloadN X0.here hx rfl (hb hby own_len4_d0) rfl rfl k) ?_
  show ownGo p.tables e below (s₁.setTop (mkF m 1 #[.val (.ref a)] [(.ref a)])) _
  obtain ⟨T1, X1, e1, st1⟩ := getF X0 hx hZ hown (host := "") (Or.inl (hw _ (List.mem_of_getElem? (i := 32) rfl))) Via.refl e0 Vl (g := (mkF m 1 #[.val (.ref a)] [(.ref a)])) rfl rfl (hb hby own_len4_d1)
  refine ownStep st1 ?_
  show ownGo p.tables e below (T1.setTop (mkF m 4 #[.val (.ref a)] [(.ref tb)])) _
  have Vo2 := B
  obtain ⟨cl2, Ar2, q2, S2, N2, H2, G2⟩ := Vo2
  refine ownStep (X1.arraylength hx (by rw [e1]; exact Ar2.1) (State.isArrayOf_alike hZ.alike Ar2.2.1) (g := (mkF m 4 #[.val (.ref a)] [(.ref tb)])) rfl rfl (hb hby own_len4_d4)) ?_
  rw [len_of S2 N2]
  refine ownStep (fun _ k => XS.aloadN X1.here hx rfl (hb hby own_len4_d5) rfl rfl k) ?_
  show ownGo p.tables e below (T1.setTop (mkF m 6 #[.val (.ref a)] [(.ref a), (.int (4 : Int32))])) _
  have Zs4 : n0 ≤ h0.size := Nat.le_trans Z0 KP0.1
  obtain ⟨cq3, kq3, q3a, q3b, q3c⟩ := isOf hZ e1 E
  obtain ⟨_, _, ⟨T3, L3, k3, n3⟩, -, X3, ⟨Lc3, hQ3, l3, y3, z3⟩, st3⟩ := X1.virtualBack hx (y := (⟨"java/lang/String", "coder", "()B"⟩ : MethodName)) (z := (⟨"java/lang/String", "coder", "()B"⟩ : MethodName)) hown (mvT hZ (hw _ (List.mem_of_getElem? (i := 91) rfl))) (mvT hZ (hw _ (List.mem_of_getElem? (i := 92) rfl))) (notFace_of_selects (args := #[]) (mvT hZ (hw _ (List.mem_of_getElem? (i := 94) rfl)))) (mvT hZ (hw _ (List.mem_of_getElem? (i := 94) rfl))) (mvT hZ (hw _ (List.mem_of_getElem? (i := 93) rfl))) (by decide) (backOf (W := 1) (own_cod l Z a0 hw [] zc a h0 n0 Zs4 hOld Scs hzc C) hZ (hw _ (List.mem_of_getElem? (i := 95) rfl)) (hw _ (List.mem_of_getElem? (i := 6) rfl)) (by decide) (by decide)) q3a q3c (g := (mkF m 6 #[.val (.ref a)] [(.ref a), (.int (4 : Int32))])) rfl (by rw [hml]; rfl) (Steps.refl _) (argsL := []) (rest := [(.int (4 : Int32))]) (lenOf own_len4_pd0 rfl) rfl (by show 2 * 0 + _ ≤ _; exact Nat.le_of_eq rfl) (hb hby own_len4_d6) (fun _ _ => ⟨rfl, e1, (by decide : 0 + 0 ≤ _), (by decide : 0 + 0 ≤ _)⟩)
  dsimp only [Pt.U, Pt.locs, Pt.cells, Pt.slots] at X3 l3 y3 z3 st3 hQ3
  obtain rfl : k3 = 0 := y3
  obtain rfl : n3 = 0 := z3
  obtain ⟨rfl, N3q, R3⟩ := hQ3
  have N3 : Fr n0 L3 := l3 ▸ Fr.app N0 N3q
  refine ownStep (fun _ k => st3.trans k) ?_
  refine ownStep (fun _ k => XS.ishr X3.here hx rfl (hb hby own_len4_d9) rfl k) ?_
  show ownGo p.tables e below (T3.setTop (mkF m 10 #[.val (.ref a)] [(.int (4 : Int32))])) _
  exact ownRet X3 (v := some (.int (4 : Int32))) Bd.notSynchronized (fun h => by rw [Bd.returns] at h; cases h) (fun _ hr => retI X3 hx Bd.returns (hb hby own_len4_d10) hr) (by rw [R3]; exact ⟨rfl, N3, rfl⟩) (by decide) (by decide)
theorem own_gc4_0_d0 : decode jdk_43_method_44_code 0 = .ok (.aload_n 0, 1) := by decide +kernel
theorem own_gc4_0_d1 : decode jdk_43_method_44_code 1 = .ok (.iload_n 1, 1) := by decide +kernel
theorem own_gc4_0_d2 : decode jdk_43_method_44_code 2 = .ok (.baload, 1) := by decide +kernel
theorem own_gc4_0_d3 : decode jdk_43_method_44_code 3 = .ok (.sipush 255, 3) := by decide +kernel
theorem own_gc4_0_d6 : decode jdk_43_method_44_code 6 = .ok (.iand, 1) := by decide +kernel
theorem own_gc4_0_d7 : decode jdk_43_method_44_code 7 = .ok (.i2c, 1) := by decide +kernel
theorem own_gc4_0_d8 : decode jdk_43_method_44_code 8 = .ok (.ireturn, 1) := by decide +kernel
theorem own_gc4_0_pn : plainName "java/lang/StringLatin1" = true := by first | (simp [plainName, overriddenIn]; done) | decide +kernel
theorem own_gc4_0_ef (m : MethodId) (x0 : Addr) (x1 : Int32) : entryFrame m #[(.ref x0), (.int x1)] 2 = mkF m 0 #[.val (.ref x0), .val (.int x1)] [] := by first | (simp [entryFrame, mkF, argsToLocals, Value.category]; done) | rfl
def own_gc4_0_Q (Z : State) (tb : Addr) (kb : ClassId) (x0 : Int32) (x1 : Int32) (x2 : Int32) (x3 : Int32) (h0 : Heap) (n0 : Nat) (vv_ : Option Value) (hh_ : Heap) (LL_ : List Loc) : Prop := vv_ = some (.int x0) ∧ Fr n0 LL_ ∧ hh_ = h0
set_option maxRecDepth 65536 in
set_option maxHeartbeats 40000000 in
theorem own_gc4_0 (l : Launch) (Z : State) (a0 : Array Value) (hw : ∀ d ∈ tables_1, d.before a0 Z = true) (ws : List Jvm.Cond) (tb : Addr) (kb : ClassId) (x0 : Int32) (x1 : Int32) (x2 : Int32) (x3 : Int32) (h0 : Heap) (n0 : Nat) (Z0 : n0 ≤ h0.size) (B : Arv Z h0 tb kb .byte (4 : Int32) [(.int x0.toInt8.toInt32), (.int x1.toInt8.toInt32), (.int x2.toInt8.toInt32), (.int x3.toInt8.toInt32)] (.int (0 : Int32))) (l_x0 : ¬ x0 < (0 : Int32)) (u_x0 : ¬ (255 : Int32) < x0) :
    MetFree l (⟨"java/lang/StringLatin1", "getChar", "([BI)C"⟩ : MethodName) (head1 (Jvm.Cond.code (⟨"java/lang/StringLatin1", "getChar", "([BI)C"⟩ : MethodName) jdk_43_method_44_code 2 (some .char) :: ws) ({ frames := 0, cells := 0, slots := 0, locals := 0 } : Room)) (fun aa_ UU_ => aa_ = #[(.ref tb), (.int (0 : Int32))] ∧ Z.Warmed39 UU_.vm ∧ UU_.heap = h0) (fun _ _ _ _ _ => True) (fun _ UU_ oo_ UV_ => ∃ vv_ LL_, oo_ = .returned vv_ ∧ own_gc4_0_Q Z tb kb x0 x1 x2 x3 h0 n0 vv_ UV_.heap LL_ ∧ FrameEnd UU_ oo_ UV_ LL_ ({ frames := 0, cells := 0, slots := 0, locals := 0 } : Room).cells ({ frames := 0, cells := 0, slots := 0, locals := 0 } : Room).slots) := by
  refine MetFree.of_bodySF (plainFor_of_name own_gc4_0_pn) hisR ?_
  intro p e s m args below meth c s₁ Bd hml0 hP hK
  obtain ⟨rfl, hZ, hh⟩ := hP
  have hx := Bd.exec
  have hby := Bd.bytes
  have hml : c.maxLocals = 2 := hml0
  have hown : s.vm.findClass "java/lang/StringLatin1" = some m.cls := findClass_of_methodNamed Bd.named
  have hnm := (name_of_methodNamed Bd.named Bd.method).1
  have X0 : Stand p l e ({ frames := 0, cells := 0, slots := 0, locals := 0 } : Room) s m #[(.ref tb), (.int (0 : Int32))] below meth c s₁ [] 0 0 := Stand.of_body Bd
  have e0 : s₁.heap = h0 := by rw [← hh, Bd.state]; rfl
  have N0 := Fr.nil n0
  have KP0 : Keep h0 h0 [] := Keep.refl _ _
  refine ownFin (Q := own_gc4_0_Q Z tb kb x0 x1 x2 x3 h0 n0) ?_
  refine ownStep (fun _ k => castTop (own_gc4_0_ef m tb (0 : Int32)) k) ?_
  show ownGo p.tables e below (s₁.setTop (mkF m 0 #[.val (.ref tb), .val (.int (0 : Int32))] [])) _
  refine ownStep (fun _ k => XS.aloadN X0.here hx rfl (hb hby own_gc4_0_d0) rfl rfl k) ?_
  refine ownStep (fun _ k => XS.iloadN X0.here hx rfl (hb hby own_gc4_0_d1) rfl  k) ?_
  show ownGo p.tables e below (s₁.setTop (mkF m 2 #[.val (.ref tb), .val (.int (0 : Int32))] [(.int (0 : Int32)), (.ref tb)])) _
  have Vo1 := B
  obtain ⟨cl1, Ar1, q1, S1, N1, H1, G1⟩ := Vo1
  have hin1 : ¬ ((0 : Int32) < 0 ∨ cl1.slots.size ≤ ((0 : Int32)).toNatClampNeg) := inb_of S1 ⟨by decide, by decide⟩
  refine ownStep (X0.baloadBytes hx (j := (0 : Int32)) (v := (.int x0.toInt8.toInt32)) (by rw [e0]; exact Ar1.1) (State.isArrayOf_alike hZ.alike Ar1.2.1) Ar1.2.2 hin1 (H1.at hin1 rfl) (g := (mkF m 2 #[.val (.ref tb), .val (.int (0 : Int32))] [(.int (0 : Int32)), (.ref tb)])) rfl rfl (hb hby own_gc4_0_d2)) ?_
  refine ownStep (fun _ k => XS.sipush X0.here hx rfl (hb hby own_gc4_0_d3) k) ?_
  refine ownStep (fun _ k => XS.iand X0.here hx rfl (hb hby own_gc4_0_d6) rfl k) ?_
  refine ownStep (fun _ k => XS.i2c X0.here hx rfl (hb hby own_gc4_0_d7) rfl k) ?_
  show ownGo p.tables e below (s₁.setTop (mkF m 8 #[.val (.ref tb), .val (.int (0 : Int32))] [(.int ((x0.toInt8.toInt32 &&& (255 : Int32)).toUInt32.toUInt16.toUInt32.toInt32))])) _
  exact ownRet X0 (v := some (.int (nar .char ((x0.toInt8.toInt32 &&& (255 : Int32)).toUInt32.toUInt16.toUInt32.toInt32)))) Bd.notSynchronized (fun h => by rw [Bd.returns] at h; cases h) (fun _ hr => retN X0 hx (t := .char) Bd.returns (by simp) (hb hby own_gc4_0_d8) hr) (by rw [e0]; exact ⟨(by rw [own_lat l_x0 u_x0]), N0, rfl⟩) (by decide) (by decide)
theorem own_gc4_1_d0 : decode jdk_43_method_44_code 0 = .ok (.aload_n 0, 1) := by decide +kernel
theorem own_gc4_1_d1 : decode jdk_43_method_44_code 1 = .ok (.iload_n 1, 1) := by decide +kernel
theorem own_gc4_1_d2 : decode jdk_43_method_44_code 2 = .ok (.baload, 1) := by decide +kernel
theorem own_gc4_1_d3 : decode jdk_43_method_44_code 3 = .ok (.sipush 255, 3) := by decide +kernel
theorem own_gc4_1_d6 : decode jdk_43_method_44_code 6 = .ok (.iand, 1) := by decide +kernel
theorem own_gc4_1_d7 : decode jdk_43_method_44_code 7 = .ok (.i2c, 1) := by decide +kernel
theorem own_gc4_1_d8 : decode jdk_43_method_44_code 8 = .ok (.ireturn, 1) := by decide +kernel
theorem own_gc4_1_pn : plainName "java/lang/StringLatin1" = true := by first | (simp [plainName, overriddenIn]; done) | decide +kernel
theorem own_gc4_1_ef (m : MethodId) (x0 : Addr) (x1 : Int32) : entryFrame m #[(.ref x0), (.int x1)] 2 = mkF m 0 #[.val (.ref x0), .val (.int x1)] [] := by first | (simp [entryFrame, mkF, argsToLocals, Value.category]; done) | rfl
def own_gc4_1_Q (Z : State) (tb : Addr) (kb : ClassId) (x0 : Int32) (x1 : Int32) (x2 : Int32) (x3 : Int32) (h0 : Heap) (n0 : Nat) (vv_ : Option Value) (hh_ : Heap) (LL_ : List Loc) : Prop := vv_ = some (.int x1) ∧ Fr n0 LL_ ∧ hh_ = h0
set_option maxRecDepth 65536 in
set_option maxHeartbeats 40000000 in
theorem own_gc4_1 (l : Launch) (Z : State) (a0 : Array Value) (hw : ∀ d ∈ tables_1, d.before a0 Z = true) (ws : List Jvm.Cond) (tb : Addr) (kb : ClassId) (x0 : Int32) (x1 : Int32) (x2 : Int32) (x3 : Int32) (h0 : Heap) (n0 : Nat) (Z0 : n0 ≤ h0.size) (B : Arv Z h0 tb kb .byte (4 : Int32) [(.int x0.toInt8.toInt32), (.int x1.toInt8.toInt32), (.int x2.toInt8.toInt32), (.int x3.toInt8.toInt32)] (.int (0 : Int32))) (l_x1 : ¬ x1 < (0 : Int32)) (u_x1 : ¬ (255 : Int32) < x1) :
    MetFree l (⟨"java/lang/StringLatin1", "getChar", "([BI)C"⟩ : MethodName) (head1 (Jvm.Cond.code (⟨"java/lang/StringLatin1", "getChar", "([BI)C"⟩ : MethodName) jdk_43_method_44_code 2 (some .char) :: ws) ({ frames := 0, cells := 0, slots := 0, locals := 0 } : Room)) (fun aa_ UU_ => aa_ = #[(.ref tb), (.int (1 : Int32))] ∧ Z.Warmed39 UU_.vm ∧ UU_.heap = h0) (fun _ _ _ _ _ => True) (fun _ UU_ oo_ UV_ => ∃ vv_ LL_, oo_ = .returned vv_ ∧ own_gc4_1_Q Z tb kb x0 x1 x2 x3 h0 n0 vv_ UV_.heap LL_ ∧ FrameEnd UU_ oo_ UV_ LL_ ({ frames := 0, cells := 0, slots := 0, locals := 0 } : Room).cells ({ frames := 0, cells := 0, slots := 0, locals := 0 } : Room).slots) := by
  refine MetFree.of_bodySF (plainFor_of_name own_gc4_1_pn) hisR ?_
  intro p e s m args below meth c s₁ Bd hml0 hP hK
  obtain ⟨rfl, hZ, hh⟩ := hP
  have hx := Bd.exec
  have hby := Bd.bytes
  have hml : c.maxLocals = 2 := hml0
  have hown : s.vm.findClass "java/lang/StringLatin1" = some m.cls := findClass_of_methodNamed Bd.named
  have hnm := (name_of_methodNamed Bd.named Bd.method).1
  have X0 : Stand p l e ({ frames := 0, cells := 0, slots := 0, locals := 0 } : Room) s m #[(.ref tb), (.int (1 : Int32))] below meth c s₁ [] 0 0 := Stand.of_body Bd
  have e0 : s₁.heap = h0 := by rw [← hh, Bd.state]; rfl
  have N0 := Fr.nil n0
  have KP0 : Keep h0 h0 [] := Keep.refl _ _
  refine ownFin (Q := own_gc4_1_Q Z tb kb x0 x1 x2 x3 h0 n0) ?_
  refine ownStep (fun _ k => castTop (own_gc4_1_ef m tb (1 : Int32)) k) ?_
  show ownGo p.tables e below (s₁.setTop (mkF m 0 #[.val (.ref tb), .val (.int (1 : Int32))] [])) _
  refine ownStep (fun _ k => XS.aloadN X0.here hx rfl (hb hby own_gc4_1_d0) rfl rfl k) ?_
  refine ownStep (fun _ k => XS.iloadN X0.here hx rfl (hb hby own_gc4_1_d1) rfl  k) ?_
  show ownGo p.tables e below (s₁.setTop (mkF m 2 #[.val (.ref tb), .val (.int (1 : Int32))] [(.int (1 : Int32)), (.ref tb)])) _
  have Vo1 := B
  obtain ⟨cl1, Ar1, q1, S1, N1, H1, G1⟩ := Vo1
  have hin1 : ¬ ((1 : Int32) < 0 ∨ cl1.slots.size ≤ ((1 : Int32)).toNatClampNeg) := inb_of S1 ⟨by decide, by decide⟩
  refine ownStep (X0.baloadBytes hx (j := (1 : Int32)) (v := (.int x1.toInt8.toInt32)) (by rw [e0]; exact Ar1.1) (State.isArrayOf_alike hZ.alike Ar1.2.1) Ar1.2.2 hin1 (H1.at hin1 rfl) (g := (mkF m 2 #[.val (.ref tb), .val (.int (1 : Int32))] [(.int (1 : Int32)), (.ref tb)])) rfl rfl (hb hby own_gc4_1_d2)) ?_
  refine ownStep (fun _ k => XS.sipush X0.here hx rfl (hb hby own_gc4_1_d3) k) ?_
  refine ownStep (fun _ k => XS.iand X0.here hx rfl (hb hby own_gc4_1_d6) rfl k) ?_
  refine ownStep (fun _ k => XS.i2c X0.here hx rfl (hb hby own_gc4_1_d7) rfl k) ?_
  show ownGo p.tables e below (s₁.setTop (mkF m 8 #[.val (.ref tb), .val (.int (1 : Int32))] [(.int ((x1.toInt8.toInt32 &&& (255 : Int32)).toUInt32.toUInt16.toUInt32.toInt32))])) _
  exact ownRet X0 (v := some (.int (nar .char ((x1.toInt8.toInt32 &&& (255 : Int32)).toUInt32.toUInt16.toUInt32.toInt32)))) Bd.notSynchronized (fun h => by rw [Bd.returns] at h; cases h) (fun _ hr => retN X0 hx (t := .char) Bd.returns (by simp) (hb hby own_gc4_1_d8) hr) (by rw [e0]; exact ⟨(by rw [own_lat l_x1 u_x1]), N0, rfl⟩) (by decide) (by decide)
theorem own_gc4_2_d0 : decode jdk_43_method_44_code 0 = .ok (.aload_n 0, 1) := by decide +kernel
theorem own_gc4_2_d1 : decode jdk_43_method_44_code 1 = .ok (.iload_n 1, 1) := by decide +kernel
theorem own_gc4_2_d2 : decode jdk_43_method_44_code 2 = .ok (.baload, 1) := by decide +kernel
theorem own_gc4_2_d3 : decode jdk_43_method_44_code 3 = .ok (.sipush 255, 3) := by decide +kernel
theorem own_gc4_2_d6 : decode jdk_43_method_44_code 6 = .ok (.iand, 1) := by decide +kernel
theorem own_gc4_2_d7 : decode jdk_43_method_44_code 7 = .ok (.i2c, 1) := by decide +kernel
theorem own_gc4_2_d8 : decode jdk_43_method_44_code 8 = .ok (.ireturn, 1) := by decide +kernel
theorem own_gc4_2_pn : plainName "java/lang/StringLatin1" = true := by first | (simp [plainName, overriddenIn]; done) | decide +kernel
theorem own_gc4_2_ef (m : MethodId) (x0 : Addr) (x1 : Int32) : entryFrame m #[(.ref x0), (.int x1)] 2 = mkF m 0 #[.val (.ref x0), .val (.int x1)] [] := by first | (simp [entryFrame, mkF, argsToLocals, Value.category]; done) | rfl
def own_gc4_2_Q (Z : State) (tb : Addr) (kb : ClassId) (x0 : Int32) (x1 : Int32) (x2 : Int32) (x3 : Int32) (h0 : Heap) (n0 : Nat) (vv_ : Option Value) (hh_ : Heap) (LL_ : List Loc) : Prop := vv_ = some (.int x2) ∧ Fr n0 LL_ ∧ hh_ = h0
set_option maxRecDepth 65536 in
set_option maxHeartbeats 40000000 in
theorem own_gc4_2 (l : Launch) (Z : State) (a0 : Array Value) (hw : ∀ d ∈ tables_1, d.before a0 Z = true) (ws : List Jvm.Cond) (tb : Addr) (kb : ClassId) (x0 : Int32) (x1 : Int32) (x2 : Int32) (x3 : Int32) (h0 : Heap) (n0 : Nat) (Z0 : n0 ≤ h0.size) (B : Arv Z h0 tb kb .byte (4 : Int32) [(.int x0.toInt8.toInt32), (.int x1.toInt8.toInt32), (.int x2.toInt8.toInt32), (.int x3.toInt8.toInt32)] (.int (0 : Int32))) (l_x2 : ¬ x2 < (0 : Int32)) (u_x2 : ¬ (255 : Int32) < x2) :
    MetFree l (⟨"java/lang/StringLatin1", "getChar", "([BI)C"⟩ : MethodName) (head1 (Jvm.Cond.code (⟨"java/lang/StringLatin1", "getChar", "([BI)C"⟩ : MethodName) jdk_43_method_44_code 2 (some .char) :: ws) ({ frames := 0, cells := 0, slots := 0, locals := 0 } : Room)) (fun aa_ UU_ => aa_ = #[(.ref tb), (.int (2 : Int32))] ∧ Z.Warmed39 UU_.vm ∧ UU_.heap = h0) (fun _ _ _ _ _ => True) (fun _ UU_ oo_ UV_ => ∃ vv_ LL_, oo_ = .returned vv_ ∧ own_gc4_2_Q Z tb kb x0 x1 x2 x3 h0 n0 vv_ UV_.heap LL_ ∧ FrameEnd UU_ oo_ UV_ LL_ ({ frames := 0, cells := 0, slots := 0, locals := 0 } : Room).cells ({ frames := 0, cells := 0, slots := 0, locals := 0 } : Room).slots) := by
  refine MetFree.of_bodySF (plainFor_of_name own_gc4_2_pn) hisR ?_
  intro p e s m args below meth c s₁ Bd hml0 hP hK
  obtain ⟨rfl, hZ, hh⟩ := hP
  have hx := Bd.exec
  have hby := Bd.bytes
  have hml : c.maxLocals = 2 := hml0
  have hown : s.vm.findClass "java/lang/StringLatin1" = some m.cls := findClass_of_methodNamed Bd.named
  have hnm := (name_of_methodNamed Bd.named Bd.method).1
  have X0 : Stand p l e ({ frames := 0, cells := 0, slots := 0, locals := 0 } : Room) s m #[(.ref tb), (.int (2 : Int32))] below meth c s₁ [] 0 0 := Stand.of_body Bd
  have e0 : s₁.heap = h0 := by rw [← hh, Bd.state]; rfl
  have N0 := Fr.nil n0
  have KP0 : Keep h0 h0 [] := Keep.refl _ _
  refine ownFin (Q := own_gc4_2_Q Z tb kb x0 x1 x2 x3 h0 n0) ?_
  refine ownStep (fun _ k => castTop (own_gc4_2_ef m tb (2 : Int32)) k) ?_
  show ownGo p.tables e below (s₁.setTop (mkF m 0 #[.val (.ref tb), .val (.int (2 : Int32))] [])) _
  refine ownStep (fun _ k => XS.aloadN X0.here hx rfl (hb hby own_gc4_2_d0) rfl rfl k) ?_
  refine ownStep (fun _ k => XS.iloadN X0.here hx rfl (hb hby own_gc4_2_d1) rfl  k) ?_
  show ownGo p.tables e below (s₁.setTop (mkF m 2 #[.val (.ref tb), .val (.int (2 : Int32))] [(.int (2 : Int32)), (.ref tb)])) _
  have Vo1 := B
  obtain ⟨cl1, Ar1, q1, S1, N1, H1, G1⟩ := Vo1
  have hin1 : ¬ ((2 : Int32) < 0 ∨ cl1.slots.size ≤ ((2 : Int32)).toNatClampNeg) := inb_of S1 ⟨by decide, by decide⟩
  refine ownStep (X0.baloadBytes hx (j := (2 : Int32)) (v := (.int x2.toInt8.toInt32)) (by rw [e0]; exact Ar1.1) (State.isArrayOf_alike hZ.alike Ar1.2.1) Ar1.2.2 hin1 (H1.at hin1 rfl) (g := (mkF m 2 #[.val (.ref tb), .val (.int (2 : Int32))] [(.int (2 : Int32)), (.ref tb)])) rfl rfl (hb hby own_gc4_2_d2)) ?_
  refine ownStep (fun _ k => XS.sipush X0.here hx rfl (hb hby own_gc4_2_d3) k) ?_
  refine ownStep (fun _ k => XS.iand X0.here hx rfl (hb hby own_gc4_2_d6) rfl k) ?_
  refine ownStep (fun _ k => XS.i2c X0.here hx rfl (hb hby own_gc4_2_d7) rfl k) ?_
  show ownGo p.tables e below (s₁.setTop (mkF m 8 #[.val (.ref tb), .val (.int (2 : Int32))] [(.int ((x2.toInt8.toInt32 &&& (255 : Int32)).toUInt32.toUInt16.toUInt32.toInt32))])) _
  exact ownRet X0 (v := some (.int (nar .char ((x2.toInt8.toInt32 &&& (255 : Int32)).toUInt32.toUInt16.toUInt32.toInt32)))) Bd.notSynchronized (fun h => by rw [Bd.returns] at h; cases h) (fun _ hr => retN X0 hx (t := .char) Bd.returns (by simp) (hb hby own_gc4_2_d8) hr) (by rw [e0]; exact ⟨(by rw [own_lat l_x2 u_x2]), N0, rfl⟩) (by decide) (by decide)
theorem own_gc4_3_d0 : decode jdk_43_method_44_code 0 = .ok (.aload_n 0, 1) := by decide +kernel
theorem own_gc4_3_d1 : decode jdk_43_method_44_code 1 = .ok (.iload_n 1, 1) := by decide +kernel
theorem own_gc4_3_d2 : decode jdk_43_method_44_code 2 = .ok (.baload, 1) := by decide +kernel
theorem own_gc4_3_d3 : decode jdk_43_method_44_code 3 = .ok (.sipush 255, 3) := by decide +kernel
theorem own_gc4_3_d6 : decode jdk_43_method_44_code 6 = .ok (.iand, 1) := by decide +kernel
theorem own_gc4_3_d7 : decode jdk_43_method_44_code 7 = .ok (.i2c, 1) := by decide +kernel
theorem own_gc4_3_d8 : decode jdk_43_method_44_code 8 = .ok (.ireturn, 1) := by decide +kernel
theorem own_gc4_3_pn : plainName "java/lang/StringLatin1" = true := by first | (simp [plainName, overriddenIn]; done) | decide +kernel
theorem own_gc4_3_ef (m : MethodId) (x0 : Addr) (x1 : Int32) : entryFrame m #[(.ref x0), (.int x1)] 2 = mkF m 0 #[.val (.ref x0), .val (.int x1)] [] := by first | (simp [entryFrame, mkF, argsToLocals, Value.category]; done) | rfl
def own_gc4_3_Q (Z : State) (tb : Addr) (kb : ClassId) (x0 : Int32) (x1 : Int32) (x2 : Int32) (x3 : Int32) (h0 : Heap) (n0 : Nat) (vv_ : Option Value) (hh_ : Heap) (LL_ : List Loc) : Prop := vv_ = some (.int x3) ∧ Fr n0 LL_ ∧ hh_ = h0
set_option maxRecDepth 65536 in
set_option maxHeartbeats 40000000 in
theorem own_gc4_3 (l : Launch) (Z : State) (a0 : Array Value) (hw : ∀ d ∈ tables_1, d.before a0 Z = true) (ws : List Jvm.Cond) (tb : Addr) (kb : ClassId) (x0 : Int32) (x1 : Int32) (x2 : Int32) (x3 : Int32) (h0 : Heap) (n0 : Nat) (Z0 : n0 ≤ h0.size) (B : Arv Z h0 tb kb .byte (4 : Int32) [(.int x0.toInt8.toInt32), (.int x1.toInt8.toInt32), (.int x2.toInt8.toInt32), (.int x3.toInt8.toInt32)] (.int (0 : Int32))) (l_x3 : ¬ x3 < (0 : Int32)) (u_x3 : ¬ (255 : Int32) < x3) :
    MetFree l (⟨"java/lang/StringLatin1", "getChar", "([BI)C"⟩ : MethodName) (head1 (Jvm.Cond.code (⟨"java/lang/StringLatin1", "getChar", "([BI)C"⟩ : MethodName) jdk_43_method_44_code 2 (some .char) :: ws) ({ frames := 0, cells := 0, slots := 0, locals := 0 } : Room)) (fun aa_ UU_ => aa_ = #[(.ref tb), (.int (3 : Int32))] ∧ Z.Warmed39 UU_.vm ∧ UU_.heap = h0) (fun _ _ _ _ _ => True) (fun _ UU_ oo_ UV_ => ∃ vv_ LL_, oo_ = .returned vv_ ∧ own_gc4_3_Q Z tb kb x0 x1 x2 x3 h0 n0 vv_ UV_.heap LL_ ∧ FrameEnd UU_ oo_ UV_ LL_ ({ frames := 0, cells := 0, slots := 0, locals := 0 } : Room).cells ({ frames := 0, cells := 0, slots := 0, locals := 0 } : Room).slots) := by
  refine MetFree.of_bodySF (plainFor_of_name own_gc4_3_pn) hisR ?_
  intro p e s m args below meth c s₁ Bd hml0 hP hK
  obtain ⟨rfl, hZ, hh⟩ := hP
  have hx := Bd.exec
  have hby := Bd.bytes
  have hml : c.maxLocals = 2 := hml0
  have hown : s.vm.findClass "java/lang/StringLatin1" = some m.cls := findClass_of_methodNamed Bd.named
  have hnm := (name_of_methodNamed Bd.named Bd.method).1
  have X0 : Stand p l e ({ frames := 0, cells := 0, slots := 0, locals := 0 } : Room) s m #[(.ref tb), (.int (3 : Int32))] below meth c s₁ [] 0 0 := Stand.of_body Bd
  have e0 : s₁.heap = h0 := by rw [← hh, Bd.state]; rfl
  have N0 := Fr.nil n0
  have KP0 : Keep h0 h0 [] := Keep.refl _ _
  refine ownFin (Q := own_gc4_3_Q Z tb kb x0 x1 x2 x3 h0 n0) ?_
  refine ownStep (fun _ k => castTop (own_gc4_3_ef m tb (3 : Int32)) k) ?_
  show ownGo p.tables e below (s₁.setTop (mkF m 0 #[.val (.ref tb), .val (.int (3 : Int32))] [])) _
  refine ownStep (fun _ k => XS.aloadN X0.here hx rfl (hb hby own_gc4_3_d0) rfl rfl k) ?_
  refine ownStep (fun _ k => XS.iloadN X0.here hx rfl (hb hby own_gc4_3_d1) rfl  k) ?_
  show ownGo p.tables e below (s₁.setTop (mkF m 2 #[.val (.ref tb), .val (.int (3 : Int32))] [(.int (3 : Int32)), (.ref tb)])) _
  have Vo1 := B
  obtain ⟨cl1, Ar1, q1, S1, N1, H1, G1⟩ := Vo1
  have hin1 : ¬ ((3 : Int32) < 0 ∨ cl1.slots.size ≤ ((3 : Int32)).toNatClampNeg) := inb_of S1 ⟨by decide, by decide⟩
  refine ownStep (X0.baloadBytes hx (j := (3 : Int32)) (v := (.int x3.toInt8.toInt32)) (by rw [e0]; exact Ar1.1) (State.isArrayOf_alike hZ.alike Ar1.2.1) Ar1.2.2 hin1 (H1.at hin1 rfl) (g := (mkF m 2 #[.val (.ref tb), .val (.int (3 : Int32))] [(.int (3 : Int32)), (.ref tb)])) rfl rfl (hb hby own_gc4_3_d2)) ?_
  refine ownStep (fun _ k => XS.sipush X0.here hx rfl (hb hby own_gc4_3_d3) k) ?_
  refine ownStep (fun _ k => XS.iand X0.here hx rfl (hb hby own_gc4_3_d6) rfl k) ?_
  refine ownStep (fun _ k => XS.i2c X0.here hx rfl (hb hby own_gc4_3_d7) rfl k) ?_
  show ownGo p.tables e below (s₁.setTop (mkF m 8 #[.val (.ref tb), .val (.int (3 : Int32))] [(.int ((x3.toInt8.toInt32 &&& (255 : Int32)).toUInt32.toUInt16.toUInt32.toInt32))])) _
  exact ownRet X0 (v := some (.int (nar .char ((x3.toInt8.toInt32 &&& (255 : Int32)).toUInt32.toUInt16.toUInt32.toInt32)))) Bd.notSynchronized (fun h => by rw [Bd.returns] at h; cases h) (fun _ hr => retN X0 hx (t := .char) Bd.returns (by simp) (hb hby own_gc4_3_d8) hr) (by rw [e0]; exact ⟨(by rw [own_lat l_x3 u_x3]), N0, rfl⟩) (by decide) (by decide)
theorem own_inw4_d0 : decode jdk_43_method_37_code 0 = .ok (.aload_n 0, 1) := by decide +kernel
theorem own_inw4_d1 : decode jdk_43_method_37_code 1 = .ok (.arraylength, 1) := by decide +kernel
theorem own_inw4_d2 : decode jdk_43_method_37_code 2 = .ok (.istore_n 1, 1) := by decide +kernel
theorem own_inw4_d3 : decode jdk_43_method_37_code 3 = .ok (.iconst 0, 1) := by decide +kernel
theorem own_inw4_d4 : decode jdk_43_method_37_code 4 = .ok (.istore_n 2, 1) := by decide +kernel
theorem own_inw4_d5 : decode jdk_43_method_37_code 5 = .ok (.iload_n 2, 1) := by decide +kernel
theorem own_inw4_d6 : decode jdk_43_method_37_code 6 = .ok (.iload_n 1, 1) := by decide +kernel
theorem own_inw4_d7 : decode jdk_43_method_37_code 7 = .ok (.if_icmp .ge 40, 3) := by decide +kernel
theorem own_inw4_d10 : decode jdk_43_method_37_code 10 = .ok (.aload_n 0, 1) := by decide +kernel
theorem own_inw4_d11 : decode jdk_43_method_37_code 11 = .ok (.iload_n 2, 1) := by decide +kernel
theorem own_inw4_d12 : decode jdk_43_method_37_code 12 = .ok (.invokestatic 50, 3) := by decide +kernel
theorem own_inw4_d15 : decode jdk_43_method_37_code 15 = .ok (.istore_n 3, 1) := by decide +kernel
theorem own_inw4_d16 : decode jdk_43_method_37_code 16 = .ok (.iload_n 3, 1) := by decide +kernel
theorem own_inw4_d17 : decode jdk_43_method_37_code 17 = .ok (.bipush 32, 2) := by decide +kernel
theorem own_inw4_d19 : decode jdk_43_method_37_code 19 = .ok (.if_icmp .eq 22, 3) := by decide +kernel
theorem own_inw4_d22 : decode jdk_43_method_37_code 22 = .ok (.iload_n 3, 1) := by decide +kernel
theorem own_inw4_d23 : decode jdk_43_method_37_code 23 = .ok (.bipush 9, 2) := by decide +kernel
theorem own_inw4_d25 : decode jdk_43_method_37_code 25 = .ok (.if_icmp .eq 16, 3) := by decide +kernel
theorem own_inw4_d28 : decode jdk_43_method_37_code 28 = .ok (.getstatic 66, 3) := by decide +kernel
theorem own_inw4_d31 : decode jdk_43_method_37_code 31 = .ok (.iload_n 3, 1) := by decide +kernel
theorem own_inw4_d32 : decode jdk_43_method_37_code 32 = .ok (.invokevirtual 211, 3) := by decide +kernel
theorem own_inw4_d35 : decode jdk_43_method_37_code 35 = .ok (.ifCond .ne 6, 3) := by decide +kernel
theorem own_inw4_d38 : decode jdk_43_method_37_code 38 = .ok (.goto 9, 3) := by decide +kernel
theorem own_inw4_d41 : decode jdk_43_method_37_code 41 = .ok (.iinc 2 1, 3) := by decide +kernel
theorem own_inw4_d44 : decode jdk_43_method_37_code 44 = .ok (.goto (-39), 3) := by decide +kernel
theorem own_inw4_d47 : decode jdk_43_method_37_code 47 = .ok (.iload_n 2, 1) := by decide +kernel
theorem own_inw4_d48 : decode jdk_43_method_37_code 48 = .ok (.ireturn, 1) := by decide +kernel
theorem own_inw4_pn : plainName "java/lang/StringLatin1" = true := by first | (simp [plainName, overriddenIn]; done) | decide +kernel
theorem own_inw4_pd0 : parseMethodDescriptor "([BI)C" = some ⟨[(.array .byte), .int], some .char⟩ := by decide +kernel
theorem own_inw4_pd1 : parseMethodDescriptor "(I)Z" = some ⟨[.int], some .boolean⟩ := by decide +kernel
theorem own_inw4_ef (m : MethodId) (x0 : Addr) : entryFrame m #[(.ref x0)] 4 = mkF m 0 #[.val (.ref x0), .unset, .unset, .unset] [] := by first | (simp [entryFrame, mkF, argsToLocals, Value.category]; done) | rfl
def own_inw4_Q (Z : State) (zc : Int32) (ci : Addr) (ta : Addr) (clt : Cell) (tb : Addr) (kb : ClassId) (x0 : Int32) (x1 : Int32) (x2 : Int32) (x3 : Int32) (h0 : Heap) (n0 : Nat) (vv_ : Option Value) (hh_ : Heap) (LL_ : List Loc) : Prop := ∃ r : Int32, vv_ = some (.int r) ∧ Fr n0 LL_ ∧ hh_ = h0 ∧ (¬ r = (4 : Int32))
set_option maxRecDepth 65536 in
set_option maxHeartbeats 40000000 in
theorem own_inw4 (l : Launch) (Z : State) (a0 : Array Value) (hw : ∀ d ∈ tables_1, d.before a0 Z = true) (ws : List Jvm.Cond) (zc : Int32) (ci : Addr) (ta : Addr) (clt : Cell) (tb : Addr) (kb : ClassId) (x0 : Int32) (x1 : Int32) (x2 : Int32) (x3 : Int32) (h0 : Heap) (n0 : Nat) (Z0 : n0 ≤ h0.size) (hOld : Old Z n0 h0) (Scs : Sta Z Z.heap "java/lang/String" "COMPACT_STRINGS" "Z" (.int zc)) (hzc : ¬ zc = (0 : Int32)) (Sci : Sta Z Z.heap "java/lang/CharacterDataLatin1" "instance" "Ljava/lang/CharacterDataLatin1;" (.ref ci)) (Eci : Exa Z Z.heap ci "java/lang/CharacterDataLatin1") (Sca : Sta Z Z.heap "java/lang/CharacterDataLatin1" "A" "[I" (.ref ta)) (Tab : own_tab Z ta clt) (B : Arv Z h0 tb kb .byte (4 : Int32) [(.int x0.toInt8.toInt32), (.int x1.toInt8.toInt32), (.int x2.toInt8.toInt32), (.int x3.toInt8.toInt32)] (.int (0 : Int32))) (l_x0 : ¬ x0 < (0 : Int32)) (u_x0 : ¬ (255 : Int32) < x0) (l_x1 : ¬ x1 < (0 : Int32)) (u_x1 : ¬ (255 : Int32) < x1) (l_x2 : ¬ x2 < (0 : Int32)) (u_x2 : ¬ (255 : Int32) < x2) (l_x3 : ¬ x3 < (0 : Int32)) (u_x3 : ¬ (255 : Int32) < x3) (kk : own_keep x0 ∨ own_keep x1 ∨ own_keep x2 ∨ own_keep x3) :
    MetFree l (⟨"java/lang/StringLatin1", "indexOfNonWhitespace", "([B)I"⟩ : MethodName) (head1 (Jvm.Cond.code (⟨"java/lang/StringLatin1", "indexOfNonWhitespace", "([B)I"⟩ : MethodName) jdk_43_method_37_code 4 (some .int) :: ws) ({ frames := 2, cells := 0, slots := 0, locals := 29 } : Room)) (fun aa_ UU_ => aa_ = #[(.ref tb)] ∧ Z.Warmed39 UU_.vm ∧ UU_.heap = h0) (fun _ _ _ _ _ => True) (fun _ UU_ oo_ UV_ => ∃ vv_ LL_, oo_ = .returned vv_ ∧ own_inw4_Q Z zc ci ta clt tb kb x0 x1 x2 x3 h0 n0 vv_ UV_.heap LL_ ∧ FrameEnd UU_ oo_ UV_ LL_ ({ frames := 2, cells := 0, slots := 0, locals := 29 } : Room).cells ({ frames := 2, cells := 0, slots := 0, locals := 29 } : Room).slots) := by
  refine MetFree.of_bodySF (plainFor_of_name own_inw4_pn) hisR ?_
  intro p e s m args below meth c s₁ Bd hml0 hP hK
  obtain ⟨rfl, hZ, hh⟩ := hP
  have hx := Bd.exec
  have hby := Bd.bytes
  have hml : c.maxLocals = 4 := hml0
  have hown : s.vm.findClass "java/lang/StringLatin1" = some m.cls := findClass_of_methodNamed Bd.named
  have hnm := (name_of_methodNamed Bd.named Bd.method).1
  have X0 : Stand p l e ({ frames := 2, cells := 0, slots := 0, locals := 29 } : Room) s m #[(.ref tb)] below meth c s₁ [] 0 0 := Stand.of_body Bd
  have e0 : s₁.heap = h0 := by rw [← hh, Bd.state]; rfl
  have N0 := Fr.nil n0
  have KP0 : Keep h0 h0 [] := Keep.refl _ _
  refine ownFin (Q := own_inw4_Q Z zc ci ta clt tb kb x0 x1 x2 x3 h0 n0) ?_
  refine ownStep (fun _ k => castTop (own_inw4_ef m tb) k) ?_
  show ownGo p.tables e below (s₁.setTop (mkF m 0 #[.val (.ref tb), .unset, .unset, .unset] [])) _
  refine ownStep (fun _ k => XS.aloadN X0.here hx rfl (hb hby own_inw4_d0) rfl rfl k) ?_
  show ownGo p.tables e below (s₁.setTop (mkF m 1 #[.val (.ref tb), .unset, .unset, .unset] [(.ref tb)])) _
  have Vo1 := B
  obtain ⟨cl1, Ar1, q1, S1, N1, H1, G1⟩ := Vo1
  refine ownStep (X0.arraylength hx (by rw [e0]; exact Ar1.1) (State.isArrayOf_alike hZ.alike Ar1.2.1) (g := (mkF m 1 #[.val (.ref tb), .unset, .unset, .unset] [(.ref tb)])) rfl rfl (hb hby own_inw4_d1)) ?_
  rw [len_of S1 N1]
  refine ownStep (fun _ k => XS.istoreN X0.here hx rfl (hb hby own_inw4_d2) rfl (l' := #[.val (.ref tb), .val (.int (4 : Int32)), .unset, .unset]) rfl k) ?_
  refine ownStep (fun _ k => XS.iconst X0.here hx rfl (hb hby own_inw4_d3) k) ?_
  refine ownStep (fun _ k => XS.istoreN X0.here hx rfl (hb hby own_inw4_d4) rfl (l' := #[.val (.ref tb), .val (.int (4 : Int32)), .val (.int (0 : Int32)), .unset]) rfl k) ?_
  refine ownStep (fun _ k => XS.iloadN X0.here hx rfl (hb hby own_inw4_d5) rfl  k) ?_
  show ownGo p.tables e below (s₁.setTop (mkF m 6 #[.val (.ref tb), .val (.int (4 : Int32)), .val (.int (0 : Int32)), .unset] [(.int (0 : Int32))])) _
  refine ownStep (fun _ k => XS.iloadN X0.here hx rfl (hb hby own_inw4_d6) rfl  k) ?_
  refine ownStep (fun _ k => XS.icmpNo X0.here hx rfl (hb hby own_inw4_d7) rfl (tlt (by decide : (0 : Int32) < (4 : Int32))).2.1 k) ?_
  refine ownStep (fun _ k => XS.aloadN X0.here hx rfl (hb hby own_inw4_d10) rfl rfl k) ?_
  refine ownStep (fun _ k => XS.iloadN X0.here hx rfl (hb hby own_inw4_d11) rfl  k) ?_
  show ownGo p.tables e below (s₁.setTop (mkF m 12 #[.val (.ref tb), .val (.int (4 : Int32)), .val (.int (0 : Int32)), .unset] [(.int (0 : Int32)), (.ref tb)])) _
  have J0 : ∀ (Tj : State) (Lj : List Loc) (Xj : Stand p l e ({ frames := 2, cells := 0, slots := 0, locals := 29 } : Room) s m #[(.ref tb)] below meth c Tj Lj 0 0) (ej : Tj.heap = h0) (Nj : Fr n0 Lj) (hws0 : own_ws clt x0), ownGo p.tables e below (Tj.setTop (mkF m 41 #[.val (.ref tb), .val (.int (4 : Int32)), .val (.int (0 : Int32)), .val (.int x0)] [])) (ownEnd below s (own_inw4_Q Z zc ci ta clt tb kb x0 x1 x2 x3 h0 n0) ({ frames := 2, cells := 0, slots := 0, locals := 29 } : Room).cells ({ frames := 2, cells := 0, slots := 0, locals := 29 } : Room).slots) := by
    intro Tj Lj Xj ej Nj hws0
    refine ownStep (fun _ k => XS.iinc Xj.here hx rfl (hb hby own_inw4_d41) rfl (l' := #[.val (.ref tb), .val (.int (4 : Int32)), .val (.int (1 : Int32)), .val (.int x0)]) rfl k) ?_
    refine ownStep (fun _ k => XS.goto Xj.here hx rfl (pc0 := 44) (pc' := 5) rfl (hb hby own_inw4_d44) (by decide) (by decide) k) ?_
    refine ownStep (fun _ k => XS.iloadN Xj.here hx rfl (hb hby own_inw4_d5) rfl  k) ?_
    refine ownStep (fun _ k => XS.iloadN Xj.here hx rfl (hb hby own_inw4_d6) rfl  k) ?_
    show ownGo p.tables e below (Tj.setTop (mkF m 7 #[.val (.ref tb), .val (.int (4 : Int32)), .val (.int (1 : Int32)), .val (.int x0)] [(.int (4 : Int32)), (.int (1 : Int32))])) _
    refine ownStep (fun _ k => XS.icmpNo Xj.here hx rfl (hb hby own_inw4_d7) rfl (tlt (by decide : (1 : Int32) < (4 : Int32))).2.1 k) ?_
    refine ownStep (fun _ k => XS.aloadN Xj.here hx rfl (hb hby own_inw4_d10) rfl rfl k) ?_
    refine ownStep (fun _ k => XS.iloadN Xj.here hx rfl (hb hby own_inw4_d11) rfl  k) ?_
    show ownGo p.tables e below (Tj.setTop (mkF m 12 #[.val (.ref tb), .val (.int (4 : Int32)), .val (.int (1 : Int32)), .val (.int x0)] [(.int (1 : Int32)), (.ref tb)])) _
    have J1 : ∀ (Tj : State) (Lj : List Loc) (Xj : Stand p l e ({ frames := 2, cells := 0, slots := 0, locals := 29 } : Room) s m #[(.ref tb)] below meth c Tj Lj 0 0) (ej : Tj.heap = h0) (Nj : Fr n0 Lj) (hws1 : own_ws clt x1), ownGo p.tables e below (Tj.setTop (mkF m 41 #[.val (.ref tb), .val (.int (4 : Int32)), .val (.int (1 : Int32)), .val (.int x1)] [])) (ownEnd below s (own_inw4_Q Z zc ci ta clt tb kb x0 x1 x2 x3 h0 n0) ({ frames := 2, cells := 0, slots := 0, locals := 29 } : Room).cells ({ frames := 2, cells := 0, slots := 0, locals := 29 } : Room).slots) := by
      intro Tj Lj Xj ej Nj hws1
      refine ownStep (fun _ k => XS.iinc Xj.here hx rfl (hb hby own_inw4_d41) rfl (l' := #[.val (.ref tb), .val (.int (4 : Int32)), .val (.int (2 : Int32)), .val (.int x1)]) rfl k) ?_
      refine ownStep (fun _ k => XS.goto Xj.here hx rfl (pc0 := 44) (pc' := 5) rfl (hb hby own_inw4_d44) (by decide) (by decide) k) ?_
      refine ownStep (fun _ k => XS.iloadN Xj.here hx rfl (hb hby own_inw4_d5) rfl  k) ?_
      refine ownStep (fun _ k => XS.iloadN Xj.here hx rfl (hb hby own_inw4_d6) rfl  k) ?_
      show ownGo p.tables e below (Tj.setTop (mkF m 7 #[.val (.ref tb), .val (.int (4 : Int32)), .val (.int (2 : Int32)), .val (.int x1)] [(.int (4 : Int32)), (.int (2 : Int32))])) _
      refine ownStep (fun _ k => XS.icmpNo Xj.here hx rfl (hb hby own_inw4_d7) rfl (tlt (by decide : (2 : Int32) < (4 : Int32))).2.1 k) ?_
      refine ownStep (fun _ k => XS.aloadN Xj.here hx rfl (hb hby own_inw4_d10) rfl rfl k) ?_
      refine ownStep (fun _ k => XS.iloadN Xj.here hx rfl (hb hby own_inw4_d11) rfl  k) ?_
      show ownGo p.tables e below (Tj.setTop (mkF m 12 #[.val (.ref tb), .val (.int (4 : Int32)), .val (.int (2 : Int32)), .val (.int x1)] [(.int (2 : Int32)), (.ref tb)])) _
      have J2 : ∀ (Tj : State) (Lj : List Loc) (Xj : Stand p l e ({ frames := 2, cells := 0, slots := 0, locals := 29 } : Room) s m #[(.ref tb)] below meth c Tj Lj 0 0) (ej : Tj.heap = h0) (Nj : Fr n0 Lj) (hws2 : own_ws clt x2), ownGo p.tables e below (Tj.setTop (mkF m 41 #[.val (.ref tb), .val (.int (4 : Int32)), .val (.int (2 : Int32)), .val (.int x2)] [])) (ownEnd below s (own_inw4_Q Z zc ci ta clt tb kb x0 x1 x2 x3 h0 n0) ({ frames := 2, cells := 0, slots := 0, locals := 29 } : Room).cells ({ frames := 2, cells := 0, slots := 0, locals := 29 } : Room).slots) := by
        intro Tj Lj Xj ej Nj hws2
        refine ownStep (fun _ k => XS.iinc Xj.here hx rfl (hb hby own_inw4_d41) rfl (l' := #[.val (.ref tb), .val (.int (4 : Int32)), .val (.int (3 : Int32)), .val (.int x2)]) rfl k) ?_
        refine ownStep (fun _ k => XS.goto Xj.here hx rfl (pc0 := 44) (pc' := 5) rfl (hb hby own_inw4_d44) (by decide) (by decide) k) ?_
        refine ownStep (fun _ k => XS.iloadN Xj.here hx rfl (hb hby own_inw4_d5) rfl  k) ?_
        refine ownStep (fun _ k => XS.iloadN Xj.here hx rfl (hb hby own_inw4_d6) rfl  k) ?_
        show ownGo p.tables e below (Tj.setTop (mkF m 7 #[.val (.ref tb), .val (.int (4 : Int32)), .val (.int (3 : Int32)), .val (.int x2)] [(.int (4 : Int32)), (.int (3 : Int32))])) _
        refine ownStep (fun _ k => XS.icmpNo Xj.here hx rfl (hb hby own_inw4_d7) rfl (tlt (by decide : (3 : Int32) < (4 : Int32))).2.1 k) ?_
        refine ownStep (fun _ k => XS.aloadN Xj.here hx rfl (hb hby own_inw4_d10) rfl rfl k) ?_
        refine ownStep (fun _ k => XS.iloadN Xj.here hx rfl (hb hby own_inw4_d11) rfl  k) ?_
        show ownGo p.tables e below (Tj.setTop (mkF m 12 #[.val (.ref tb), .val (.int (4 : Int32)), .val (.int (3 : Int32)), .val (.int x2)] [(.int (3 : Int32)), (.ref tb)])) _
        have J3 : ∀ (Tj : State) (Lj : List Loc) (Xj : Stand p l e ({ frames := 2, cells := 0, slots := 0, locals := 29 } : Room) s m #[(.ref tb)] below meth c Tj Lj 0 0) (ej : Tj.heap = h0) (Nj : Fr n0 Lj) (hws3 : own_ws clt x3), ownGo p.tables e below (Tj.setTop (mkF m 41 #[.val (.ref tb), .val (.int (4 : Int32)), .val (.int (3 : Int32)), .val (.int x3)] [])) (ownEnd below s (own_inw4_Q Z zc ci ta clt tb kb x0 x1 x2 x3 h0 n0) ({ frames := 2, cells := 0, slots := 0, locals := 29 } : Room).cells ({ frames := 2, cells := 0, slots := 0, locals := 29 } : Room).slots) := by
          intro Tj Lj Xj ej Nj hws3
          refine ownStep (fun _ k => XS.iinc Xj.here hx rfl (hb hby own_inw4_d41) rfl (l' := #[.val (.ref tb), .val (.int (4 : Int32)), .val (.int (4 : Int32)), .val (.int x3)]) rfl k) ?_
          refine ownStep (fun _ k => XS.goto Xj.here hx rfl (pc0 := 44) (pc' := 5) rfl (hb hby own_inw4_d44) (by decide) (by decide) k) ?_
          refine ownStep (fun _ k => XS.iloadN Xj.here hx rfl (hb hby own_inw4_d5) rfl  k) ?_
          refine ownStep (fun _ k => XS.iloadN Xj.here hx rfl (hb hby own_inw4_d6) rfl  k) ?_
          show ownGo p.tables e below (Tj.setTop (mkF m 7 #[.val (.ref tb), .val (.int (4 : Int32)), .val (.int (4 : Int32)), .val (.int x3)] [(.int (4 : Int32)), (.int (4 : Int32))])) _
          exact absurd kk (own_none4 Tab hws0 hws1 hws2 hws3)
        show ownGo p.tables e below (Tj.setTop (mkF m 12 #[.val (.ref tb), .val (.int (4 : Int32)), .val (.int (3 : Int32)), .val (.int x2)] [(.int (3 : Int32)), (.ref tb)])) _
        have Zs3 : n0 ≤ h0.size := Nat.le_trans Z0 KP0.1
        obtain ⟨_, _, ⟨T2, L2, k2, n2⟩, -, X2, ⟨Lc2, hQ2, l2, y2, z2⟩, st2⟩ := Jvm.LawKit.callS Xj hx (y := (⟨"java/lang/StringLatin1", "getChar", "([BI)C"⟩ : MethodName)) hown (mvT hZ (hw _ (List.mem_of_getElem? (i := 70) rfl))) (mvT hZ (hw _ (List.mem_of_getElem? (i := 71) rfl))) (mvT hZ (hw _ (List.mem_of_getElem? (i := 39) rfl))) (mvT hZ (hw _ (List.mem_of_getElem? (i := 72) rfl))) (by decide) (backOf (W := 0) (own_gc4_3 l Z a0 hw [] tb kb x0 x1 x2 x3 h0 n0 Zs3 B l_x3 u_x3) hZ (hw _ (List.mem_of_getElem? (i := 72) rfl)) (hw _ (List.mem_of_getElem? (i := 39) rfl)) (by decide) (by decide)) (g := (mkF m 12 #[.val (.ref tb), .val (.int (4 : Int32)), .val (.int (3 : Int32)), .val (.int x2)] [(.int (3 : Int32)), (.ref tb)])) rfl (by rw [hml]; rfl) (argsL := [(.ref tb), (.int (3 : Int32))]) (rest := []) (lenOf own_inw4_pd0 rfl) rfl (by show 2 * 0 + _ ≤ _; exact Nat.le_of_eq rfl) (hb hby own_inw4_d12) (fun _ _ => ⟨rfl, ej, (by decide : 0 + 0 ≤ _), (by decide : 0 + 0 ≤ _)⟩)
        dsimp only [Pt.U, Pt.locs, Pt.cells, Pt.slots] at X2 l2 y2 z2 st2 hQ2
        obtain rfl : k2 = 0 := y2
        obtain rfl : n2 = 0 := z2
        obtain ⟨rfl, N2q, R2⟩ := hQ2
        have N2 : Fr n0 L2 := l2 ▸ Fr.app Nj N2q
        refine ownStep (fun _ k => st2 _ k) ?_
        refine ownStep (fun _ k => XS.istoreN X2.here hx rfl (hb hby own_inw4_d15) rfl (l' := #[.val (.ref tb), .val (.int (4 : Int32)), .val (.int (3 : Int32)), .val (.int x3)]) rfl k) ?_
        refine ownStep (fun _ k => XS.iloadN X2.here hx rfl (hb hby own_inw4_d16) rfl  k) ?_
        refine ownStep (fun _ k => XS.bipush X2.here hx rfl (hb hby own_inw4_d17) k) ?_
        show ownGo p.tables e below (T2.setTop (mkF m 19 #[.val (.ref tb), .val (.int (4 : Int32)), .val (.int (3 : Int32)), .val (.int x3)] [(.int (32 : Int32)), (.int x3)])) _
        by_cases hc19 : x3 = (32 : Int32)
        · skip
          refine ownStep (fun _ k => XS.icmpYes X2.here hx rfl (pc0 := 19) (pc' := 41) rfl (hb hby own_inw4_d19) rfl (teq (hc19 : x3 = (32 : Int32))).1 (by decide) (by decide) k) ?_
          show ownGo p.tables e below (T2.setTop (mkF m 41 #[.val (.ref tb), .val (.int (4 : Int32)), .val (.int (3 : Int32)), .val (.int x3)] [])) _
          exact J3 _ _ X2 R2 N2 (Or.inl hc19)
        · skip
          refine ownStep (fun _ k => XS.icmpNo X2.here hx rfl (hb hby own_inw4_d19) rfl (feq (hc19 : ¬ x3 = (32 : Int32))).1 k) ?_
          refine ownStep (fun _ k => XS.iloadN X2.here hx rfl (hb hby own_inw4_d22) rfl  k) ?_
          refine ownStep (fun _ k => XS.bipush X2.here hx rfl (hb hby own_inw4_d23) k) ?_
          show ownGo p.tables e below (T2.setTop (mkF m 25 #[.val (.ref tb), .val (.int (4 : Int32)), .val (.int (3 : Int32)), .val (.int x3)] [(.int (9 : Int32)), (.int x3)])) _
          by_cases hc25 : x3 = (9 : Int32)
          · skip
            refine ownStep (fun _ k => XS.icmpYes X2.here hx rfl (pc0 := 25) (pc' := 41) rfl (hb hby own_inw4_d25) rfl (teq (hc25 : x3 = (9 : Int32))).1 (by decide) (by decide) k) ?_
            show ownGo p.tables e below (T2.setTop (mkF m 41 #[.val (.ref tb), .val (.int (4 : Int32)), .val (.int (3 : Int32)), .val (.int x3)] [])) _
            exact J3 _ _ X2 R2 N2 (Or.inr (Or.inl hc25))
          · skip
            refine ownStep (fun _ k => XS.icmpNo X2.here hx rfl (hb hby own_inw4_d25) rfl (feq (hc25 : ¬ x3 = (9 : Int32))).1 k) ?_
            show ownGo p.tables e below (T2.setTop (mkF m 28 #[.val (.ref tb), .val (.int (4 : Int32)), .val (.int (3 : Int32)), .val (.int x3)] [])) _
            have Q4 : Sta Z h0 "java/lang/CharacterDataLatin1" "instance" "Ljava/lang/CharacterDataLatin1;" (.ref ci) := Sci.ext hOld.2
            obtain ⟨T5, X5, e5, st5⟩ := getS2 X2 hx hZ hown (host := "") (Or.inl (hw _ (List.mem_of_getElem? (i := 73) rfl))) Via.refl R2 Q4 (g := (mkF m 28 #[.val (.ref tb), .val (.int (4 : Int32)), .val (.int (3 : Int32)), .val (.int x3)] [])) rfl (hb hby own_inw4_d28)
            refine ownStep st5 ?_
            refine ownStep (fun _ k => XS.iloadN X5.here hx rfl (hb hby own_inw4_d31) rfl  k) ?_
            show ownGo p.tables e below (T5.setTop (mkF m 32 #[.val (.ref tb), .val (.int (4 : Int32)), .val (.int (3 : Int32)), .val (.int x3)] [(.int x3), (.ref ci)])) _
            have Q6 : Exa Z h0 ci "java/lang/CharacterDataLatin1" := Eci.ext hOld.2
            have Zs8 : n0 ≤ h0.size := Nat.le_trans Z0 KP0.1
            obtain ⟨cq7, kq7, q7a, q7b, q7c⟩ := isOf hZ e5 Q6
            obtain ⟨_, _, ⟨T7, L7, k7, n7⟩, -, X7, ⟨Lc7, hQ7, l7, y7, z7⟩, st7⟩ := X5.virtualBack hx (y := (⟨"java/lang/CharacterDataLatin1", "isWhitespace", "(I)Z"⟩ : MethodName)) (z := (⟨"java/lang/CharacterDataLatin1", "isWhitespace", "(I)Z"⟩ : MethodName)) hown (mvT hZ (hw _ (List.mem_of_getElem? (i := 75) rfl))) (mvT hZ (hw _ (List.mem_of_getElem? (i := 76) rfl))) (notFace_of_selects (args := #[]) (mvT hZ (hw _ (List.mem_of_getElem? (i := 78) rfl)))) (mvT hZ (hw _ (List.mem_of_getElem? (i := 78) rfl))) (mvT hZ (hw _ (List.mem_of_getElem? (i := 77) rfl))) (by decide) (backOf (W := 0) (own_iw l Z a0 hw [] ci ta clt ci x3 h0 n0 Zs8 hOld Q6 Sci Eci Sca Tab l_x3 u_x3) hZ (hw _ (List.mem_of_getElem? (i := 79) rfl)) (hw _ (List.mem_of_getElem? (i := 74) rfl)) (by decide) (by decide)) q7a q7c (g := (mkF m 32 #[.val (.ref tb), .val (.int (4 : Int32)), .val (.int (3 : Int32)), .val (.int x3)] [(.int x3), (.ref ci)])) rfl (by rw [hml]; rfl) (Steps.refl _) (argsL := [(.int x3)]) (rest := []) (lenOf own_inw4_pd1 rfl) rfl (by show 2 * 0 + _ ≤ _; exact Nat.le_of_eq rfl) (hb hby own_inw4_d32) (fun _ _ => ⟨rfl, e5, (by decide : 0 + 0 ≤ _), (by decide : 0 + 0 ≤ _)⟩)
            dsimp only [Pt.U, Pt.locs, Pt.cells, Pt.slots] at X7 l7 y7 z7 st7 hQ7
            obtain rfl : k7 = 0 := y7
            obtain rfl : n7 = 0 := z7
            obtain ⟨r_7, rfl, N7q, R7, P9⟩ := hQ7
            have N7 : Fr n0 L7 := l7 ▸ Fr.app N2 N7q
            refine ownStep (fun _ k => st7.trans k) ?_
            show ownGo p.tables e below (T7.setTop (mkF m 35 #[.val (.ref tb), .val (.int (4 : Int32)), .val (.int (3 : Int32)), .val (.int x3)] [(.int r_7)])) _
            by_cases hc35 : r_7 = (0 : Int32)
            · skip
              refine ownStep (fun _ k => XS.ifNo X7.here hx rfl (hb hby own_inw4_d35) rfl ((if0 _ _).trans (teq (hc35 : r_7 = (0 : Int32))).2) k) ?_
              refine ownStep (fun _ k => XS.goto X7.here hx rfl (pc0 := 38) (pc' := 47) rfl (hb hby own_inw4_d38) (by decide) (by decide) k) ?_
              refine ownStep (fun _ k => XS.iloadN X7.here hx rfl (hb hby own_inw4_d47) rfl  k) ?_
              show ownGo p.tables e below (T7.setTop (mkF m 48 #[.val (.ref tb), .val (.int (4 : Int32)), .val (.int (3 : Int32)), .val (.int x3)] [(.int (3 : Int32))])) _
              exact ownRet X7 (v := some (.int (3 : Int32))) Bd.notSynchronized (fun h => by rw [Bd.returns] at h; cases h) (fun _ hr => retI X7 hx Bd.returns (hb hby own_inw4_d48) hr) (by rw [R7]; exact ⟨(3 : Int32), rfl, N7, rfl, (by decide)⟩) (by decide) (by decide)
            · skip
              refine ownStep (fun _ k => XS.ifYes X7.here hx rfl (pc0 := 35) (pc' := 41) rfl (hb hby own_inw4_d35) rfl ((if0 _ _).trans (feq (hc35 : ¬ r_7 = (0 : Int32))).2) (by decide) (by decide) k) ?_
              show ownGo p.tables e below (T7.setTop (mkF m 41 #[.val (.ref tb), .val (.int (4 : Int32)), .val (.int (3 : Int32)), .val (.int x3)] [])) _
              exact J3 _ _ X7 R7 N7 (Or.inr (Or.inr (own_wsr P9 hc35)))
      show ownGo p.tables e below (Tj.setTop (mkF m 12 #[.val (.ref tb), .val (.int (4 : Int32)), .val (.int (2 : Int32)), .val (.int x1)] [(.int (2 : Int32)), (.ref tb)])) _
      have Zs11 : n0 ≤ h0.size := Nat.le_trans Z0 KP0.1
      obtain ⟨_, _, ⟨T10, L10, k10, n10⟩, -, X10, ⟨Lc10, hQ10, l10, y10, z10⟩, st10⟩ := Jvm.LawKit.callS Xj hx (y := (⟨"java/lang/StringLatin1", "getChar", "([BI)C"⟩ : MethodName)) hown (mvT hZ (hw _ (List.mem_of_getElem? (i := 70) rfl))) (mvT hZ (hw _ (List.mem_of_getElem? (i := 71) rfl))) (mvT hZ (hw _ (List.mem_of_getElem? (i := 39) rfl))) (mvT hZ (hw _ (List.mem_of_getElem? (i := 72) rfl))) (by decide) (backOf (W := 0) (own_gc4_2 l Z a0 hw [] tb kb x0 x1 x2 x3 h0 n0 Zs11 B l_x2 u_x2) hZ (hw _ (List.mem_of_getElem? (i := 72) rfl)) (hw _ (List.mem_of_getElem? (i := 39) rfl)) (by decide) (by decide)) (g := (mkF m 12 #[.val (.ref tb), .val (.int (4 : Int32)), .val (.int (2 : Int32)), .val (.int x1)] [(.int (2 : Int32)), (.ref tb)])) rfl (by rw [hml]; rfl) (argsL := [(.ref tb), (.int (2 : Int32))]) (rest := []) (lenOf own_inw4_pd0 rfl) rfl (by show 2 * 0 + _ ≤ _; exact Nat.le_of_eq rfl) (hb hby own_inw4_d12) (fun _ _ => ⟨rfl, ej, (by decide : 0 + 0 ≤ _), (by decide : 0 + 0 ≤ _)⟩)
      dsimp only [Pt.U, Pt.locs, Pt.cells, Pt.slots] at X10 l10 y10 z10 st10 hQ10
      obtain rfl : k10 = 0 := y10
      obtain rfl : n10 = 0 := z10
      obtain ⟨rfl, N10q, R10⟩ := hQ10
      have N10 : Fr n0 L10 := l10 ▸ Fr.app Nj N10q
      refine ownStep (fun _ k => st10 _ k) ?_
      refine ownStep (fun _ k => XS.istoreN X10.here hx rfl (hb hby own_inw4_d15) rfl (l' := #[.val (.ref tb), .val (.int (4 : Int32)), .val (.int (2 : Int32)), .val (.int x2)]) rfl k) ?_
      refine ownStep (fun _ k => XS.iloadN X10.here hx rfl (hb hby own_inw4_d16) rfl  k) ?_
      refine ownStep (fun _ k => XS.bipush X10.here hx rfl (hb hby own_inw4_d17) k) ?_
      show ownGo p.tables e below (T10.setTop (mkF m 19 #[.val (.ref tb), .val (.int (4 : Int32)), .val (.int (2 : Int32)), .val (.int x2)] [(.int (32 : Int32)), (.int x2)])) _
      by_cases hc19 : x2 = (32 : Int32)
      · skip
        refine ownStep (fun _ k => XS.icmpYes X10.here hx rfl (pc0 := 19) (pc' := 41) rfl (hb hby own_inw4_d19) rfl (teq (hc19 : x2 = (32 : Int32))).1 (by decide) (by decide) k) ?_
        show ownGo p.tables e below (T10.setTop (mkF m 41 #[.val (.ref tb), .val (.int (4 : Int32)), .val (.int (2 : Int32)), .val (.int x2)] [])) _
        exact J2 _ _ X10 R10 N10 (Or.inl hc19)
      · skip
        refine ownStep (fun _ k => XS.icmpNo X10.here hx rfl (hb hby own_inw4_d19) rfl (feq (hc19 : ¬ x2 = (32 : Int32))).1 k) ?_
        refine ownStep (fun _ k => XS.iloadN X10.here hx rfl (hb hby own_inw4_d22) rfl  k) ?_
        refine ownStep (fun _ k => XS.bipush X10.here hx rfl (hb hby own_inw4_d23) k) ?_
        show ownGo p.tables e below (T10.setTop (mkF m 25 #[.val (.ref tb), .val (.int (4 : Int32)), .val (.int (2 : Int32)), .val (.int x2)] [(.int (9 : Int32)), (.int x2)])) _
        by_cases hc25 : x2 = (9 : Int32)
        · skip
          refine ownStep (fun _ k => XS.icmpYes X10.here hx rfl (pc0 := 25) (pc' := 41) rfl (hb hby own_inw4_d25) rfl (teq (hc25 : x2 = (9 : Int32))).1 (by decide) (by decide) k) ?_
          show ownGo p.tables e below (T10.setTop (mkF m 41 #[.val (.ref tb), .val (.int (4 : Int32)), .val (.int (2 : Int32)), .val (.int x2)] [])) _
          exact J2 _ _ X10 R10 N10 (Or.inr (Or.inl hc25))
        · skip
          refine ownStep (fun _ k => XS.icmpNo X10.here hx rfl (hb hby own_inw4_d25) rfl (feq (hc25 : ¬ x2 = (9 : Int32))).1 k) ?_
          show ownGo p.tables e below (T10.setTop (mkF m 28 #[.val (.ref tb), .val (.int (4 : Int32)), .val (.int (2 : Int32)), .val (.int x2)] [])) _
          have Q12 : Sta Z h0 "java/lang/CharacterDataLatin1" "instance" "Ljava/lang/CharacterDataLatin1;" (.ref ci) := Sci.ext hOld.2
          obtain ⟨T13, X13, e13, st13⟩ := getS2 X10 hx hZ hown (host := "") (Or.inl (hw _ (List.mem_of_getElem? (i := 73) rfl))) Via.refl R10 Q12 (g := (mkF m 28 #[.val (.ref tb), .val (.int (4 : Int32)), .val (.int (2 : Int32)), .val (.int x2)] [])) rfl (hb hby own_inw4_d28)
          refine ownStep st13 ?_
          refine ownStep (fun _ k => XS.iloadN X13.here hx rfl (hb hby own_inw4_d31) rfl  k) ?_
          show ownGo p.tables e below (T13.setTop (mkF m 32 #[.val (.ref tb), .val (.int (4 : Int32)), .val (.int (2 : Int32)), .val (.int x2)] [(.int x2), (.ref ci)])) _
          have Q14 : Exa Z h0 ci "java/lang/CharacterDataLatin1" := Eci.ext hOld.2
          have Zs16 : n0 ≤ h0.size := Nat.le_trans Z0 KP0.1
          obtain ⟨cq15, kq15, q15a, q15b, q15c⟩ := isOf hZ e13 Q14
          obtain ⟨_, _, ⟨T15, L15, k15, n15⟩, -, X15, ⟨Lc15, hQ15, l15, y15, z15⟩, st15⟩ := X13.virtualBack hx (y := (⟨"java/lang/CharacterDataLatin1", "isWhitespace", "(I)Z"⟩ : MethodName)) (z := (⟨"java/lang/CharacterDataLatin1", "isWhitespace", "(I)Z"⟩ : MethodName)) hown (mvT hZ (hw _ (List.mem_of_getElem? (i := 75) rfl))) (mvT hZ (hw _ (List.mem_of_getElem? (i := 76) rfl))) (notFace_of_selects (args := #[]) (mvT hZ (hw _ (List.mem_of_getElem? (i := 78) rfl)))) (mvT hZ (hw _ (List.mem_of_getElem? (i := 78) rfl))) (mvT hZ (hw _ (List.mem_of_getElem? (i := 77) rfl))) (by decide) (backOf (W := 0) (own_iw l Z a0 hw [] ci ta clt ci x2 h0 n0 Zs16 hOld Q14 Sci Eci Sca Tab l_x2 u_x2) hZ (hw _ (List.mem_of_getElem? (i := 79) rfl)) (hw _ (List.mem_of_getElem? (i := 74) rfl)) (by decide) (by decide)) q15a q15c (g := (mkF m 32 #[.val (.ref tb), .val (.int (4 : Int32)), .val (.int (2 : Int32)), .val (.int x2)] [(.int x2), (.ref ci)])) rfl (by rw [hml]; rfl) (Steps.refl _) (argsL := [(.int x2)]) (rest := []) (lenOf own_inw4_pd1 rfl) rfl (by show 2 * 0 + _ ≤ _; exact Nat.le_of_eq rfl) (hb hby own_inw4_d32) (fun _ _ => ⟨rfl, e13, (by decide : 0 + 0 ≤ _), (by decide : 0 + 0 ≤ _)⟩)
          dsimp only [Pt.U, Pt.locs, Pt.cells, Pt.slots] at X15 l15 y15 z15 st15 hQ15
          obtain rfl : k15 = 0 := y15
          obtain rfl : n15 = 0 := z15
          obtain ⟨r_15, rfl, N15q, R15, P17⟩ := hQ15
          have N15 : Fr n0 L15 := l15 ▸ Fr.app N10 N15q
          refine ownStep (fun _ k => st15.trans k) ?_
          show ownGo p.tables e below (T15.setTop (mkF m 35 #[.val (.ref tb), .val (.int (4 : Int32)), .val (.int (2 : Int32)), .val (.int x2)] [(.int r_15)])) _
          by_cases hc35 : r_15 = (0 : Int32)
          · skip
            refine ownStep (fun _ k => XS.ifNo X15.here hx rfl (hb hby own_inw4_d35) rfl ((if0 _ _).trans (teq (hc35 : r_15 = (0 : Int32))).2) k) ?_
            refine ownStep (fun _ k => XS.goto X15.here hx rfl (pc0 := 38) (pc' := 47) rfl (hb hby own_inw4_d38) (by decide) (by decide) k) ?_
            refine ownStep (fun _ k => XS.iloadN X15.here hx rfl (hb hby own_inw4_d47) rfl  k) ?_
            show ownGo p.tables e below (T15.setTop (mkF m 48 #[.val (.ref tb), .val (.int (4 : Int32)), .val (.int (2 : Int32)), .val (.int x2)] [(.int (2 : Int32))])) _
            exact ownRet X15 (v := some (.int (2 : Int32))) Bd.notSynchronized (fun h => by rw [Bd.returns] at h; cases h) (fun _ hr => retI X15 hx Bd.returns (hb hby own_inw4_d48) hr) (by rw [R15]; exact ⟨(2 : Int32), rfl, N15, rfl, (by decide)⟩) (by decide) (by decide)
          · skip
            refine ownStep (fun _ k => XS.ifYes X15.here hx rfl (pc0 := 35) (pc' := 41) rfl (hb hby own_inw4_d35) rfl ((if0 _ _).trans (feq (hc35 : ¬ r_15 = (0 : Int32))).2) (by decide) (by decide) k) ?_
            show ownGo p.tables e below (T15.setTop (mkF m 41 #[.val (.ref tb), .val (.int (4 : Int32)), .val (.int (2 : Int32)), .val (.int x2)] [])) _
            exact J2 _ _ X15 R15 N15 (Or.inr (Or.inr (own_wsr P17 hc35)))
    show ownGo p.tables e below (Tj.setTop (mkF m 12 #[.val (.ref tb), .val (.int (4 : Int32)), .val (.int (1 : Int32)), .val (.int x0)] [(.int (1 : Int32)), (.ref tb)])) _
    have Zs19 : n0 ≤ h0.size := Nat.le_trans Z0 KP0.1
    obtain ⟨_, _, ⟨T18, L18, k18, n18⟩, -, X18, ⟨Lc18, hQ18, l18, y18, z18⟩, st18⟩ := Jvm.LawKit.callS Xj hx (y := (⟨"java/lang/StringLatin1", "getChar", "([BI)C"⟩ : MethodName)) hown (mvT hZ (hw _ (List.mem_of_getElem? (i := 70) rfl))) (mvT hZ (hw _ (List.mem_of_getElem? (i := 71) rfl))) (mvT hZ (hw _ (List.mem_of_getElem? (i := 39) rfl))) (mvT hZ (hw _ (List.mem_of_getElem? (i := 72) rfl))) (by decide) (backOf (W := 0) (own_gc4_1 l Z a0 hw [] tb kb x0 x1 x2 x3 h0 n0 Zs19 B l_x1 u_x1) hZ (hw _ (List.mem_of_getElem? (i := 72) rfl)) (hw _ (List.mem_of_getElem? (i := 39) rfl)) (by decide) (by decide)) (g := (mkF m 12 #[.val (.ref tb), .val (.int (4 : Int32)), .val (.int (1 : Int32)), .val (.int x0)] [(.int (1 : Int32)), (.ref tb)])) rfl (by rw [hml]; rfl) (argsL := [(.ref tb), (.int (1 : Int32))]) (rest := []) (lenOf own_inw4_pd0 rfl) rfl (by show 2 * 0 + _ ≤ _; exact Nat.le_of_eq rfl) (hb hby own_inw4_d12) (fun _ _ => ⟨rfl, ej, (by decide : 0 + 0 ≤ _), (by decide : 0 + 0 ≤ _)⟩)
    dsimp only [Pt.U, Pt.locs, Pt.cells, Pt.slots] at X18 l18 y18 z18 st18 hQ18
    obtain rfl : k18 = 0 := y18
    obtain rfl : n18 = 0 := z18
    obtain ⟨rfl, N18q, R18⟩ := hQ18
    have N18 : Fr n0 L18 := l18 ▸ Fr.app Nj N18q
    refine ownStep (fun _ k => st18 _ k) ?_
    refine ownStep (fun _ k => XS.istoreN X18.here hx rfl (hb hby own_inw4_d15) rfl (l' := #[.val (.ref tb), .val (.int (4 : Int32)), .val (.int (1 : Int32)), .val (.int x1)]) rfl k) ?_
    refine ownStep (fun _ k => XS.iloadN X18.here hx rfl (hb hby own_inw4_d16) rfl  k) ?_
    refine ownStep (fun _ k => XS.bipush X18.here hx rfl (hb hby own_inw4_d17) k) ?_
    show ownGo p.tables e below (T18.setTop (mkF m 19 #[.val (.ref tb), .val (.int (4 : Int32)), .val (.int (1 : Int32)), .val (.int x1)] [(.int (32 : Int32)), (.int x1)])) _
    by_cases hc19 : x1 = (32 : Int32)
    · skip
      refine ownStep (fun _ k => XS.icmpYes X18.here hx rfl (pc0 := 19) (pc' := 41) rfl (hb hby own_inw4_d19) rfl (teq (hc19 : x1 = (32 : Int32))).1 (by decide) (by decide) k) ?_
      show ownGo p.tables e below (T18.setTop (mkF m 41 #[.val (.ref tb), .val (.int (4 : Int32)), .val (.int (1 : Int32)), .val (.int x1)] [])) _
      exact J1 _ _ X18 R18 N18 (Or.inl hc19)
    · skip
      refine ownStep (fun _ k => XS.icmpNo X18.here hx rfl (hb hby own_inw4_d19) rfl (feq (hc19 : ¬ x1 = (32 : Int32))).1 k) ?_
      refine ownStep (fun _ k => XS.iloadN X18.here hx rfl (hb hby own_inw4_d22) rfl  k) ?_
      refine ownStep (fun _ k => XS.bipush X18.here hx rfl (hb hby own_inw4_d23) k) ?_
      show ownGo p.tables e below (T18.setTop (mkF m 25 #[.val (.ref tb), .val (.int (4 : Int32)), .val (.int (1 : Int32)), .val (.int x1)] [(.int (9 : Int32)), (.int x1)])) _
      by_cases hc25 : x1 = (9 : Int32)
      · skip
        refine ownStep (fun _ k => XS.icmpYes X18.here hx rfl (pc0 := 25) (pc' := 41) rfl (hb hby own_inw4_d25) rfl (teq (hc25 : x1 = (9 : Int32))).1 (by decide) (by decide) k) ?_
        show ownGo p.tables e below (T18.setTop (mkF m 41 #[.val (.ref tb), .val (.int (4 : Int32)), .val (.int (1 : Int32)), .val (.int x1)] [])) _
        exact J1 _ _ X18 R18 N18 (Or.inr (Or.inl hc25))
      · skip
        refine ownStep (fun _ k => XS.icmpNo X18.here hx rfl (hb hby own_inw4_d25) rfl (feq (hc25 : ¬ x1 = (9 : Int32))).1 k) ?_
        show ownGo p.tables e below (T18.setTop (mkF m 28 #[.val (.ref tb), .val (.int (4 : Int32)), .val (.int (1 : Int32)), .val (.int x1)] [])) _
        have Q20 : Sta Z h0 "java/lang/CharacterDataLatin1" "instance" "Ljava/lang/CharacterDataLatin1;" (.ref ci) := Sci.ext hOld.2
        obtain ⟨T21, X21, e21, st21⟩ := getS2 X18 hx hZ hown (host := "") (Or.inl (hw _ (List.mem_of_getElem? (i := 73) rfl))) Via.refl R18 Q20 (g := (mkF m 28 #[.val (.ref tb), .val (.int (4 : Int32)), .val (.int (1 : Int32)), .val (.int x1)] [])) rfl (hb hby own_inw4_d28)
        refine ownStep st21 ?_
        refine ownStep (fun _ k => XS.iloadN X21.here hx rfl (hb hby own_inw4_d31) rfl  k) ?_
        show ownGo p.tables e below (T21.setTop (mkF m 32 #[.val (.ref tb), .val (.int (4 : Int32)), .val (.int (1 : Int32)), .val (.int x1)] [(.int x1), (.ref ci)])) _
        have Q22 : Exa Z h0 ci "java/lang/CharacterDataLatin1" := Eci.ext hOld.2
        have Zs24 : n0 ≤ h0.size := Nat.le_trans Z0 KP0.1
        obtain ⟨cq23, kq23, q23a, q23b, q23c⟩ := isOf hZ e21 Q22
        obtain ⟨_, _, ⟨T23, L23, k23, n23⟩, -, X23, ⟨Lc23, hQ23, l23, y23, z23⟩, st23⟩ := X21.virtualBack hx (y := (⟨"java/lang/CharacterDataLatin1", "isWhitespace", "(I)Z"⟩ : MethodName)) (z := (⟨"java/lang/CharacterDataLatin1", "isWhitespace", "(I)Z"⟩ : MethodName)) hown (mvT hZ (hw _ (List.mem_of_getElem? (i := 75) rfl))) (mvT hZ (hw _ (List.mem_of_getElem? (i := 76) rfl))) (notFace_of_selects (args := #[]) (mvT hZ (hw _ (List.mem_of_getElem? (i := 78) rfl)))) (mvT hZ (hw _ (List.mem_of_getElem? (i := 78) rfl))) (mvT hZ (hw _ (List.mem_of_getElem? (i := 77) rfl))) (by decide) (backOf (W := 0) (own_iw l Z a0 hw [] ci ta clt ci x1 h0 n0 Zs24 hOld Q22 Sci Eci Sca Tab l_x1 u_x1) hZ (hw _ (List.mem_of_getElem? (i := 79) rfl)) (hw _ (List.mem_of_getElem? (i := 74) rfl)) (by decide) (by decide)) q23a q23c (g := (mkF m 32 #[.val (.ref tb), .val (.int (4 : Int32)), .val (.int (1 : Int32)), .val (.int x1)] [(.int x1), (.ref ci)])) rfl (by rw [hml]; rfl) (Steps.refl _) (argsL := [(.int x1)]) (rest := []) (lenOf own_inw4_pd1 rfl) rfl (by show 2 * 0 + _ ≤ _; exact Nat.le_of_eq rfl) (hb hby own_inw4_d32) (fun _ _ => ⟨rfl, e21, (by decide : 0 + 0 ≤ _), (by decide : 0 + 0 ≤ _)⟩)
        dsimp only [Pt.U, Pt.locs, Pt.cells, Pt.slots] at X23 l23 y23 z23 st23 hQ23
        obtain rfl : k23 = 0 := y23
        obtain rfl : n23 = 0 := z23
        obtain ⟨r_23, rfl, N23q, R23, P25⟩ := hQ23
        have N23 : Fr n0 L23 := l23 ▸ Fr.app N18 N23q
        refine ownStep (fun _ k => st23.trans k) ?_
        show ownGo p.tables e below (T23.setTop (mkF m 35 #[.val (.ref tb), .val (.int (4 : Int32)), .val (.int (1 : Int32)), .val (.int x1)] [(.int r_23)])) _
        by_cases hc35 : r_23 = (0 : Int32)
        · skip
          refine ownStep (fun _ k => XS.ifNo X23.here hx rfl (hb hby own_inw4_d35) rfl ((if0 _ _).trans (teq (hc35 : r_23 = (0 : Int32))).2) k) ?_
          refine ownStep (fun _ k => XS.goto X23.here hx rfl (pc0 := 38) (pc' := 47) rfl (hb hby own_inw4_d38) (by decide) (by decide) k) ?_
          refine ownStep (fun _ k => XS.iloadN X23.here hx rfl (hb hby own_inw4_d47) rfl  k) ?_
          show ownGo p.tables e below (T23.setTop (mkF m 48 #[.val (.ref tb), .val (.int (4 : Int32)), .val (.int (1 : Int32)), .val (.int x1)] [(.int (1 : Int32))])) _
          exact ownRet X23 (v := some (.int (1 : Int32))) Bd.notSynchronized (fun h => by rw [Bd.returns] at h; cases h) (fun _ hr => retI X23 hx Bd.returns (hb hby own_inw4_d48) hr) (by rw [R23]; exact ⟨(1 : Int32), rfl, N23, rfl, (by decide)⟩) (by decide) (by decide)
        · skip
          refine ownStep (fun _ k => XS.ifYes X23.here hx rfl (pc0 := 35) (pc' := 41) rfl (hb hby own_inw4_d35) rfl ((if0 _ _).trans (feq (hc35 : ¬ r_23 = (0 : Int32))).2) (by decide) (by decide) k) ?_
          show ownGo p.tables e below (T23.setTop (mkF m 41 #[.val (.ref tb), .val (.int (4 : Int32)), .val (.int (1 : Int32)), .val (.int x1)] [])) _
          exact J1 _ _ X23 R23 N23 (Or.inr (Or.inr (own_wsr P25 hc35)))
  show ownGo p.tables e below (s₁.setTop (mkF m 12 #[.val (.ref tb), .val (.int (4 : Int32)), .val (.int (0 : Int32)), .unset] [(.int (0 : Int32)), (.ref tb)])) _
  have Zs27 : n0 ≤ h0.size := Nat.le_trans Z0 KP0.1
  obtain ⟨_, _, ⟨T26, L26, k26, n26⟩, -, X26, ⟨Lc26, hQ26, l26, y26, z26⟩, st26⟩ := Jvm.LawKit.callS X0 hx (y := (⟨"java/lang/StringLatin1", "getChar", "([BI)C"⟩ : MethodName)) hown (mvT hZ (hw _ (List.mem_of_getElem? (i := 70) rfl))) (mvT hZ (hw _ (List.mem_of_getElem? (i := 71) rfl))) (mvT hZ (hw _ (List.mem_of_getElem? (i := 39) rfl))) (mvT hZ (hw _ (List.mem_of_getElem? (i := 72) rfl))) (by decide) (backOf (W := 0) (own_gc4_0 l Z a0 hw [] tb kb x0 x1 x2 x3 h0 n0 Zs27 B l_x0 u_x0) hZ (hw _ (List.mem_of_getElem? (i := 72) rfl)) (hw _ (List.mem_of_getElem? (i := 39) rfl)) (by decide) (by decide)) (g := (mkF m 12 #[.val (.ref tb), .val (.int (4 : Int32)), .val (.int (0 : Int32)), .unset] [(.int (0 : Int32)), (.ref tb)])) rfl (by rw [hml]; rfl) (argsL := [(.ref tb), (.int (0 : Int32))]) (rest := []) (lenOf own_inw4_pd0 rfl) rfl (by show 2 * 0 + _ ≤ _; exact Nat.le_of_eq rfl) (hb hby own_inw4_d12) (fun _ _ => ⟨rfl, e0, (by decide : 0 + 0 ≤ _), (by decide : 0 + 0 ≤ _)⟩)
  dsimp only [Pt.U, Pt.locs, Pt.cells, Pt.slots] at X26 l26 y26 z26 st26 hQ26
  obtain rfl : k26 = 0 := y26
  obtain rfl : n26 = 0 := z26
  obtain ⟨rfl, N26q, R26⟩ := hQ26
  have N26 : Fr n0 L26 := l26 ▸ Fr.app N0 N26q
  refine ownStep (fun _ k => st26 _ k) ?_
  refine ownStep (fun _ k => XS.istoreN X26.here hx rfl (hb hby own_inw4_d15) rfl (l' := #[.val (.ref tb), .val (.int (4 : Int32)), .val (.int (0 : Int32)), .val (.int x0)]) rfl k) ?_
  refine ownStep (fun _ k => XS.iloadN X26.here hx rfl (hb hby own_inw4_d16) rfl  k) ?_
  refine ownStep (fun _ k => XS.bipush X26.here hx rfl (hb hby own_inw4_d17) k) ?_
  show ownGo p.tables e below (T26.setTop (mkF m 19 #[.val (.ref tb), .val (.int (4 : Int32)), .val (.int (0 : Int32)), .val (.int x0)] [(.int (32 : Int32)), (.int x0)])) _
  by_cases hc19 : x0 = (32 : Int32)
  · skip
    refine ownStep (fun _ k => XS.icmpYes X26.here hx rfl (pc0 := 19) (pc' := 41) rfl (hb hby own_inw4_d19) rfl (teq (hc19 : x0 = (32 : Int32))).1 (by decide) (by decide) k) ?_
    show ownGo p.tables e below (T26.setTop (mkF m 41 #[.val (.ref tb), .val (.int (4 : Int32)), .val (.int (0 : Int32)), .val (.int x0)] [])) _
    exact J0 _ _ X26 R26 N26 (Or.inl hc19)
  · skip
    refine ownStep (fun _ k => XS.icmpNo X26.here hx rfl (hb hby own_inw4_d19) rfl (feq (hc19 : ¬ x0 = (32 : Int32))).1 k) ?_
    refine ownStep (fun _ k => XS.iloadN X26.here hx rfl (hb hby own_inw4_d22) rfl  k) ?_
    refine ownStep (fun _ k => XS.bipush X26.here hx rfl (hb hby own_inw4_d23) k) ?_
    show ownGo p.tables e below (T26.setTop (mkF m 25 #[.val (.ref tb), .val (.int (4 : Int32)), .val (.int (0 : Int32)), .val (.int x0)] [(.int (9 : Int32)), (.int x0)])) _
    by_cases hc25 : x0 = (9 : Int32)
    · skip
      refine ownStep (fun _ k => XS.icmpYes X26.here hx rfl (pc0 := 25) (pc' := 41) rfl (hb hby own_inw4_d25) rfl (teq (hc25 : x0 = (9 : Int32))).1 (by decide) (by decide) k) ?_
      show ownGo p.tables e below (T26.setTop (mkF m 41 #[.val (.ref tb), .val (.int (4 : Int32)), .val (.int (0 : Int32)), .val (.int x0)] [])) _
      exact J0 _ _ X26 R26 N26 (Or.inr (Or.inl hc25))
    · skip
      refine ownStep (fun _ k => XS.icmpNo X26.here hx rfl (hb hby own_inw4_d25) rfl (feq (hc25 : ¬ x0 = (9 : Int32))).1 k) ?_
      show ownGo p.tables e below (T26.setTop (mkF m 28 #[.val (.ref tb), .val (.int (4 : Int32)), .val (.int (0 : Int32)), .val (.int x0)] [])) _
      have Q28 : Sta Z h0 "java/lang/CharacterDataLatin1" "instance" "Ljava/lang/CharacterDataLatin1;" (.ref ci) := Sci.ext hOld.2
      obtain ⟨T29, X29, e29, st29⟩ := getS2 X26 hx hZ hown (host := "") (Or.inl (hw _ (List.mem_of_getElem? (i := 73) rfl))) Via.refl R26 Q28 (g := (mkF m 28 #[.val (.ref tb), .val (.int (4 : Int32)), .val (.int (0 : Int32)), .val (.int x0)] [])) rfl (hb hby own_inw4_d28)
      refine ownStep st29 ?_
      refine ownStep (fun _ k => XS.iloadN X29.here hx rfl (hb hby own_inw4_d31) rfl  k) ?_
      show ownGo p.tables e below (T29.setTop (mkF m 32 #[.val (.ref tb), .val (.int (4 : Int32)), .val (.int (0 : Int32)), .val (.int x0)] [(.int x0), (.ref ci)])) _
      have Q30 : Exa Z h0 ci "java/lang/CharacterDataLatin1" := Eci.ext hOld.2
      have Zs32 : n0 ≤ h0.size := Nat.le_trans Z0 KP0.1
      obtain ⟨cq31, kq31, q31a, q31b, q31c⟩ := isOf hZ e29 Q30
      obtain ⟨_, _, ⟨T31, L31, k31, n31⟩, -, X31, ⟨Lc31, hQ31, l31, y31, z31⟩, st31⟩ := X29.virtualBack hx (y := (⟨"java/lang/CharacterDataLatin1", "isWhitespace", "(I)Z"⟩ : MethodName)) (z := (⟨"java/lang/CharacterDataLatin1", "isWhitespace", "(I)Z"⟩ : MethodName)) hown (mvT hZ (hw _ (List.mem_of_getElem? (i := 75) rfl))) (mvT hZ (hw _ (List.mem_of_getElem? (i := 76) rfl))) (notFace_of_selects (args := #[]) (mvT hZ (hw _ (List.mem_of_getElem? (i := 78) rfl)))) (mvT hZ (hw _ (List.mem_of_getElem? (i := 78) rfl))) (mvT hZ (hw _ (List.mem_of_getElem? (i := 77) rfl))) (by decide) (backOf (W := 0) (own_iw l Z a0 hw [] ci ta clt ci x0 h0 n0 Zs32 hOld Q30 Sci Eci Sca Tab l_x0 u_x0) hZ (hw _ (List.mem_of_getElem? (i := 79) rfl)) (hw _ (List.mem_of_getElem? (i := 74) rfl)) (by decide) (by decide)) q31a q31c (g := (mkF m 32 #[.val (.ref tb), .val (.int (4 : Int32)), .val (.int (0 : Int32)), .val (.int x0)] [(.int x0), (.ref ci)])) rfl (by rw [hml]; rfl) (Steps.refl _) (argsL := [(.int x0)]) (rest := []) (lenOf own_inw4_pd1 rfl) rfl (by show 2 * 0 + _ ≤ _; exact Nat.le_of_eq rfl) (hb hby own_inw4_d32) (fun _ _ => ⟨rfl, e29, (by decide : 0 + 0 ≤ _), (by decide : 0 + 0 ≤ _)⟩)
      dsimp only [Pt.U, Pt.locs, Pt.cells, Pt.slots] at X31 l31 y31 z31 st31 hQ31
      obtain rfl : k31 = 0 := y31
      obtain rfl : n31 = 0 := z31
      obtain ⟨r_31, rfl, N31q, R31, P33⟩ := hQ31
      have N31 : Fr n0 L31 := l31 ▸ Fr.app N26 N31q
      refine ownStep (fun _ k => st31.trans k) ?_
      show ownGo p.tables e below (T31.setTop (mkF m 35 #[.val (.ref tb), .val (.int (4 : Int32)), .val (.int (0 : Int32)), .val (.int x0)] [(.int r_31)])) _
      by_cases hc35 : r_31 = (0 : Int32)
      · skip
        refine ownStep (fun _ k => XS.ifNo X31.here hx rfl (hb hby own_inw4_d35) rfl ((if0 _ _).trans (teq (hc35 : r_31 = (0 : Int32))).2) k) ?_
        refine ownStep (fun _ k => XS.goto X31.here hx rfl (pc0 := 38) (pc' := 47) rfl (hb hby own_inw4_d38) (by decide) (by decide) k) ?_
        refine ownStep (fun _ k => XS.iloadN X31.here hx rfl (hb hby own_inw4_d47) rfl  k) ?_
        show ownGo p.tables e below (T31.setTop (mkF m 48 #[.val (.ref tb), .val (.int (4 : Int32)), .val (.int (0 : Int32)), .val (.int x0)] [(.int (0 : Int32))])) _
        exact ownRet X31 (v := some (.int (0 : Int32))) Bd.notSynchronized (fun h => by rw [Bd.returns] at h; cases h) (fun _ hr => retI X31 hx Bd.returns (hb hby own_inw4_d48) hr) (by rw [R31]; exact ⟨(0 : Int32), rfl, N31, rfl, (by decide)⟩) (by decide) (by decide)
      · skip
        refine ownStep (fun _ k => XS.ifYes X31.here hx rfl (pc0 := 35) (pc' := 41) rfl (hb hby own_inw4_d35) rfl ((if0 _ _).trans (feq (hc35 : ¬ r_31 = (0 : Int32))).2) (by decide) (by decide) k) ?_
        show ownGo p.tables e below (T31.setTop (mkF m 41 #[.val (.ref tb), .val (.int (4 : Int32)), .val (.int (0 : Int32)), .val (.int x0)] [])) _
        exact J0 _ _ X31 R31 N31 (Or.inr (Or.inr (own_wsr P33 hc35)))
theorem own_sinw4_d0 : decode jdk_42_method_120_code 0 = .ok (.aload_n 0, 1) := by decide +kernel
theorem own_sinw4_d1 : decode jdk_42_method_120_code 1 = .ok (.invokevirtual 492, 3) := by decide +kernel
theorem own_sinw4_d4 : decode jdk_42_method_120_code 4 = .ok (.ifCond .eq 13, 3) := by decide +kernel
theorem own_sinw4_d7 : decode jdk_42_method_120_code 7 = .ok (.aload_n 0, 1) := by decide +kernel
theorem own_sinw4_d8 : decode jdk_42_method_120_code 8 = .ok (.getfield 9, 3) := by decide +kernel
theorem own_sinw4_d11 : decode jdk_42_method_120_code 11 = .ok (.invokestatic 924, 3) := by decide +kernel
theorem own_sinw4_d14 : decode jdk_42_method_120_code 14 = .ok (.goto 10, 3) := by decide +kernel
theorem own_sinw4_d24 : decode jdk_42_method_120_code 24 = .ok (.ireturn, 1) := by decide +kernel
theorem own_sinw4_pn : plainName "java/lang/String" = true := by first | (simp [plainName, overriddenIn]; done) | decide +kernel
theorem own_sinw4_pd0 : parseMethodDescriptor "()Z" = some ⟨[], some .boolean⟩ := by decide +kernel
theorem own_sinw4_pd1 : parseMethodDescriptor "([B)I" = some ⟨[(.array .byte)], some .int⟩ := by decide +kernel
theorem own_sinw4_ef (m : MethodId) (x0 : Addr) : entryFrame m #[(.ref x0)] 1 = mkF m 0 #[.val (.ref x0)] [] := by first | (simp [entryFrame, mkF, argsToLocals, Value.category]; done) | rfl
def own_sinw4_Q (Z : State) (zc : Int32) (ci : Addr) (ta : Addr) (clt : Cell) (a : Addr) (tb : Addr) (kb : ClassId) (x0 : Int32) (x1 : Int32) (x2 : Int32) (x3 : Int32) (h0 : Heap) (n0 : Nat) (vv_ : Option Value) (hh_ : Heap) (LL_ : List Loc) : Prop := ∃ r : Int32, vv_ = some (.int r) ∧ Fr n0 LL_ ∧ hh_ = h0 ∧ (¬ r = (4 : Int32))
set_option maxRecDepth 65536 in
set_option maxHeartbeats 40000000 in
theorem own_sinw4 (l : Launch) (Z : State) (a0 : Array Value) (hw : ∀ d ∈ tables_1, d.before a0 Z = true) (ws : List Jvm.Cond) (zc : Int32) (ci : Addr) (ta : Addr) (clt : Cell) (a : Addr) (tb : Addr) (kb : ClassId) (x0 : Int32) (x1 : Int32) (x2 : Int32) (x3 : Int32) (h0 : Heap) (n0 : Nat) (Z0 : n0 ≤ h0.size) (hOld : Old Z n0 h0) (Scs : Sta Z Z.heap "java/lang/String" "COMPACT_STRINGS" "Z" (.int zc)) (hzc : ¬ zc = (0 : Int32)) (Sci : Sta Z Z.heap "java/lang/CharacterDataLatin1" "instance" "Ljava/lang/CharacterDataLatin1;" (.ref ci)) (Eci : Exa Z Z.heap ci "java/lang/CharacterDataLatin1") (Sca : Sta Z Z.heap "java/lang/CharacterDataLatin1" "A" "[I" (.ref ta)) (Tab : own_tab Z ta clt) (E : Exa Z h0 a "java/lang/String") (C : Fld Z h0 a "java/lang/String" "coder" "B" (.int (0 : Int32))) (Vl : Fld Z h0 a "java/lang/String" "value" "[B" (.ref tb)) (B : Arv Z h0 tb kb .byte (4 : Int32) [(.int x0.toInt8.toInt32), (.int x1.toInt8.toInt32), (.int x2.toInt8.toInt32), (.int x3.toInt8.toInt32)] (.int (0 : Int32))) (l_x0 : ¬ x0 < (0 : Int32)) (u_x0 : ¬ (255 : Int32) < x0) (l_x1 : ¬ x1 < (0 : Int32)) (u_x1 : ¬ (255 : Int32) < x1) (l_x2 : ¬ x2 < (0 : Int32)) (u_x2 : ¬ (255 : Int32) < x2) (l_x3 : ¬ x3 < (0 : Int32)) (u_x3 : ¬ (255 : Int32) < x3) (kk : own_keep x0 ∨ own_keep x1 ∨ own_keep x2 ∨ own_keep x3) :
    MetFree l (⟨"java/lang/String", "indexOfNonWhitespace", "()I"⟩ : MethodName) (head1 (Jvm.Cond.code (⟨"java/lang/String", "indexOfNonWhitespace", "()I"⟩ : MethodName) jdk_42_method_120_code 1 (some .int) :: ws) ({ frames := 3, cells := 0, slots := 0, locals := 44 } : Room)) (fun aa_ UU_ => aa_ = #[(.ref a)] ∧ Z.Warmed39 UU_.vm ∧ UU_.heap = h0) (fun _ _ _ _ _ => True) (fun _ UU_ oo_ UV_ => ∃ vv_ LL_, oo_ = .returned vv_ ∧ own_sinw4_Q Z zc ci ta clt a tb kb x0 x1 x2 x3 h0 n0 vv_ UV_.heap LL_ ∧ FrameEnd UU_ oo_ UV_ LL_ ({ frames := 3, cells := 0, slots := 0, locals := 44 } : Room).cells ({ frames := 3, cells := 0, slots := 0, locals := 44 } : Room).slots) := by
  refine MetFree.of_bodySF (plainFor_of_name own_sinw4_pn) hisR ?_
  intro p e s m args below meth c s₁ Bd hml0 hP hK
  obtain ⟨rfl, hZ, hh⟩ := hP
  have hx := Bd.exec
  have hby := Bd.bytes
  have hml : c.maxLocals = 1 := hml0
  have hown : s.vm.findClass "java/lang/String" = some m.cls := findClass_of_methodNamed Bd.named
  have hnm := (name_of_methodNamed Bd.named Bd.method).1
  have X0 : Stand p l e ({ frames := 3, cells := 0, slots := 0, locals := 44 } : Room) s m #[(.ref a)] below meth c s₁ [] 0 0 := Stand.of_body Bd
  have e0 : s₁.heap = h0 := by rw [← hh, Bd.state]; rfl
  have N0 := Fr.nil n0
  have KP0 : Keep h0 h0 [] := Keep.refl _ _
  refine ownFin (Q := own_sinw4_Q Z zc ci ta clt a tb kb x0 x1 x2 x3 h0 n0) ?_
  refine ownStep (fun _ k => castTop (own_sinw4_ef m a) k) ?_
  show ownGo p.tables e below (s₁.setTop (mkF m 0 #[.val (.ref a)] [])) _
  refine ownStep (fun _ k => XS.aloadN X0.here hx rfl (hb hby own_sinw4_d0) rfl rfl k) ?_
  show ownGo p.tables e below (s₁.setTop (mkF m 1 #[.val (.ref a)] [(.ref a)])) _
  have Zs2 : n0 ≤ h0.size := Nat.le_trans Z0 KP0.1
  obtain ⟨cq1, kq1, q1a, q1b, q1c⟩ := isOf hZ e0 E
  obtain ⟨_, _, ⟨T1, L1, k1, n1⟩, -, X1, ⟨Lc1, hQ1, l1, y1, z1⟩, st1⟩ := X0.virtualBack hx (y := (⟨"java/lang/String", "isLatin1", "()Z"⟩ : MethodName)) (z := (⟨"java/lang/String", "isLatin1", "()Z"⟩ : MethodName)) hown (mvT hZ (hw _ (List.mem_of_getElem? (i := 62) rfl))) (mvT hZ (hw _ (List.mem_of_getElem? (i := 63) rfl))) (notFace_of_selects (args := #[]) (mvT hZ (hw _ (List.mem_of_getElem? (i := 65) rfl)))) (mvT hZ (hw _ (List.mem_of_getElem? (i := 65) rfl))) (mvT hZ (hw _ (List.mem_of_getElem? (i := 64) rfl))) (by decide) (backOf (W := 0) (own_isl l Z a0 hw [] zc a h0 n0 Zs2 hOld Scs hzc C) hZ (hw _ (List.mem_of_getElem? (i := 66) rfl)) (hw _ (List.mem_of_getElem? (i := 6) rfl)) (by decide) (by decide)) q1a q1c (g := (mkF m 1 #[.val (.ref a)] [(.ref a)])) rfl (by rw [hml]; rfl) (Steps.refl _) (argsL := []) (rest := []) (lenOf own_sinw4_pd0 rfl) rfl (by show 2 * 0 + _ ≤ _; exact Nat.le_of_eq rfl) (hb hby own_sinw4_d1) (fun _ _ => ⟨rfl, e0, (by decide : 0 + 0 ≤ _), (by decide : 0 + 0 ≤ _)⟩)
  dsimp only [Pt.U, Pt.locs, Pt.cells, Pt.slots] at X1 l1 y1 z1 st1 hQ1
  obtain rfl : k1 = 0 := y1
  obtain rfl : n1 = 0 := z1
  obtain ⟨rfl, N1q, R1⟩ := hQ1
  have N1 : Fr n0 L1 := l1 ▸ Fr.app N0 N1q
  refine ownStep (fun _ k => st1.trans k) ?_
  refine ownStep (fun _ k => XS.ifNo X1.here hx rfl (hb hby own_sinw4_d4) rfl ((if0 _ _).trans (feq (by decide : ¬ (1 : Int32) = (0 : Int32))).1) k) ?_
  refine ownStep (fun _ k => XS.aloadN X1.here hx rfl (hb hby own_sinw4_d7) rfl rfl k) ?_
  show ownGo p.tables e below (T1.setTop (mkF m 8 #[.val (.ref a)] [(.ref a)])) _
  obtain ⟨T3, X3, e3, st3⟩ := getF X1 hx hZ hown (host := "") (Or.inl (hw _ (List.mem_of_getElem? (i := 32) rfl))) Via.refl R1 Vl (g := (mkF m 8 #[.val (.ref a)] [(.ref a)])) rfl rfl (hb hby own_sinw4_d8)
  refine ownStep st3 ?_
  show ownGo p.tables e below (T3.setTop (mkF m 11 #[.val (.ref a)] [(.ref tb)])) _
  have Zs5 : n0 ≤ h0.size := Nat.le_trans Z0 KP0.1
  obtain ⟨_, _, ⟨T4, L4, k4, n4⟩, -, X4, ⟨Lc4, hQ4, l4, y4, z4⟩, st4⟩ := Jvm.LawKit.callS X3 hx (y := (⟨"java/lang/StringLatin1", "indexOfNonWhitespace", "([B)I"⟩ : MethodName)) hown (mvT hZ (hw _ (List.mem_of_getElem? (i := 67) rfl))) (mvT hZ (hw _ (List.mem_of_getElem? (i := 68) rfl))) (mvT hZ (hw _ (List.mem_of_getElem? (i := 39) rfl))) (mvT hZ (hw _ (List.mem_of_getElem? (i := 69) rfl))) (by decide) (backOf (W := 0) (own_inw4 l Z a0 hw [] zc ci ta clt tb kb x0 x1 x2 x3 h0 n0 Zs5 hOld Scs hzc Sci Eci Sca Tab B l_x0 u_x0 l_x1 u_x1 l_x2 u_x2 l_x3 u_x3 kk) hZ (hw _ (List.mem_of_getElem? (i := 69) rfl)) (hw _ (List.mem_of_getElem? (i := 39) rfl)) (by decide) (by decide)) (g := (mkF m 11 #[.val (.ref a)] [(.ref tb)])) rfl (by rw [hml]; rfl) (argsL := [(.ref tb)]) (rest := []) (lenOf own_sinw4_pd1 rfl) rfl (by show 2 * 0 + _ ≤ _; exact Nat.le_of_eq rfl) (hb hby own_sinw4_d11) (fun _ _ => ⟨rfl, e3, (by decide : 0 + 0 ≤ _), (by decide : 0 + 0 ≤ _)⟩)
  dsimp only [Pt.U, Pt.locs, Pt.cells, Pt.slots] at X4 l4 y4 z4 st4 hQ4
  obtain rfl : k4 = 0 := y4
  obtain rfl : n4 = 0 := z4
  obtain ⟨r_4, rfl, N4q, R4, P6⟩ := hQ4
  have N4 : Fr n0 L4 := l4 ▸ Fr.app N1 N4q
  refine ownStep (fun _ k => st4 _ k) ?_
  refine ownStep (fun _ k => XS.goto X4.here hx rfl (pc0 := 14) (pc' := 24) rfl (hb hby own_sinw4_d14) (by decide) (by decide) k) ?_
  show ownGo p.tables e below (T4.setTop (mkF m 24 #[.val (.ref a)] [(.int r_4)])) _
  exact ownRet X4 (v := some (.int r_4)) Bd.notSynchronized (fun h => by rw [Bd.returns] at h; cases h) (fun _ hr => retI X4 hx Bd.returns (hb hby own_sinw4_d24) hr) (by rw [R4]; exact ⟨r_4, rfl, N4, rfl, P6⟩) (by decide) (by decide)
theorem own_blank4_d0 : decode jdk_42_method_117_code 0 = .ok (.aload_n 0, 1) := by decide +kernel
theorem own_blank4_d1 : decode jdk_42_method_117_code 1 = .ok (.invokevirtual 876, 3) := by decide +kernel
theorem own_blank4_d4 : decode jdk_42_method_117_code 4 = .ok (.aload_n 0, 1) := by decide +kernel
theorem own_blank4_d5 : decode jdk_42_method_117_code 5 = .ok (.invokevirtual 505, 3) := by decide +kernel
theorem own_blank4_d8 : decode jdk_42_method_117_code 8 = .ok (.if_icmp .ne 7, 3) := by decide +kernel
theorem own_blank4_d15 : decode jdk_42_method_117_code 15 = .ok (.iconst 0, 1) := by decide +kernel
theorem own_blank4_d16 : decode jdk_42_method_117_code 16 = .ok (.ireturn, 1) := by decide +kernel
theorem own_blank4_pn : plainName "java/lang/String" = true := by first | (simp [plainName, overriddenIn]; done) | decide +kernel
theorem own_blank4_pd0 : parseMethodDescriptor "()I" = some ⟨[], some .int⟩ := by decide +kernel
theorem own_blank4_ef (m : MethodId) (x0 : Addr) : entryFrame m #[(.ref x0)] 1 = mkF m 0 #[.val (.ref x0)] [] := by first | (simp [entryFrame, mkF, argsToLocals, Value.category]; done) | rfl
def own_blank4_Q (Z : State) (zc : Int32) (ci : Addr) (ta : Addr) (clt : Cell) (a : Addr) (tb : Addr) (kb : ClassId) (x0 : Int32) (x1 : Int32) (x2 : Int32) (x3 : Int32) (h0 : Heap) (n0 : Nat) (vv_ : Option Value) (hh_ : Heap) (LL_ : List Loc) : Prop := vv_ = some (.int (0 : Int32)) ∧ Fr n0 LL_ ∧ hh_ = h0
set_option maxRecDepth 65536 in
set_option maxHeartbeats 40000000 in
theorem own_blank4 (l : Launch) (Z : State) (a0 : Array Value) (hw : ∀ d ∈ tables_1, d.before a0 Z = true) (ws : List Jvm.Cond) (zc : Int32) (ci : Addr) (ta : Addr) (clt : Cell) (a : Addr) (tb : Addr) (kb : ClassId) (x0 : Int32) (x1 : Int32) (x2 : Int32) (x3 : Int32) (h0 : Heap) (n0 : Nat) (Z0 : n0 ≤ h0.size) (hOld : Old Z n0 h0) (Scs : Sta Z Z.heap "java/lang/String" "COMPACT_STRINGS" "Z" (.int zc)) (hzc : ¬ zc = (0 : Int32)) (Sci : Sta Z Z.heap "java/lang/CharacterDataLatin1" "instance" "Ljava/lang/CharacterDataLatin1;" (.ref ci)) (Eci : Exa Z Z.heap ci "java/lang/CharacterDataLatin1") (Sca : Sta Z Z.heap "java/lang/CharacterDataLatin1" "A" "[I" (.ref ta)) (Tab : own_tab Z ta clt) (E : Exa Z h0 a "java/lang/String") (C : Fld Z h0 a "java/lang/String" "coder" "B" (.int (0 : Int32))) (Vl : Fld Z h0 a "java/lang/String" "value" "[B" (.ref tb)) (B : Arv Z h0 tb kb .byte (4 : Int32) [(.int x0.toInt8.toInt32), (.int x1.toInt8.toInt32), (.int x2.toInt8.toInt32), (.int x3.toInt8.toInt32)] (.int (0 : Int32))) (l_x0 : ¬ x0 < (0 : Int32)) (u_x0 : ¬ (255 : Int32) < x0) (l_x1 : ¬ x1 < (0 : Int32)) (u_x1 : ¬ (255 : Int32) < x1) (l_x2 : ¬ x2 < (0 : Int32)) (u_x2 : ¬ (255 : Int32) < x2) (l_x3 : ¬ x3 < (0 : Int32)) (u_x3 : ¬ (255 : Int32) < x3) (kk : own_keep x0 ∨ own_keep x1 ∨ own_keep x2 ∨ own_keep x3) :
    MetFree l (⟨"java/lang/String", "isBlank", "()Z"⟩ : MethodName) (head1 (Jvm.Cond.code (⟨"java/lang/String", "isBlank", "()Z"⟩ : MethodName) jdk_42_method_117_code 1 (some .boolean) :: ws) ({ frames := 4, cells := 0, slots := 0, locals := 56 } : Room)) (fun aa_ UU_ => aa_ = #[(.ref a)] ∧ Z.Warmed39 UU_.vm ∧ UU_.heap = h0) (fun _ _ _ _ _ => True) (fun _ UU_ oo_ UV_ => ∃ vv_ LL_, oo_ = .returned vv_ ∧ own_blank4_Q Z zc ci ta clt a tb kb x0 x1 x2 x3 h0 n0 vv_ UV_.heap LL_ ∧ FrameEnd UU_ oo_ UV_ LL_ ({ frames := 4, cells := 0, slots := 0, locals := 56 } : Room).cells ({ frames := 4, cells := 0, slots := 0, locals := 56 } : Room).slots) := by
  refine MetFree.of_bodySF (plainFor_of_name own_blank4_pn) hisR ?_
  intro p e s m args below meth c s₁ Bd hml0 hP hK
  obtain ⟨rfl, hZ, hh⟩ := hP
  have hx := Bd.exec
  have hby := Bd.bytes
  have hml : c.maxLocals = 1 := hml0
  have hown : s.vm.findClass "java/lang/String" = some m.cls := findClass_of_methodNamed Bd.named
  have hnm := (name_of_methodNamed Bd.named Bd.method).1
  have X0 : Stand p l e ({ frames := 4, cells := 0, slots := 0, locals := 56 } : Room) s m #[(.ref a)] below meth c s₁ [] 0 0 := Stand.of_body Bd
  have e0 : s₁.heap = h0 := by rw [← hh, Bd.state]; rfl
  have N0 := Fr.nil n0
  have KP0 : Keep h0 h0 [] := Keep.refl _ _
  refine ownFin (Q := own_blank4_Q Z zc ci ta clt a tb kb x0 x1 x2 x3 h0 n0) ?_
  refine ownStep (fun _ k => castTop (own_blank4_ef m a) k) ?_
  show ownGo p.tables e below (s₁.setTop (mkF m 0 #[.val (.ref a)] [])) _
  refine ownStep (fun _ k => XS.aloadN X0.here hx rfl (hb hby own_blank4_d0) rfl rfl k) ?_
  show ownGo p.tables e below (s₁.setTop (mkF m 1 #[.val (.ref a)] [(.ref a)])) _
  have Zs2 : n0 ≤ h0.size := Nat.le_trans Z0 KP0.1
  obtain ⟨cq1, q1, q1'⟩ := E.cell
  obtain ⟨_, _, ⟨T1, L1, k1, n1⟩, -, X1, ⟨Lc1, hQ1, l1, y1, z1⟩, st1⟩ := X0.privateBack hx (y := (⟨"java/lang/String", "indexOfNonWhitespace", "()I"⟩ : MethodName)) hown (mvT hZ (hw _ (List.mem_of_getElem? (i := 57) rfl))) (mvT hZ (hw _ (List.mem_of_getElem? (i := 58) rfl))) (mvT hZ (hw _ (List.mem_of_getElem? (i := 60) rfl))) (Cond.privateMethod_at (mvP hZ (hw _ (List.mem_of_getElem? (i := 59) rfl)) (args := #[]))) (mvT hZ (hw _ (List.mem_of_getElem? (i := 61) rfl))) (by decide) (backOf (W := 0) (own_sinw4 l Z a0 hw [] zc ci ta clt a tb kb x0 x1 x2 x3 h0 n0 Zs2 hOld Scs hzc Sci Eci Sca Tab E C Vl B l_x0 u_x0 l_x1 u_x1 l_x2 u_x2 l_x3 u_x3 kk) hZ (hw _ (List.mem_of_getElem? (i := 61) rfl)) (hw _ (List.mem_of_getElem? (i := 6) rfl)) (by decide) (by decide)) (g := (mkF m 1 #[.val (.ref a)] [(.ref a)])) rfl (by rw [hml]; rfl) (Steps.refl _) (a := a) (by rw [e0]; exact q1) q1' (argsL := []) (rest := []) (lenOf own_blank4_pd0 rfl) rfl (by show 2 * 0 + _ ≤ _; exact Nat.le_of_eq rfl) (hb hby own_blank4_d1) (fun _ _ => ⟨rfl, e0, (by decide : 0 + 0 ≤ _), (by decide : 0 + 0 ≤ _)⟩)
  dsimp only [Pt.U, Pt.locs, Pt.cells, Pt.slots] at X1 l1 y1 z1 st1 hQ1
  obtain rfl : k1 = 0 := y1
  obtain rfl : n1 = 0 := z1
  obtain ⟨r_1, rfl, N1q, R1, P3⟩ := hQ1
  have N1 : Fr n0 L1 := l1 ▸ Fr.app N0 N1q
  refine ownStep (fun _ k => st1.trans k) ?_
  refine ownStep (fun _ k => XS.aloadN X1.here hx rfl (hb hby own_blank4_d4) rfl rfl k) ?_
  show ownGo p.tables e below (T1.setTop (mkF m 5 #[.val (.ref a)] [(.ref a), (.int r_1)])) _
  have Zs5 : n0 ≤ h0.size := Nat.le_trans Z0 KP0.1
  obtain ⟨cq4, kq4, q4a, q4b, q4c⟩ := isOf hZ R1 E
  obtain ⟨_, _, ⟨T4, L4, k4, n4⟩, -, X4, ⟨Lc4, hQ4, l4, y4, z4⟩, st4⟩ := X1.virtualBack hx (y := (⟨"java/lang/String", "length", "()I"⟩ : MethodName)) (z := (⟨"java/lang/String", "length", "()I"⟩ : MethodName)) hown (mvT hZ (hw _ (List.mem_of_getElem? (i := 86) rfl))) (mvT hZ (hw _ (List.mem_of_getElem? (i := 87) rfl))) (notFace_of_selects (args := #[]) (mvT hZ (hw _ (List.mem_of_getElem? (i := 89) rfl)))) (mvT hZ (hw _ (List.mem_of_getElem? (i := 89) rfl))) (mvT hZ (hw _ (List.mem_of_getElem? (i := 88) rfl))) (by decide) (backOf (W := 1) (own_len4 l Z a0 hw [] zc a tb kb x0 x1 x2 x3 h0 n0 Zs5 hOld Scs hzc E C Vl B) hZ (hw _ (List.mem_of_getElem? (i := 90) rfl)) (hw _ (List.mem_of_getElem? (i := 6) rfl)) (by decide) (by decide)) q4a q4c (g := (mkF m 5 #[.val (.ref a)] [(.ref a), (.int r_1)])) rfl (by rw [hml]; rfl) (Steps.refl _) (argsL := []) (rest := [(.int r_1)]) (lenOf own_blank4_pd0 rfl) rfl (by show 2 * 0 + _ ≤ _; exact Nat.le_of_eq rfl) (hb hby own_blank4_d5) (fun _ _ => ⟨rfl, R1, (by decide : 0 + 0 ≤ _), (by decide : 0 + 0 ≤ _)⟩)
  dsimp only [Pt.U, Pt.locs, Pt.cells, Pt.slots] at X4 l4 y4 z4 st4 hQ4
  obtain rfl : k4 = 0 := y4
  obtain rfl : n4 = 0 := z4
  obtain ⟨rfl, N4q, R4⟩ := hQ4
  have N4 : Fr n0 L4 := l4 ▸ Fr.app N1 N4q
  refine ownStep (fun _ k => st4.trans k) ?_
  refine ownStep (fun _ k => XS.icmpYes X4.here hx rfl (pc0 := 8) (pc' := 15) rfl (hb hby own_blank4_d8) rfl (feq (P3 : ¬ r_1 = (4 : Int32))).2 (by decide) (by decide) k) ?_
  refine ownStep (fun _ k => XS.iconst X4.here hx rfl (hb hby own_blank4_d15) k) ?_
  show ownGo p.tables e below (T4.setTop (mkF m 16 #[.val (.ref a)] [(.int (0 : Int32))])) _
  exact ownRet X4 (v := some (.int (0 : Int32))) Bd.notSynchronized (fun h => by rw [Bd.returns] at h; cases h) (fun _ hr => retN X4 hx (t := .boolean) Bd.returns (by simp) (hb hby own_blank4_d16) hr) (by rw [R4]; exact ⟨rfl, N4, rfl⟩) (by decide) (by decide)
theorem own_req4_d0 : decode prog_3_method_2_code 0 = .ok (.aload_n 0, 1) := by decide +kernel
theorem own_req4_d1 : decode prog_3_method_2_code 1 = .ok (.ifnull 10, 3) := by decide +kernel
theorem own_req4_d4 : decode prog_3_method_2_code 4 = .ok (.aload_n 0, 1) := by decide +kernel
theorem own_req4_d5 : decode prog_3_method_2_code 5 = .ok (.invokevirtual 7, 3) := by decide +kernel
theorem own_req4_d8 : decode prog_3_method_2_code 8 = .ok (.ifCond .eq 23, 3) := by decide +kernel
theorem own_req4_d31 : decode prog_3_method_2_code 31 = .ok (.aload_n 0, 1) := by decide +kernel
theorem own_req4_d32 : decode prog_3_method_2_code 32 = .ok (.areturn, 1) := by decide +kernel
theorem own_req4_pn : plainName "com/example/circuline/circuline/circulation/Barcodes" = true := by first | (simp [plainName, overriddenIn]; done) | decide +kernel
theorem own_req4_pd0 : parseMethodDescriptor "()Z" = some ⟨[], some .boolean⟩ := by decide +kernel
theorem own_req4_ef (m : MethodId) (x0 : Addr) (x1 : Addr) (x2 : Addr) : entryFrame m #[(.ref x0), (.ref x1), (.ref x2)] 3 = mkF m 0 #[.val (.ref x0), .val (.ref x1), .val (.ref x2)] [] := by first | (simp [entryFrame, mkF, argsToLocals, Value.category]; done) | rfl
def own_req4_Q (Z : State) (zc : Int32) (ci : Addr) (ta : Addr) (clt : Cell) (a : Addr) (tb : Addr) (kb : ClassId) (x0 : Int32) (x1 : Int32) (x2 : Int32) (x3 : Int32) (fa : Addr) (fb : Addr) (h0 : Heap) (n0 : Nat) (vv_ : Option Value) (hh_ : Heap) (LL_ : List Loc) : Prop := vv_ = some (.ref a) ∧ Fr n0 LL_ ∧ hh_ = h0
set_option maxRecDepth 65536 in
set_option maxHeartbeats 40000000 in
theorem own_req4 (l : Launch) (Z : State) (a0 : Array Value) (hw : ∀ d ∈ tables_1, d.before a0 Z = true) (ws : List Jvm.Cond) (zc : Int32) (ci : Addr) (ta : Addr) (clt : Cell) (a : Addr) (tb : Addr) (kb : ClassId) (x0 : Int32) (x1 : Int32) (x2 : Int32) (x3 : Int32) (fa : Addr) (fb : Addr) (h0 : Heap) (n0 : Nat) (Z0 : n0 ≤ h0.size) (hOld : Old Z n0 h0) (Scs : Sta Z Z.heap "java/lang/String" "COMPACT_STRINGS" "Z" (.int zc)) (hzc : ¬ zc = (0 : Int32)) (Sci : Sta Z Z.heap "java/lang/CharacterDataLatin1" "instance" "Ljava/lang/CharacterDataLatin1;" (.ref ci)) (Eci : Exa Z Z.heap ci "java/lang/CharacterDataLatin1") (Sca : Sta Z Z.heap "java/lang/CharacterDataLatin1" "A" "[I" (.ref ta)) (Tab : own_tab Z ta clt) (E : Exa Z h0 a "java/lang/String") (C : Fld Z h0 a "java/lang/String" "coder" "B" (.int (0 : Int32))) (Vl : Fld Z h0 a "java/lang/String" "value" "[B" (.ref tb)) (B : Arv Z h0 tb kb .byte (4 : Int32) [(.int x0.toInt8.toInt32), (.int x1.toInt8.toInt32), (.int x2.toInt8.toInt32), (.int x3.toInt8.toInt32)] (.int (0 : Int32))) (l_x0 : ¬ x0 < (0 : Int32)) (u_x0 : ¬ (255 : Int32) < x0) (l_x1 : ¬ x1 < (0 : Int32)) (u_x1 : ¬ (255 : Int32) < x1) (l_x2 : ¬ x2 < (0 : Int32)) (u_x2 : ¬ (255 : Int32) < x2) (l_x3 : ¬ x3 < (0 : Int32)) (u_x3 : ¬ (255 : Int32) < x3) (kk : own_keep x0 ∨ own_keep x1 ∨ own_keep x2 ∨ own_keep x3) :
    MetFree l (⟨"com/example/circuline/circuline/circulation/Barcodes", "required", "(Ljava/lang/String;Ljava/lang/String;Ljava/lang/String;)Ljava/lang/String;"⟩ : MethodName) (head1 (Jvm.Cond.code (⟨"com/example/circuline/circuline/circulation/Barcodes", "required", "(Ljava/lang/String;Ljava/lang/String;Ljava/lang/String;)Ljava/lang/String;"⟩ : MethodName) prog_3_method_2_code 3 (some (.object "java/lang/String")) :: ws) ({ frames := 5, cells := 0, slots := 0, locals := 68 } : Room)) (fun aa_ UU_ => aa_ = #[(.ref a), (.ref fa), (.ref fb)] ∧ Z.Warmed39 UU_.vm ∧ UU_.heap = h0) (fun _ _ _ _ _ => True) (fun _ UU_ oo_ UV_ => ∃ vv_ LL_, oo_ = .returned vv_ ∧ own_req4_Q Z zc ci ta clt a tb kb x0 x1 x2 x3 fa fb h0 n0 vv_ UV_.heap LL_ ∧ FrameEnd UU_ oo_ UV_ LL_ ({ frames := 5, cells := 0, slots := 0, locals := 68 } : Room).cells ({ frames := 5, cells := 0, slots := 0, locals := 68 } : Room).slots) := by
  refine MetFree.of_bodySF (plainFor_of_name own_req4_pn) hisR ?_
  intro p e s m args below meth c s₁ Bd hml0 hP hK
  obtain ⟨rfl, hZ, hh⟩ := hP
  have hx := Bd.exec
  have hby := Bd.bytes
  have hml : c.maxLocals = 3 := hml0
  have hown : s.vm.findClass "com/example/circuline/circuline/circulation/Barcodes" = some m.cls := findClass_of_methodNamed Bd.named
  have hnm := (name_of_methodNamed Bd.named Bd.method).1
  have X0 : Stand p l e ({ frames := 5, cells := 0, slots := 0, locals := 68 } : Room) s m #[(.ref a), (.ref fa), (.ref fb)] below meth c s₁ [] 0 0 := Stand.of_body Bd
  have e0 : s₁.heap = h0 := by rw [← hh, Bd.state]; rfl
  have N0 := Fr.nil n0
  have KP0 : Keep h0 h0 [] := Keep.refl _ _
  refine ownFin (Q := own_req4_Q Z zc ci ta clt a tb kb x0 x1 x2 x3 fa fb h0 n0) ?_
  refine ownStep (fun _ k => castTop (own_req4_ef m a fa fb) k) ?_
  show ownGo p.tables e below (s₁.setTop (mkF m 0 #[.val (.ref a), .val (.ref fa), .val (.ref fb)] [])) _
  refine ownStep (fun _ k => XS.aloadN X0.here hx rfl (hb hby own_req4_d0) rfl rfl k) ?_
  refine ownStep (fun _ k => XS.ifnullNo X0.here hx rfl (hb hby own_req4_d1) rfl k) ?_
  refine ownStep (fun _ k => XS.aloadN X0.here hx rfl (hb hby own_req4_d4) rfl rfl k) ?_
  show ownGo p.tables e below (s₁.setTop (mkF m 5 #[.val (.ref a), .val (.ref fa), .val (.ref fb)] [(.ref a)])) _
  have Zs2 : n0 ≤ h0.size := Nat.le_trans Z0 KP0.1
  obtain ⟨cq1, kq1, q1a, q1b, q1c⟩ := isOf hZ e0 E
  obtain ⟨_, _, ⟨T1, L1, k1, n1⟩, -, X1, ⟨Lc1, hQ1, l1, y1, z1⟩, st1⟩ := X0.virtualBack hx (y := (⟨"java/lang/String", "isBlank", "()Z"⟩ : MethodName)) (z := (⟨"java/lang/String", "isBlank", "()Z"⟩ : MethodName)) hown (mvT hZ (hw _ (List.mem_of_getElem? (i := 52) rfl))) (mvT hZ (hw _ (List.mem_of_getElem? (i := 53) rfl))) (notFace_of_selects (args := #[]) (mvT hZ (hw _ (List.mem_of_getElem? (i := 55) rfl)))) (mvT hZ (hw _ (List.mem_of_getElem? (i := 55) rfl))) (mvT hZ (hw _ (List.mem_of_getElem? (i := 54) rfl))) (by decide) (backOf (W := 0) (own_blank4 l Z a0 hw [] zc ci ta clt a tb kb x0 x1 x2 x3 h0 n0 Zs2 hOld Scs hzc Sci Eci Sca Tab E C Vl B l_x0 u_x0 l_x1 u_x1 l_x2 u_x2 l_x3 u_x3 kk) hZ (hw _ (List.mem_of_getElem? (i := 56) rfl)) (hw _ (List.mem_of_getElem? (i := 6) rfl)) (by decide) (by decide)) q1a q1c (g := (mkF m 5 #[.val (.ref a), .val (.ref fa), .val (.ref fb)] [(.ref a)])) rfl (by rw [hml]; rfl) (Steps.refl _) (argsL := []) (rest := []) (lenOf own_req4_pd0 rfl) rfl (by show 2 * 0 + _ ≤ _; exact Nat.le_of_eq rfl) (hb hby own_req4_d5) (fun _ _ => ⟨rfl, e0, (by decide : 0 + 0 ≤ _), (by decide : 0 + 0 ≤ _)⟩)
  dsimp only [Pt.U, Pt.locs, Pt.cells, Pt.slots] at X1 l1 y1 z1 st1 hQ1
  obtain rfl : k1 = 0 := y1
  obtain rfl : n1 = 0 := z1
  obtain ⟨rfl, N1q, R1⟩ := hQ1
  have N1 : Fr n0 L1 := l1 ▸ Fr.app N0 N1q
  refine ownStep (fun _ k => st1.trans k) ?_
  refine ownStep (fun _ k => XS.ifYes X1.here hx rfl (pc0 := 8) (pc' := 31) rfl (hb hby own_req4_d8) rfl ((if0 _ _).trans (teq (by decide : (0 : Int32) = (0 : Int32))).1) (by decide) (by decide) k) ?_
  refine ownStep (fun _ k => XS.aloadN X1.here hx rfl (hb hby own_req4_d31) rfl rfl k) ?_
  show ownGo p.tables e below (T1.setTop (mkF m 32 #[.val (.ref a), .val (.ref fa), .val (.ref fb)] [(.ref a)])) _
  exact ownRet X1 (v := some (.ref a)) Bd.notSynchronized (fun h => by rw [Bd.returns] at h; cases h) (fun _ hr => retOut X1 hx (t := (.object "java/lang/String")) Bd.returns rfl (Or.inr (Or.inr (Or.inr (Or.inr ⟨rfl, rfl, rfl⟩)))) (hb hby own_req4_d32) hr) (by rw [R1]; exact ⟨rfl, N1, rfl⟩) (by decide) (by decide)
theorem own_and3 (x : Int32) : (x &&& (3 : Int32)) = (0 : Int32) ∨ (x &&& (3 : Int32)) = (1 : Int32) ∨ (x &&& (3 : Int32)) = (2 : Int32) ∨ (x &&& (3 : Int32)) = (3 : Int32) := by
  have b := c_mask x (3 : Int32) 2 (by decide) (by decide)
  have e0 : (0 : Int32).toInt = 0 := by decide
  have e1 : (1 : Int32).toInt = 1 := by decide
  have e2 : (2 : Int32).toInt = 2 := by decide
  have e3 : (3 : Int32).toInt = 3 := by decide
  simp only [← Int32.toInt_inj, b, e0, e1, e2, e3]
  omega
theorem own_char (y : Int32) : ∃ z, (y &&& (255 : Int32)).toUInt32.toUInt16.toUInt32.toInt32 = z ∧ ¬ z < (0 : Int32) ∧ ¬ (255 : Int32) < z := by
  refine ⟨y &&& (255 : Int32), i2c_mask y, ?_⟩
  have b := c_mask y (255 : Int32) 8 (by decide) (by decide)
  have e0 : (0 : Int32).toInt = 0 := by decide
  have e1 : (255 : Int32).toInt = 255 := by decide
  rw [Int32.lt_iff_toInt_lt, Int32.lt_iff_toInt_lt, b, e0, e1]
  omega
theorem own_keepv (f : Int32) : ∃ z, ((33 : Int32) + (((f.toUInt32 >>> ((1 : Int32) &&& 31).toUInt32).toInt32) % (94 : Int32))).toUInt32.toUInt16.toUInt32.toInt32 = z ∧ ¬ z < (0 : Int32) ∧ ¬ (255 : Int32) < z ∧ own_keep z := by
  have h1 := c_iushr f (1 : Int32) 1 (by decide) (by decide)
  generalize ((f.toUInt32 >>> ((1 : Int32) &&& 31).toUInt32).toInt32) = y at *
  have h2 := (c_irem y (94 : Int32) 94 (by decide)).1 (by omega)
  have h3 := c_iadd (33 : Int32) (y % (94 : Int32))
  have e33 : (33 : Int32).toInt = 33 := by decide
  have r := rng32 ((33 : Int32) + y % (94 : Int32))
  rw [h2, e33] at h3
  generalize (33 : Int32) + y % (94 : Int32) = w at *
  have e0 : (0 : Int32).toInt = 0 := by decide
  have e1 : (255 : Int32).toInt = 255 := by decide
  have e2 : (126 : Int32).toInt = 126 := by decide
  have a1 : ¬ w < (0 : Int32) := by rw [Int32.lt_iff_toInt_lt, e0]; omega
  have a2 : ¬ (255 : Int32) < w := by rw [Int32.lt_iff_toInt_lt, e1]; omega
  exact ⟨w, own_nc a1 a2, a1, a2, by rw [Int32.lt_iff_toInt_lt, e33]; omega, by rw [Int32.lt_iff_toInt_lt, e2]; omega⟩
theorem own_rem1 (x : Int32) : (((x.toUInt32 >>> ((2 : Int32) &&& 31).toUInt32).toInt32) % (1 : Int32)) = (0 : Int32) := by
  have h1 := c_iushr x (2 : Int32) 2 (by decide) (by decide)
  generalize ((x.toUInt32 >>> ((2 : Int32) &&& 31).toUInt32).toInt32) = y at *
  have h2 := (c_irem y (1 : Int32) 1 (by decide)).1 (by omega)
  have e0 : (0 : Int32).toInt = 0 := by decide
  have e1 : (1 : Int32).toInt = 1 := by decide
  have e2 : (2 : Int32).toInt = 2 := by decide
  have e3 : (3 : Int32).toInt = 3 := by decide
  simp only [← Int32.toInt_inj, h2, e0, e1, e2, e3]
  omega
theorem own_rem2 (x : Int32) : (((x.toUInt32 >>> ((2 : Int32) &&& 31).toUInt32).toInt32) % (2 : Int32)) = (0 : Int32) ∨ (((x.toUInt32 >>> ((2 : Int32) &&& 31).toUInt32).toInt32) % (2 : Int32)) = (1 : Int32) := by
  have h1 := c_iushr x (2 : Int32) 2 (by decide) (by decide)
  generalize ((x.toUInt32 >>> ((2 : Int32) &&& 31).toUInt32).toInt32) = y at *
  have h2 := (c_irem y (2 : Int32) 2 (by decide)).1 (by omega)
  have e0 : (0 : Int32).toInt = 0 := by decide
  have e1 : (1 : Int32).toInt = 1 := by decide
  have e2 : (2 : Int32).toInt = 2 := by decide
  have e3 : (3 : Int32).toInt = 3 := by decide
  simp only [← Int32.toInt_inj, h2, e0, e1, e2, e3]
  omega
theorem own_rem3 (x : Int32) : (((x.toUInt32 >>> ((2 : Int32) &&& 31).toUInt32).toInt32) % (3 : Int32)) = (0 : Int32) ∨ (((x.toUInt32 >>> ((2 : Int32) &&& 31).toUInt32).toInt32) % (3 : Int32)) = (1 : Int32) ∨ (((x.toUInt32 >>> ((2 : Int32) &&& 31).toUInt32).toInt32) % (3 : Int32)) = (2 : Int32) := by
  have h1 := c_iushr x (2 : Int32) 2 (by decide) (by decide)
  generalize ((x.toUInt32 >>> ((2 : Int32) &&& 31).toUInt32).toInt32) = y at *
  have h2 := (c_irem y (3 : Int32) 3 (by decide)).1 (by omega)
  have e0 : (0 : Int32).toInt = 0 := by decide
  have e1 : (1 : Int32).toInt = 1 := by decide
  have e2 : (2 : Int32).toInt = 2 := by decide
  have e3 : (3 : Int32).toInt = 3 := by decide
  simp only [← Int32.toInt_inj, h2, e0, e1, e2, e3]
  omega
theorem own_rem4 (x : Int32) : (((x.toUInt32 >>> ((2 : Int32) &&& 31).toUInt32).toInt32) % (4 : Int32)) = (0 : Int32) ∨ (((x.toUInt32 >>> ((2 : Int32) &&& 31).toUInt32).toInt32) % (4 : Int32)) = (1 : Int32) ∨ (((x.toUInt32 >>> ((2 : Int32) &&& 31).toUInt32).toInt32) % (4 : Int32)) = (2 : Int32) ∨ (((x.toUInt32 >>> ((2 : Int32) &&& 31).toUInt32).toInt32) % (4 : Int32)) = (3 : Int32) := by
  have h1 := c_iushr x (2 : Int32) 2 (by decide) (by decide)
  generalize ((x.toUInt32 >>> ((2 : Int32) &&& 31).toUInt32).toInt32) = y at *
  have h2 := (c_irem y (4 : Int32) 4 (by decide)).1 (by omega)
  have e0 : (0 : Int32).toInt = 0 := by decide
  have e1 : (1 : Int32).toInt = 1 := by decide
  have e2 : (2 : Int32).toInt = 2 := by decide
  have e3 : (3 : Int32).toInt = 3 := by decide
  simp only [← Int32.toInt_inj, h2, e0, e1, e2, e3]
  omega
theorem own_step {P : Int32 → Prop} {a b : Int32} (hb : b.toInt = a.toInt + 1) (h : P a) (r : ∀ x, ¬ x < b → ¬ (126 : Int32) < x → P x) : ∀ x, ¬ x < a → ¬ (126 : Int32) < x → P x := fun x h1 h2 => by
  by_cases e : x = a
  · exact e ▸ h
  · refine r x ?_ h2
    rw [← Int32.toInt_inj] at e
    rw [Int32.lt_iff_toInt_lt] at h1 ⊢
    omega
theorem own_last {P : Int32 → Prop} : ∀ x, ¬ x < (127 : Int32) → ¬ (126 : Int32) < x → P x := fun x h1 h2 => by
  have e1 : (127 : Int32).toInt = 127 := by decide
  have e2 : (126 : Int32).toInt = 126 := by decide
  rw [Int32.lt_iff_toInt_lt, e1] at h1
  rw [Int32.lt_iff_toInt_lt, e2] at h2
  omega
theorem own_law_pn : plainName "com/example/circuline/circuline/circulation/BarcodesRequiredPinLaw" = true := by first | (simp [plainName, overriddenIn]; done) | decide +kernel
theorem own_law_pd0 : parseMethodDescriptor "(ICCCC)Ljava/lang/String;" = some ⟨[.int, .char, .char, .char, .char], some (.object "java/lang/String")⟩ := by decide +kernel
theorem own_law_pd1 : parseMethodDescriptor "(C)Ljava/lang/String;" = some ⟨[.char], some (.object "java/lang/String")⟩ := by decide +kernel
theorem own_law_pd2 : parseMethodDescriptor "(Ljava/lang/String;Ljava/lang/String;Ljava/lang/String;)Ljava/lang/String;" = some ⟨[(.object "java/lang/String"), (.object "java/lang/String"), (.object "java/lang/String")], some (.object "java/lang/String")⟩ := by decide +kernel
theorem own_law_pd3 : parseMethodDescriptor "()I" = some ⟨[], some .int⟩ := by decide +kernel
theorem own_law_pd4 : parseMethodDescriptor "(Ljava/lang/Object;)Z" = some ⟨[(.object "java/lang/Object")], some .boolean⟩ := by decide +kernel
theorem own_law_ef (m : MethodId) (x0 : Int32) (x1 : Int32) (x2 : Int32) (x3 : Int32) (x4 : Int32) : entryFrame m #[(.int x0), (.int x1), (.int x2), (.int x3), (.int x4)] maxLocals = mkF m 0 #[.val (.int x0), .val (.int x1), .val (.int x2), .val (.int x3), .val (.int x4), .unset, .unset, .unset, .unset, .unset, .unset, .unset, .unset, .unset, .unset, .unset] [] := by first | (simp [entryFrame, mkF, argsToLocals, Value.category, maxLocals]; done) | rfl
def own_law_Q (Z : State) (pa : Int32) (pb : Int32) (pc_ : Int32) (pe : Int32) (pf : Int32) (zc : Int32) (ci : Addr) (ta : Addr) (clt : Cell) (h0 : Heap) (n0 : Nat) (vv_ : Option Value) (hh_ : Heap) (LL_ : List Loc) : Prop := vv_ = some (.int (1 : Int32)) ∧ Fr n0 LL_ ∧ Ext h0 hh_
set_option maxRecDepth 65536 in
set_option maxHeartbeats 40000000 in
theorem own_law (l : Launch) (Z : State) (a0 : Array Value) (hw : ∀ d ∈ tables_1, d.before a0 Z = true) (ws : List Jvm.Cond) (pa : Int32) (pb : Int32) (pc_ : Int32) (pe : Int32) (pf : Int32) (zc : Int32) (ci : Addr) (ta : Addr) (clt : Cell) (h0 : Heap) (n0 : Nat) (Z0 : n0 ≤ h0.size) (hOld : Old Z n0 h0) (Scs : Sta Z Z.heap "java/lang/String" "COMPACT_STRINGS" "Z" (.int zc)) (hzc : ¬ zc = (0 : Int32)) (Sci : Sta Z Z.heap "java/lang/CharacterDataLatin1" "instance" "Ljava/lang/CharacterDataLatin1;" (.ref ci)) (Eci : Exa Z Z.heap ci "java/lang/CharacterDataLatin1") (Sca : Sta Z Z.heap "java/lang/CharacterDataLatin1" "A" "[I" (.ref ta)) (Tab : own_tab Z ta clt) :
    MetFree l x (head1 (Jvm.Cond.code x code maxLocals ret :: ws) room_1) (fun aa_ UU_ => aa_ = #[(.int pa), (.int pb), (.int pc_), (.int pe), (.int pf)] ∧ Z.Warmed39 UU_.vm ∧ UU_.heap = h0) (fun _ _ _ _ _ => True) (fun _ UU_ oo_ UV_ => ∃ vv_ LL_, oo_ = .returned vv_ ∧ own_law_Q Z pa pb pc_ pe pf zc ci ta clt h0 n0 vv_ UV_.heap LL_ ∧ FrameEnd UU_ oo_ UV_ LL_ room_1.cells room_1.slots) := by
  refine MetFree.of_bodySF (plainFor_of_name own_law_pn) hisR ?_
  intro p e s m args below meth c s₁ Bd hml0 hP hK
  obtain ⟨rfl, hZ, hh⟩ := hP
  have hx := Bd.exec
  have hby := Bd.bytes
  have hml : c.maxLocals = 16 := hml0
  have hown : s.vm.findClass "com/example/circuline/circuline/circulation/BarcodesRequiredPinLaw" = some m.cls := findClass_of_methodNamed Bd.named
  have hnm := (name_of_methodNamed Bd.named Bd.method).1
  have X0 : Stand p l e room_1 s m #[(.int pa), (.int pb), (.int pc_), (.int pe), (.int pf)] below meth c s₁ [] 0 0 := Stand.of_body Bd
  have e0 : s₁.heap = h0 := by rw [← hh, Bd.state]; rfl
  have N0 := Fr.nil n0
  have KP0 : Keep h0 h0 [] := Keep.refl _ _
  refine ownFin (Q := own_law_Q Z pa pb pc_ pe pf zc ci ta clt h0 n0) ?_
  refine ownStep (fun _ k => castTop (own_law_ef m pa pb pc_ pe pf) k) ?_
  show ownGo p.tables e below (s₁.setTop (mkF m 0 #[.val (.int pa), .val (.int pb), .val (.int pc_), .val (.int pe), .val (.int pf), .unset, .unset, .unset, .unset, .unset, .unset, .unset, .unset, .unset, .unset, .unset] [])) _
  refine ownStep (fun _ k => XS.iloadN X0.here hx rfl (hb hby at_0) rfl  k) ?_
  refine ownStep (fun _ k => XS.iconst X0.here hx rfl (hb hby at_1) k) ?_
  refine ownStep (fun _ k => XS.iand X0.here hx rfl (hb hby at_2) rfl k) ?_
  show ownGo p.tables e below (s₁.setTop (mkF m 3 #[.val (.int pa), .val (.int pb), .val (.int pc_), .val (.int pe), .val (.int pf), .unset, .unset, .unset, .unset, .unset, .unset, .unset, .unset, .unset, .unset, .unset] [(.int (pe &&& (3 : Int32)))])) _
  rcases own_and3 pe with hn | hn | hn | hn
  · skip
    rw [hn]
    refine ownStep (fun _ k => XS.iconst X0.here hx rfl (hb hby at_3) k) ?_
    refine ownStep (fun _ k => XS.iadd X0.here hx rfl (hb hby at_4) rfl k) ?_
    refine ownStep (fun _ k => XS.istore X0.here hx rfl (hb hby at_5) rfl (l' := #[.val (.int pa), .val (.int pb), .val (.int pc_), .val (.int pe), .val (.int pf), .val (.int (1 : Int32)), .unset, .unset, .unset, .unset, .unset, .unset, .unset, .unset, .unset, .unset]) rfl k) ?_
    refine ownStep (fun _ k => XS.iloadN X0.here hx rfl (hb hby at_7) rfl  k) ?_
    show ownGo p.tables e below (s₁.setTop (mkF m 8 #[.val (.int pa), .val (.int pb), .val (.int pc_), .val (.int pe), .val (.int pf), .val (.int (1 : Int32)), .unset, .unset, .unset, .unset, .unset, .unset, .unset, .unset, .unset, .unset] [(.int pe)])) _
    refine ownStep (fun _ k => XS.iconst X0.here hx rfl (hb hby at_8) k) ?_
    refine ownStep (fun _ k => XS.iushr X0.here hx rfl (hb hby at_9) rfl k) ?_
    refine ownStep (fun _ k => XS.iload X0.here hx rfl (hb hby at_10) rfl  k) ?_
    show ownGo p.tables e below (s₁.setTop (mkF m 12 #[.val (.int pa), .val (.int pb), .val (.int pc_), .val (.int pe), .val (.int pf), .val (.int (1 : Int32)), .unset, .unset, .unset, .unset, .unset, .unset, .unset, .unset, .unset, .unset] [(.int (1 : Int32)), (.int ((pe.toUInt32 >>> ((2 : Int32) &&& 31).toUInt32).toInt32))])) _
    refine ownStep (fun _ k => iremM X0 hx rfl (hb hby at_12) rfl (by decide) k) ?_
    show ownGo p.tables e below (s₁.setTop (mkF m 13 #[.val (.int pa), .val (.int pb), .val (.int pc_), .val (.int pe), .val (.int pf), .val (.int (1 : Int32)), .unset, .unset, .unset, .unset, .unset, .unset, .unset, .unset, .unset, .unset] [(.int (((pe.toUInt32 >>> ((2 : Int32) &&& 31).toUInt32).toInt32) % (1 : Int32)))])) _
    rcases own_rem1 pe with hk
    · skip
      rw [hk]
      refine ownStep (fun _ k => XS.istore X0.here hx rfl (hb hby at_13) rfl (l' := #[.val (.int pa), .val (.int pb), .val (.int pc_), .val (.int pe), .val (.int pf), .val (.int (1 : Int32)), .val (.int (0 : Int32)), .unset, .unset, .unset, .unset, .unset, .unset, .unset, .unset, .unset]) rfl k) ?_
      refine ownStep (fun _ k => XS.iloadN X0.here hx rfl (hb hby at_15) rfl  k) ?_
      refine ownStep (fun _ k => XS.sipush X0.here hx rfl (hb hby at_16) k) ?_
      refine ownStep (fun _ k => XS.iand X0.here hx rfl (hb hby at_19) rfl k) ?_
      show ownGo p.tables e below (s₁.setTop (mkF m 20 #[.val (.int pa), .val (.int pb), .val (.int pc_), .val (.int pe), .val (.int pf), .val (.int (1 : Int32)), .val (.int (0 : Int32)), .unset, .unset, .unset, .unset, .unset, .unset, .unset, .unset, .unset] [(.int (pa &&& (255 : Int32)))])) _
      refine ownStep (fun _ k => XS.i2c X0.here hx rfl (hb hby at_20) rfl k) ?_
      show ownGo p.tables e below (s₁.setTop (mkF m 21 #[.val (.int pa), .val (.int pb), .val (.int pc_), .val (.int pe), .val (.int pf), .val (.int (1 : Int32)), .val (.int (0 : Int32)), .unset, .unset, .unset, .unset, .unset, .unset, .unset, .unset, .unset] [(.int ((pa &&& (255 : Int32)).toUInt32.toUInt16.toUInt32.toInt32))])) _
      obtain ⟨c0, h_c0, l_c0, u_c0⟩ : ∃ z, ((pa &&& (255 : Int32)).toUInt32.toUInt16.toUInt32.toInt32) = z ∧ ¬ z < (0 : Int32) ∧ ¬ (255 : Int32) < z := own_char _
      rw [h_c0]
      refine ownStep (fun _ k => XS.istore X0.here hx rfl (hb hby at_21) rfl (l' := #[.val (.int pa), .val (.int pb), .val (.int pc_), .val (.int pe), .val (.int pf), .val (.int (1 : Int32)), .val (.int (0 : Int32)), .val (.int c0), .unset, .unset, .unset, .unset, .unset, .unset, .unset, .unset]) rfl k) ?_
      refine ownStep (fun _ k => XS.iloadN X0.here hx rfl (hb hby at_23) rfl  k) ?_
      refine ownStep (fun _ k => XS.bipush X0.here hx rfl (hb hby at_24) k) ?_
      refine ownStep (fun _ k => XS.iushr X0.here hx rfl (hb hby at_26) rfl k) ?_
      show ownGo p.tables e below (s₁.setTop (mkF m 27 #[.val (.int pa), .val (.int pb), .val (.int pc_), .val (.int pe), .val (.int pf), .val (.int (1 : Int32)), .val (.int (0 : Int32)), .val (.int c0), .unset, .unset, .unset, .unset, .unset, .unset, .unset, .unset] [(.int ((pa.toUInt32 >>> ((8 : Int32) &&& 31).toUInt32).toInt32))])) _
      refine ownStep (fun _ k => XS.sipush X0.here hx rfl (hb hby at_27) k) ?_
      refine ownStep (fun _ k => XS.iand X0.here hx rfl (hb hby at_30) rfl k) ?_
      refine ownStep (fun _ k => XS.i2c X0.here hx rfl (hb hby at_31) rfl k) ?_
      show ownGo p.tables e below (s₁.setTop (mkF m 32 #[.val (.int pa), .val (.int pb), .val (.int pc_), .val (.int pe), .val (.int pf), .val (.int (1 : Int32)), .val (.int (0 : Int32)), .val (.int c0), .unset, .unset, .unset, .unset, .unset, .unset, .unset, .unset] [(.int ((((pa.toUInt32 >>> ((8 : Int32) &&& 31).toUInt32).toInt32) &&& (255 : Int32)).toUInt32.toUInt16.toUInt32.toInt32))])) _
      obtain ⟨c1, h_c1, l_c1, u_c1⟩ : ∃ z, ((((pa.toUInt32 >>> ((8 : Int32) &&& 31).toUInt32).toInt32) &&& (255 : Int32)).toUInt32.toUInt16.toUInt32.toInt32) = z ∧ ¬ z < (0 : Int32) ∧ ¬ (255 : Int32) < z := own_char _
      rw [h_c1]
      refine ownStep (fun _ k => XS.istore X0.here hx rfl (hb hby at_32) rfl (l' := #[.val (.int pa), .val (.int pb), .val (.int pc_), .val (.int pe), .val (.int pf), .val (.int (1 : Int32)), .val (.int (0 : Int32)), .val (.int c0), .val (.int c1), .unset, .unset, .unset, .unset, .unset, .unset, .unset]) rfl k) ?_
      refine ownStep (fun _ k => XS.iloadN X0.here hx rfl (hb hby at_34) rfl  k) ?_
      refine ownStep (fun _ k => XS.bipush X0.here hx rfl (hb hby at_35) k) ?_
      refine ownStep (fun _ k => XS.iushr X0.here hx rfl (hb hby at_37) rfl k) ?_
      show ownGo p.tables e below (s₁.setTop (mkF m 38 #[.val (.int pa), .val (.int pb), .val (.int pc_), .val (.int pe), .val (.int pf), .val (.int (1 : Int32)), .val (.int (0 : Int32)), .val (.int c0), .val (.int c1), .unset, .unset, .unset, .unset, .unset, .unset, .unset] [(.int ((pa.toUInt32 >>> ((16 : Int32) &&& 31).toUInt32).toInt32))])) _
      refine ownStep (fun _ k => XS.sipush X0.here hx rfl (hb hby at_38) k) ?_
      refine ownStep (fun _ k => XS.iand X0.here hx rfl (hb hby at_41) rfl k) ?_
      refine ownStep (fun _ k => XS.i2c X0.here hx rfl (hb hby at_42) rfl k) ?_
      show ownGo p.tables e below (s₁.setTop (mkF m 43 #[.val (.int pa), .val (.int pb), .val (.int pc_), .val (.int pe), .val (.int pf), .val (.int (1 : Int32)), .val (.int (0 : Int32)), .val (.int c0), .val (.int c1), .unset, .unset, .unset, .unset, .unset, .unset, .unset] [(.int ((((pa.toUInt32 >>> ((16 : Int32) &&& 31).toUInt32).toInt32) &&& (255 : Int32)).toUInt32.toUInt16.toUInt32.toInt32))])) _
      obtain ⟨c2, h_c2, l_c2, u_c2⟩ : ∃ z, ((((pa.toUInt32 >>> ((16 : Int32) &&& 31).toUInt32).toInt32) &&& (255 : Int32)).toUInt32.toUInt16.toUInt32.toInt32) = z ∧ ¬ z < (0 : Int32) ∧ ¬ (255 : Int32) < z := own_char _
      rw [h_c2]
      refine ownStep (fun _ k => XS.istore X0.here hx rfl (hb hby at_43) rfl (l' := #[.val (.int pa), .val (.int pb), .val (.int pc_), .val (.int pe), .val (.int pf), .val (.int (1 : Int32)), .val (.int (0 : Int32)), .val (.int c0), .val (.int c1), .val (.int c2), .unset, .unset, .unset, .unset, .unset, .unset]) rfl k) ?_
      refine ownStep (fun _ k => XS.iloadN X0.here hx rfl (hb hby at_45) rfl  k) ?_
      refine ownStep (fun _ k => XS.bipush X0.here hx rfl (hb hby at_46) k) ?_
      refine ownStep (fun _ k => XS.iushr X0.here hx rfl (hb hby at_48) rfl k) ?_
      show ownGo p.tables e below (s₁.setTop (mkF m 49 #[.val (.int pa), .val (.int pb), .val (.int pc_), .val (.int pe), .val (.int pf), .val (.int (1 : Int32)), .val (.int (0 : Int32)), .val (.int c0), .val (.int c1), .val (.int c2), .unset, .unset, .unset, .unset, .unset, .unset] [(.int ((pa.toUInt32 >>> ((24 : Int32) &&& 31).toUInt32).toInt32))])) _
      refine ownStep (fun _ k => XS.sipush X0.here hx rfl (hb hby at_49) k) ?_
      refine ownStep (fun _ k => XS.iand X0.here hx rfl (hb hby at_52) rfl k) ?_
      refine ownStep (fun _ k => XS.i2c X0.here hx rfl (hb hby at_53) rfl k) ?_
      show ownGo p.tables e below (s₁.setTop (mkF m 54 #[.val (.int pa), .val (.int pb), .val (.int pc_), .val (.int pe), .val (.int pf), .val (.int (1 : Int32)), .val (.int (0 : Int32)), .val (.int c0), .val (.int c1), .val (.int c2), .unset, .unset, .unset, .unset, .unset, .unset] [(.int ((((pa.toUInt32 >>> ((24 : Int32) &&& 31).toUInt32).toInt32) &&& (255 : Int32)).toUInt32.toUInt16.toUInt32.toInt32))])) _
      obtain ⟨c3, h_c3, l_c3, u_c3⟩ : ∃ z, ((((pa.toUInt32 >>> ((24 : Int32) &&& 31).toUInt32).toInt32) &&& (255 : Int32)).toUInt32.toUInt16.toUInt32.toInt32) = z ∧ ¬ z < (0 : Int32) ∧ ¬ (255 : Int32) < z := own_char _
      rw [h_c3]
      refine ownStep (fun _ k => XS.istore X0.here hx rfl (hb hby at_54) rfl (l' := #[.val (.int pa), .val (.int pb), .val (.int pc_), .val (.int pe), .val (.int pf), .val (.int (1 : Int32)), .val (.int (0 : Int32)), .val (.int c0), .val (.int c1), .val (.int c2), .val (.int c3), .unset, .unset, .unset, .unset, .unset]) rfl k) ?_
      refine ownStep (fun _ k => XS.bipush X0.here hx rfl (hb hby at_56) k) ?_
      refine ownStep (fun _ k => XS.iload X0.here hx rfl (hb hby at_58) rfl  k) ?_
      refine ownStep (fun _ k => XS.iconst X0.here hx rfl (hb hby at_60) k) ?_
      show ownGo p.tables e below (s₁.setTop (mkF m 61 #[.val (.int pa), .val (.int pb), .val (.int pc_), .val (.int pe), .val (.int pf), .val (.int (1 : Int32)), .val (.int (0 : Int32)), .val (.int c0), .val (.int c1), .val (.int c2), .val (.int c3), .unset, .unset, .unset, .unset, .unset] [(.int (1 : Int32)), (.int pf), (.int (33 : Int32))])) _
      refine ownStep (fun _ k => XS.iushr X0.here hx rfl (hb hby at_61) rfl k) ?_
      refine ownStep (fun _ k => XS.bipush X0.here hx rfl (hb hby at_62) k) ?_
      show ownGo p.tables e below (s₁.setTop (mkF m 64 #[.val (.int pa), .val (.int pb), .val (.int pc_), .val (.int pe), .val (.int pf), .val (.int (1 : Int32)), .val (.int (0 : Int32)), .val (.int c0), .val (.int c1), .val (.int c2), .val (.int c3), .unset, .unset, .unset, .unset, .unset] [(.int (94 : Int32)), (.int ((pf.toUInt32 >>> ((1 : Int32) &&& 31).toUInt32).toInt32)), (.int (33 : Int32))])) _
      refine ownStep (fun _ k => iremM X0 hx rfl (hb hby at_64) rfl (by decide) k) ?_
      refine ownStep (fun _ k => XS.iadd X0.here hx rfl (hb hby at_65) rfl k) ?_
      refine ownStep (fun _ k => XS.i2c X0.here hx rfl (hb hby at_66) rfl k) ?_
      show ownGo p.tables e below (s₁.setTop (mkF m 67 #[.val (.int pa), .val (.int pb), .val (.int pc_), .val (.int pe), .val (.int pf), .val (.int (1 : Int32)), .val (.int (0 : Int32)), .val (.int c0), .val (.int c1), .val (.int c2), .val (.int c3), .unset, .unset, .unset, .unset, .unset] [(.int (((33 : Int32) + (((pf.toUInt32 >>> ((1 : Int32) &&& 31).toUInt32).toInt32) % (94 : Int32))).toUInt32.toUInt16.toUInt32.toInt32))])) _
      obtain ⟨kq, h_kq, l_kq, u_kq, kp_kq⟩ : ∃ z, (((33 : Int32) + (((pf.toUInt32 >>> ((1 : Int32) &&& 31).toUInt32).toInt32) % (94 : Int32))).toUInt32.toUInt16.toUInt32.toInt32) = z ∧ ¬ z < (0 : Int32) ∧ ¬ (255 : Int32) < z ∧ own_keep z := own_keepv pf
      rw [h_kq]
      refine ownStep (fun _ k => XS.istore X0.here hx rfl (hb hby at_67) rfl (l' := #[.val (.int pa), .val (.int pb), .val (.int pc_), .val (.int pe), .val (.int pf), .val (.int (1 : Int32)), .val (.int (0 : Int32)), .val (.int c0), .val (.int c1), .val (.int c2), .val (.int c3), .val (.int kq), .unset, .unset, .unset, .unset]) rfl k) ?_
      refine ownStep (fun _ k => XS.iload X0.here hx rfl (hb hby at_69) rfl  k) ?_
      refine ownStep (fun _ k => XS.ifNo X0.here hx rfl (hb hby at_71) rfl ((if0 _ _).trans (teq (by decide : (0 : Int32) = (0 : Int32))).2) k) ?_
      refine ownStep (fun _ k => XS.iload X0.here hx rfl (hb hby at_74) rfl  k) ?_
      show ownGo p.tables e below (s₁.setTop (mkF m 76 #[.val (.int pa), .val (.int pb), .val (.int pc_), .val (.int pe), .val (.int pf), .val (.int (1 : Int32)), .val (.int (0 : Int32)), .val (.int c0), .val (.int c1), .val (.int c2), .val (.int c3), .val (.int kq), .unset, .unset, .unset, .unset] [(.int kq)])) _
      refine ownStep (fun _ k => XS.istore X0.here hx rfl (hb hby at_76) rfl (l' := #[.val (.int pa), .val (.int pb), .val (.int pc_), .val (.int pe), .val (.int pf), .val (.int (1 : Int32)), .val (.int (0 : Int32)), .val (.int kq), .val (.int c1), .val (.int c2), .val (.int c3), .val (.int kq), .unset, .unset, .unset, .unset]) rfl k) ?_
      refine ownStep (fun _ k => XS.goto X0.here hx rfl (pc0 := 78) (pc' := 111) rfl (hb hby at_78) (by decide) (by decide) k) ?_
      refine ownStep (fun _ k => XS.iload X0.here hx rfl (hb hby at_111) rfl  k) ?_
      refine ownStep (fun _ k => XS.iload X0.here hx rfl (hb hby at_113) rfl  k) ?_
      refine ownStep (fun _ k => XS.iload X0.here hx rfl (hb hby at_115) rfl  k) ?_
      show ownGo p.tables e below (s₁.setTop (mkF m 117 #[.val (.int pa), .val (.int pb), .val (.int pc_), .val (.int pe), .val (.int pf), .val (.int (1 : Int32)), .val (.int (0 : Int32)), .val (.int kq), .val (.int c1), .val (.int c2), .val (.int c3), .val (.int kq), .unset, .unset, .unset, .unset] [(.int c1), (.int kq), (.int (1 : Int32))])) _
      refine ownStep (fun _ k => XS.iload X0.here hx rfl (hb hby at_117) rfl  k) ?_
      refine ownStep (fun _ k => XS.iload X0.here hx rfl (hb hby at_119) rfl  k) ?_
      show ownGo p.tables e below (s₁.setTop (mkF m 121 #[.val (.int pa), .val (.int pb), .val (.int pc_), .val (.int pe), .val (.int pf), .val (.int (1 : Int32)), .val (.int (0 : Int32)), .val (.int kq), .val (.int c1), .val (.int c2), .val (.int c3), .val (.int kq), .unset, .unset, .unset, .unset] [(.int c3), (.int c2), (.int c1), (.int kq), (.int (1 : Int32))])) _
      have Zs2 : n0 ≤ h0.size := Nat.le_trans Z0 KP0.1
      obtain ⟨_, _, ⟨T1, L1, k1, n1⟩, -, X1, ⟨Lc1, hQ1, l1, y1, z1⟩, st1⟩ := Jvm.LawKit.callS X0 hx (y := (⟨"com/example/circuline/circuline/circulation/BarcodesRequiredPinLaw", "make", "(ICCCC)Ljava/lang/String;"⟩ : MethodName)) hown (mvT hZ (hw _ (List.mem_of_getElem? (i := 0) rfl))) (mvT hZ (hw _ (List.mem_of_getElem? (i := 1) rfl))) (mvT hZ (hw _ (List.mem_of_getElem? (i := 2) rfl))) (mvT hZ (hw _ (List.mem_of_getElem? (i := 3) rfl))) (by decide) (backOf (W := 0) (own_mk1 l Z a0 hw [] zc kq c1 c2 c3 h0 n0 Zs2 hOld Scs hzc l_kq u_kq l_c1 u_c1 l_c2 u_c2 l_c3 u_c3) hZ (hw _ (List.mem_of_getElem? (i := 3) rfl)) (hw _ (List.mem_of_getElem? (i := 2) rfl)) (by decide) (by decide)) (g := (mkF m 121 #[.val (.int pa), .val (.int pb), .val (.int pc_), .val (.int pe), .val (.int pf), .val (.int (1 : Int32)), .val (.int (0 : Int32)), .val (.int kq), .val (.int c1), .val (.int c2), .val (.int c3), .val (.int kq), .unset, .unset, .unset, .unset] [(.int c3), (.int c2), (.int c1), (.int kq), (.int (1 : Int32))])) rfl (by rw [hml]; rfl) (argsL := [(.int (1 : Int32)), (.int kq), (.int c1), (.int c2), (.int c3)]) (rest := []) (lenOf own_law_pd0 rfl) rfl (by show 2 * 0 + _ ≤ _; exact Nat.le_of_eq rfl) (hb hby at_121) (fun _ _ => ⟨rfl, e0, (by decide : 0 + 3 ≤ _), (by decide : 0 + 6 ≤ _)⟩)
      dsimp only [Pt.U, Pt.locs, Pt.cells, Pt.slots] at X1 l1 y1 z1 st1 hQ1
      obtain rfl : k1 = 3 := y1
      obtain rfl : n1 = 6 := z1
      obtain ⟨sb_1, tb_1, kb_1, rfl, N1q, R1, P3, P4, P5, P6⟩ := hQ1
      have N1 : Fr n0 L1 := l1 ▸ Fr.app N0 N1q
      refine ownStep (fun _ k => st1 _ k) ?_
      have KP7 : Keep h0 T1.heap [] := KP0.ext R1
      refine ownStep (fun _ k => XS.astore X1.here hx rfl (hb hby at_124) rfl rfl (l' := #[.val (.int pa), .val (.int pb), .val (.int pc_), .val (.int pe), .val (.int pf), .val (.int (1 : Int32)), .val (.int (0 : Int32)), .val (.int kq), .val (.int c1), .val (.int c2), .val (.int c3), .val (.int kq), .val (.ref sb_1), .unset, .unset, .unset]) rfl k) ?_
      refine ownStep (fun _ k => XS.iloadN X1.here hx rfl (hb hby at_126) rfl  k) ?_
      refine ownStep (fun _ k => XS.sipush X1.here hx rfl (hb hby at_127) k) ?_
      refine ownStep (fun _ k => XS.iand X1.here hx rfl (hb hby at_130) rfl k) ?_
      show ownGo p.tables e below (T1.setTop (mkF m 131 #[.val (.int pa), .val (.int pb), .val (.int pc_), .val (.int pe), .val (.int pf), .val (.int (1 : Int32)), .val (.int (0 : Int32)), .val (.int kq), .val (.int c1), .val (.int c2), .val (.int c3), .val (.int kq), .val (.ref sb_1), .unset, .unset, .unset] [(.int (pb &&& (255 : Int32)))])) _
      refine ownStep (fun _ k => XS.i2c X1.here hx rfl (hb hby at_131) rfl k) ?_
      show ownGo p.tables e below (T1.setTop (mkF m 132 #[.val (.int pa), .val (.int pb), .val (.int pc_), .val (.int pe), .val (.int pf), .val (.int (1 : Int32)), .val (.int (0 : Int32)), .val (.int kq), .val (.int c1), .val (.int c2), .val (.int c3), .val (.int kq), .val (.ref sb_1), .unset, .unset, .unset] [(.int ((pb &&& (255 : Int32)).toUInt32.toUInt16.toUInt32.toInt32))])) _
      obtain ⟨f0, h_f0, l_f0, u_f0⟩ : ∃ z, ((pb &&& (255 : Int32)).toUInt32.toUInt16.toUInt32.toInt32) = z ∧ ¬ z < (0 : Int32) ∧ ¬ (255 : Int32) < z := own_char _
      rw [h_f0]
      show ownGo p.tables e below (T1.setTop (mkF m 132 #[.val (.int pa), .val (.int pb), .val (.int pc_), .val (.int pe), .val (.int pf), .val (.int (1 : Int32)), .val (.int (0 : Int32)), .val (.int kq), .val (.int c1), .val (.int c2), .val (.int c3), .val (.int kq), .val (.ref sb_1), .unset, .unset, .unset] [(.int f0)])) _
      have Q8 : Old Z n0 T1.heap := (hOld.ext R1)
      have Zs10 : n0 ≤ T1.heap.size := Nat.le_trans Z0 KP7.1
      obtain ⟨_, _, ⟨T9, L9, k9, n9⟩, -, X9, ⟨Lc9, hQ9, l9, y9, z9⟩, st9⟩ := Jvm.LawKit.callS X1 hx (y := (⟨"java/lang/String", "valueOf", "(C)Ljava/lang/String;"⟩ : MethodName)) hown (mvT hZ (hw _ (List.mem_of_getElem? (i := 34) rfl))) (mvT hZ (hw _ (List.mem_of_getElem? (i := 35) rfl))) (mvT hZ (hw _ (List.mem_of_getElem? (i := 6) rfl))) (mvT hZ (hw _ (List.mem_of_getElem? (i := 36) rfl))) (by decide) (backOf (W := 0) (own_vo l Z a0 hw [] zc f0 T1.heap n0 Zs10 Q8 Scs hzc l_f0 u_f0) hZ (hw _ (List.mem_of_getElem? (i := 36) rfl)) (hw _ (List.mem_of_getElem? (i := 6) rfl)) (by decide) (by decide)) (g := (mkF m 132 #[.val (.int pa), .val (.int pb), .val (.int pc_), .val (.int pe), .val (.int pf), .val (.int (1 : Int32)), .val (.int (0 : Int32)), .val (.int kq), .val (.int c1), .val (.int c2), .val (.int c3), .val (.int kq), .val (.ref sb_1), .unset, .unset, .unset] [(.int f0)])) rfl (by rw [hml]; rfl) (argsL := [(.int f0)]) (rest := []) (lenOf own_law_pd1 rfl) rfl (by show 2 * 0 + _ ≤ _; exact Nat.le_of_eq rfl) (hb hby at_132) (fun _ _ => ⟨rfl, rfl, (by decide : 3 + 2 ≤ _), (by decide : 6 + 5 ≤ _)⟩)
      dsimp only [Pt.U, Pt.locs, Pt.cells, Pt.slots] at X9 l9 y9 z9 st9 hQ9
      obtain rfl : k9 = 5 := y9
      obtain rfl : n9 = 11 := z9
      obtain ⟨sb_9, rfl, N9q, R9, P11⟩ := hQ9
      have N9 : Fr n0 L9 := l9 ▸ Fr.app N1 N9q
      refine ownStep (fun _ k => st9 _ k) ?_
      have KP12 : Keep h0 T9.heap [] := KP7.ext R9
      refine ownStep (fun _ k => XS.astore X9.here hx rfl (hb hby at_135) rfl rfl (l' := #[.val (.int pa), .val (.int pb), .val (.int pc_), .val (.int pe), .val (.int pf), .val (.int (1 : Int32)), .val (.int (0 : Int32)), .val (.int kq), .val (.int c1), .val (.int c2), .val (.int c3), .val (.int kq), .val (.ref sb_1), .val (.ref sb_9), .unset, .unset]) rfl k) ?_
      refine ownStep (fun _ k => XS.iloadN X9.here hx rfl (hb hby at_137) rfl  k) ?_
      refine ownStep (fun _ k => XS.sipush X9.here hx rfl (hb hby at_138) k) ?_
      refine ownStep (fun _ k => XS.iand X9.here hx rfl (hb hby at_141) rfl k) ?_
      show ownGo p.tables e below (T9.setTop (mkF m 142 #[.val (.int pa), .val (.int pb), .val (.int pc_), .val (.int pe), .val (.int pf), .val (.int (1 : Int32)), .val (.int (0 : Int32)), .val (.int kq), .val (.int c1), .val (.int c2), .val (.int c3), .val (.int kq), .val (.ref sb_1), .val (.ref sb_9), .unset, .unset] [(.int (pc_ &&& (255 : Int32)))])) _
      refine ownStep (fun _ k => XS.i2c X9.here hx rfl (hb hby at_142) rfl k) ?_
      show ownGo p.tables e below (T9.setTop (mkF m 143 #[.val (.int pa), .val (.int pb), .val (.int pc_), .val (.int pe), .val (.int pf), .val (.int (1 : Int32)), .val (.int (0 : Int32)), .val (.int kq), .val (.int c1), .val (.int c2), .val (.int c3), .val (.int kq), .val (.ref sb_1), .val (.ref sb_9), .unset, .unset] [(.int ((pc_ &&& (255 : Int32)).toUInt32.toUInt16.toUInt32.toInt32))])) _
      obtain ⟨f1, h_f1, l_f1, u_f1⟩ : ∃ z, ((pc_ &&& (255 : Int32)).toUInt32.toUInt16.toUInt32.toInt32) = z ∧ ¬ z < (0 : Int32) ∧ ¬ (255 : Int32) < z := own_char _
      rw [h_f1]
      show ownGo p.tables e below (T9.setTop (mkF m 143 #[.val (.int pa), .val (.int pb), .val (.int pc_), .val (.int pe), .val (.int pf), .val (.int (1 : Int32)), .val (.int (0 : Int32)), .val (.int kq), .val (.int c1), .val (.int c2), .val (.int c3), .val (.int kq), .val (.ref sb_1), .val (.ref sb_9), .unset, .unset] [(.int f1)])) _
      have Q13 : Old Z n0 T9.heap := (Q8.ext R9)
      have Zs15 : n0 ≤ T9.heap.size := Nat.le_trans Z0 KP12.1
      obtain ⟨_, _, ⟨T14, L14, k14, n14⟩, -, X14, ⟨Lc14, hQ14, l14, y14, z14⟩, st14⟩ := Jvm.LawKit.callS X9 hx (y := (⟨"java/lang/String", "valueOf", "(C)Ljava/lang/String;"⟩ : MethodName)) hown (mvT hZ (hw _ (List.mem_of_getElem? (i := 34) rfl))) (mvT hZ (hw _ (List.mem_of_getElem? (i := 35) rfl))) (mvT hZ (hw _ (List.mem_of_getElem? (i := 6) rfl))) (mvT hZ (hw _ (List.mem_of_getElem? (i := 36) rfl))) (by decide) (backOf (W := 0) (own_vo l Z a0 hw [] zc f1 T9.heap n0 Zs15 Q13 Scs hzc l_f1 u_f1) hZ (hw _ (List.mem_of_getElem? (i := 36) rfl)) (hw _ (List.mem_of_getElem? (i := 6) rfl)) (by decide) (by decide)) (g := (mkF m 143 #[.val (.int pa), .val (.int pb), .val (.int pc_), .val (.int pe), .val (.int pf), .val (.int (1 : Int32)), .val (.int (0 : Int32)), .val (.int kq), .val (.int c1), .val (.int c2), .val (.int c3), .val (.int kq), .val (.ref sb_1), .val (.ref sb_9), .unset, .unset] [(.int f1)])) rfl (by rw [hml]; rfl) (argsL := [(.int f1)]) (rest := []) (lenOf own_law_pd1 rfl) rfl (by show 2 * 0 + _ ≤ _; exact Nat.le_of_eq rfl) (hb hby at_143) (fun _ _ => ⟨rfl, rfl, (by decide : 5 + 2 ≤ _), (by decide : 11 + 5 ≤ _)⟩)
      dsimp only [Pt.U, Pt.locs, Pt.cells, Pt.slots] at X14 l14 y14 z14 st14 hQ14
      obtain rfl : k14 = 7 := y14
      obtain rfl : n14 = 16 := z14
      obtain ⟨sb_14, rfl, N14q, R14, P16⟩ := hQ14
      have N14 : Fr n0 L14 := l14 ▸ Fr.app N9 N14q
      refine ownStep (fun _ k => st14 _ k) ?_
      have KP17 : Keep h0 T14.heap [] := KP12.ext R14
      refine ownStep (fun _ k => XS.astore X14.here hx rfl (hb hby at_146) rfl rfl (l' := #[.val (.int pa), .val (.int pb), .val (.int pc_), .val (.int pe), .val (.int pf), .val (.int (1 : Int32)), .val (.int (0 : Int32)), .val (.int kq), .val (.int c1), .val (.int c2), .val (.int c3), .val (.int kq), .val (.ref sb_1), .val (.ref sb_9), .val (.ref sb_14), .unset]) rfl k) ?_
      refine ownStep (fun _ k => XS.aload X14.here hx rfl (hb hby at_148) rfl rfl k) ?_
      refine ownStep (fun _ k => XS.aload X14.here hx rfl (hb hby at_150) rfl rfl k) ?_
      refine ownStep (fun _ k => XS.aload X14.here hx rfl (hb hby at_152) rfl rfl k) ?_
      show ownGo p.tables e below (T14.setTop (mkF m 154 #[.val (.int pa), .val (.int pb), .val (.int pc_), .val (.int pe), .val (.int pf), .val (.int (1 : Int32)), .val (.int (0 : Int32)), .val (.int kq), .val (.int c1), .val (.int c2), .val (.int c3), .val (.int kq), .val (.ref sb_1), .val (.ref sb_9), .val (.ref sb_14), .unset] [(.ref sb_14), (.ref sb_9), (.ref sb_1)])) _
      have Q18 : Old Z n0 T14.heap := (Q13.ext R14)
      have Q19 : Exa Z T14.heap sb_1 "java/lang/String" := ((P3.ext R9).ext R14)
      have Q20 : Fld Z T14.heap sb_1 "java/lang/String" "coder" "B" (.int (0 : Int32)) := ((P4.ext R9).ext R14)
      have Q21 : Fld Z T14.heap sb_1 "java/lang/String" "value" "[B" (.ref tb_1) := ((P5.ext R9).ext R14)
      have Q22 : Arv Z T14.heap tb_1 kb_1 .byte (1 : Int32) [(.int kq.toInt8.toInt32)] (.int (0 : Int32)) := ((P6.ext R9).ext R14)
      have Zs24 : n0 ≤ T14.heap.size := Nat.le_trans Z0 KP17.1
      obtain ⟨_, _, ⟨T23, L23, k23, n23⟩, -, X23, ⟨Lc23, hQ23, l23, y23, z23⟩, st23⟩ := Jvm.LawKit.callS X14 hx (y := (⟨"com/example/circuline/circuline/circulation/Barcodes", "required", "(Ljava/lang/String;Ljava/lang/String;Ljava/lang/String;)Ljava/lang/String;"⟩ : MethodName)) hown (mvT hZ (hw _ (List.mem_of_getElem? (i := 48) rfl))) (mvT hZ (hw _ (List.mem_of_getElem? (i := 49) rfl))) (mvT hZ (hw _ (List.mem_of_getElem? (i := 50) rfl))) (mvT hZ (hw _ (List.mem_of_getElem? (i := 51) rfl))) (by decide) (backOf (W := 0) (own_req1 l Z a0 hw [] zc ci ta clt sb_1 tb_1 kb_1 kq sb_9 sb_14 T14.heap n0 Zs24 Q18 Scs hzc Sci Eci Sca Tab Q19 Q20 Q21 Q22 l_kq u_kq kp_kq) hZ (hw _ (List.mem_of_getElem? (i := 51) rfl)) (hw _ (List.mem_of_getElem? (i := 50) rfl)) (by decide) (by decide)) (g := (mkF m 154 #[.val (.int pa), .val (.int pb), .val (.int pc_), .val (.int pe), .val (.int pf), .val (.int (1 : Int32)), .val (.int (0 : Int32)), .val (.int kq), .val (.int c1), .val (.int c2), .val (.int c3), .val (.int kq), .val (.ref sb_1), .val (.ref sb_9), .val (.ref sb_14), .unset] [(.ref sb_14), (.ref sb_9), (.ref sb_1)])) rfl (by rw [hml]; rfl) (argsL := [(.ref sb_1), (.ref sb_9), (.ref sb_14)]) (rest := []) (lenOf own_law_pd2 rfl) rfl (by show 2 * 0 + _ ≤ _; exact Nat.le_of_eq rfl) (hb hby at_154) (fun _ _ => ⟨rfl, rfl, (by decide : 7 + 0 ≤ _), (by decide : 16 + 0 ≤ _)⟩)
      dsimp only [Pt.U, Pt.locs, Pt.cells, Pt.slots] at X23 l23 y23 z23 st23 hQ23
      obtain rfl : k23 = 7 := y23
      obtain rfl : n23 = 16 := z23
      obtain ⟨rfl, N23q, R23⟩ := hQ23
      have N23 : Fr n0 L23 := l23 ▸ Fr.app N14 N23q
      refine ownStep (fun _ k => st23 _ k) ?_
      refine ownStep (fun _ k => XS.astore X23.here hx rfl (hb hby at_157) rfl rfl (l' := #[.val (.int pa), .val (.int pb), .val (.int pc_), .val (.int pe), .val (.int pf), .val (.int (1 : Int32)), .val (.int (0 : Int32)), .val (.int kq), .val (.int c1), .val (.int c2), .val (.int c3), .val (.int kq), .val (.ref sb_1), .val (.ref sb_9), .val (.ref sb_14), .val (.ref sb_1)]) rfl k) ?_
      refine ownStep (fun _ k => XS.aload X23.here hx rfl (hb hby at_159) rfl rfl k) ?_
      refine ownStep (fun _ k => XS.ifnullNo X23.here hx rfl (hb hby at_161) rfl k) ?_
      refine ownStep (fun _ k => XS.aload X23.here hx rfl (hb hby at_164) rfl rfl k) ?_
      show ownGo p.tables e below (T23.setTop (mkF m 166 #[.val (.int pa), .val (.int pb), .val (.int pc_), .val (.int pe), .val (.int pf), .val (.int (1 : Int32)), .val (.int (0 : Int32)), .val (.int kq), .val (.int c1), .val (.int c2), .val (.int c3), .val (.int kq), .val (.ref sb_1), .val (.ref sb_9), .val (.ref sb_14), .val (.ref sb_1)] [(.ref sb_1)])) _
      have Zs26 : n0 ≤ T14.heap.size := Nat.le_trans Z0 KP17.1
      obtain ⟨cq25, kq25, q25a, q25b, q25c⟩ := isOf hZ R23 Q19
      obtain ⟨_, _, ⟨T25, L25, k25, n25⟩, -, X25, ⟨Lc25, hQ25, l25, y25, z25⟩, st25⟩ := X23.virtualBack hx (y := (⟨"java/lang/String", "length", "()I"⟩ : MethodName)) (z := (⟨"java/lang/String", "length", "()I"⟩ : MethodName)) hown (mvT hZ (hw _ (List.mem_of_getElem? (i := 96) rfl))) (mvT hZ (hw _ (List.mem_of_getElem? (i := 87) rfl))) (notFace_of_selects (args := #[]) (mvT hZ (hw _ (List.mem_of_getElem? (i := 89) rfl)))) (mvT hZ (hw _ (List.mem_of_getElem? (i := 89) rfl))) (mvT hZ (hw _ (List.mem_of_getElem? (i := 88) rfl))) (by decide) (backOf (W := 0) (own_len1 l Z a0 hw [] zc sb_1 tb_1 kb_1 kq T14.heap n0 Zs26 Q18 Scs hzc Q19 Q20 Q21 Q22) hZ (hw _ (List.mem_of_getElem? (i := 90) rfl)) (hw _ (List.mem_of_getElem? (i := 6) rfl)) (by decide) (by decide)) q25a q25c (g := (mkF m 166 #[.val (.int pa), .val (.int pb), .val (.int pc_), .val (.int pe), .val (.int pf), .val (.int (1 : Int32)), .val (.int (0 : Int32)), .val (.int kq), .val (.int c1), .val (.int c2), .val (.int c3), .val (.int kq), .val (.ref sb_1), .val (.ref sb_9), .val (.ref sb_14), .val (.ref sb_1)] [(.ref sb_1)])) rfl (by rw [hml]; rfl) (Steps.refl _) (argsL := []) (rest := []) (lenOf own_law_pd3 rfl) rfl (by show 2 * 0 + _ ≤ _; exact Nat.le_of_eq rfl) (hb hby at_166) (fun _ _ => ⟨rfl, R23, (by decide : 7 + 0 ≤ _), (by decide : 16 + 0 ≤ _)⟩)
      dsimp only [Pt.U, Pt.locs, Pt.cells, Pt.slots] at X25 l25 y25 z25 st25 hQ25
      obtain rfl : k25 = 7 := y25
      obtain rfl : n25 = 16 := z25
      obtain ⟨rfl, N25q, R25⟩ := hQ25
      have N25 : Fr n0 L25 := l25 ▸ Fr.app N23 N25q
      refine ownStep (fun _ k => st25.trans k) ?_
      refine ownStep (fun _ k => XS.iload X25.here hx rfl (hb hby at_169) rfl  k) ?_
      refine ownStep (fun _ k => XS.icmpNo X25.here hx rfl (hb hby at_171) rfl (teq (by decide : (1 : Int32) = (1 : Int32))).2 k) ?_
      refine ownStep (fun _ k => XS.aload X25.here hx rfl (hb hby at_174) rfl rfl k) ?_
      refine ownStep (fun _ k => XS.aload X25.here hx rfl (hb hby at_176) rfl rfl k) ?_
      show ownGo p.tables e below (T25.setTop (mkF m 178 #[.val (.int pa), .val (.int pb), .val (.int pc_), .val (.int pe), .val (.int pf), .val (.int (1 : Int32)), .val (.int (0 : Int32)), .val (.int kq), .val (.int c1), .val (.int c2), .val (.int c3), .val (.int kq), .val (.ref sb_1), .val (.ref sb_9), .val (.ref sb_14), .val (.ref sb_1)] [(.ref sb_1), (.ref sb_1)])) _
      have Zs28 : n0 ≤ T14.heap.size := Nat.le_trans Z0 KP17.1
      obtain ⟨cq27, kq27, q27a, q27b, q27c⟩ := isOf hZ R25 Q19
      obtain ⟨_, _, ⟨T27, L27, k27, n27⟩, -, X27, ⟨Lc27, hQ27, l27, y27, z27⟩, st27⟩ := X25.virtualBack hx (y := (⟨"java/lang/String", "equals", "(Ljava/lang/Object;)Z"⟩ : MethodName)) (z := (⟨"java/lang/String", "equals", "(Ljava/lang/Object;)Z"⟩ : MethodName)) hown (mvT hZ (hw _ (List.mem_of_getElem? (i := 97) rfl))) (mvT hZ (hw _ (List.mem_of_getElem? (i := 98) rfl))) (notFace_of_selects (args := #[]) (mvT hZ (hw _ (List.mem_of_getElem? (i := 100) rfl)))) (mvT hZ (hw _ (List.mem_of_getElem? (i := 100) rfl))) (mvT hZ (hw _ (List.mem_of_getElem? (i := 99) rfl))) (by decide) (backOf (W := 0) (own_eq l Z a0 hw [] sb_1 T14.heap n0 Zs28 ) hZ (hw _ (List.mem_of_getElem? (i := 101) rfl)) (hw _ (List.mem_of_getElem? (i := 6) rfl)) (by decide) (by decide)) q27a q27c (g := (mkF m 178 #[.val (.int pa), .val (.int pb), .val (.int pc_), .val (.int pe), .val (.int pf), .val (.int (1 : Int32)), .val (.int (0 : Int32)), .val (.int kq), .val (.int c1), .val (.int c2), .val (.int c3), .val (.int kq), .val (.ref sb_1), .val (.ref sb_9), .val (.ref sb_14), .val (.ref sb_1)] [(.ref sb_1), (.ref sb_1)])) rfl (by rw [hml]; rfl) (Steps.refl _) (argsL := [(.ref sb_1)]) (rest := []) (lenOf own_law_pd4 rfl) rfl (by show 2 * 0 + _ ≤ _; exact Nat.le_of_eq rfl) (hb hby at_178) (fun _ _ => ⟨rfl, R25, (by decide : 7 + 0 ≤ _), (by decide : 16 + 0 ≤ _)⟩)
      dsimp only [Pt.U, Pt.locs, Pt.cells, Pt.slots] at X27 l27 y27 z27 st27 hQ27
      obtain rfl : k27 = 7 := y27
      obtain rfl : n27 = 16 := z27
      obtain ⟨rfl, N27q, R27⟩ := hQ27
      have N27 : Fr n0 L27 := l27 ▸ Fr.app N25 N27q
      refine ownStep (fun _ k => st27.trans k) ?_
      refine ownStep (fun _ k => XS.ifNo X27.here hx rfl (hb hby at_181) rfl ((if0 _ _).trans (feq (by decide : ¬ (1 : Int32) = (0 : Int32))).1) k) ?_
      refine ownStep (fun _ k => XS.iconst X27.here hx rfl (hb hby at_184) k) ?_
      refine ownStep (fun _ k => XS.goto X27.here hx rfl (pc0 := 185) (pc' := 189) rfl (hb hby at_185) (by decide) (by decide) k) ?_
      show ownGo p.tables e below (T27.setTop (mkF m 189 #[.val (.int pa), .val (.int pb), .val (.int pc_), .val (.int pe), .val (.int pf), .val (.int (1 : Int32)), .val (.int (0 : Int32)), .val (.int kq), .val (.int c1), .val (.int c2), .val (.int c3), .val (.int kq), .val (.ref sb_1), .val (.ref sb_9), .val (.ref sb_14), .val (.ref sb_1)] [(.int (1 : Int32))])) _
      exact ownRet X27 (v := some (.int (1 : Int32))) Bd.notSynchronized (fun h => by rw [Bd.returns] at h; cases h) (fun _ hr => retN X27 hx (t := .boolean) Bd.returns (by simp) (hb hby at_189) hr) (by rw [R27]; exact ⟨rfl, N27, (own_extOf KP17)⟩) (by decide) (by decide)
  · skip
    rw [hn]
    refine ownStep (fun _ k => XS.iconst X0.here hx rfl (hb hby at_3) k) ?_
    refine ownStep (fun _ k => XS.iadd X0.here hx rfl (hb hby at_4) rfl k) ?_
    refine ownStep (fun _ k => XS.istore X0.here hx rfl (hb hby at_5) rfl (l' := #[.val (.int pa), .val (.int pb), .val (.int pc_), .val (.int pe), .val (.int pf), .val (.int (2 : Int32)), .unset, .unset, .unset, .unset, .unset, .unset, .unset, .unset, .unset, .unset]) rfl k) ?_
    refine ownStep (fun _ k => XS.iloadN X0.here hx rfl (hb hby at_7) rfl  k) ?_
    show ownGo p.tables e below (s₁.setTop (mkF m 8 #[.val (.int pa), .val (.int pb), .val (.int pc_), .val (.int pe), .val (.int pf), .val (.int (2 : Int32)), .unset, .unset, .unset, .unset, .unset, .unset, .unset, .unset, .unset, .unset] [(.int pe)])) _
    refine ownStep (fun _ k => XS.iconst X0.here hx rfl (hb hby at_8) k) ?_
    refine ownStep (fun _ k => XS.iushr X0.here hx rfl (hb hby at_9) rfl k) ?_
    refine ownStep (fun _ k => XS.iload X0.here hx rfl (hb hby at_10) rfl  k) ?_
    show ownGo p.tables e below (s₁.setTop (mkF m 12 #[.val (.int pa), .val (.int pb), .val (.int pc_), .val (.int pe), .val (.int pf), .val (.int (2 : Int32)), .unset, .unset, .unset, .unset, .unset, .unset, .unset, .unset, .unset, .unset] [(.int (2 : Int32)), (.int ((pe.toUInt32 >>> ((2 : Int32) &&& 31).toUInt32).toInt32))])) _
    refine ownStep (fun _ k => iremM X0 hx rfl (hb hby at_12) rfl (by decide) k) ?_
    show ownGo p.tables e below (s₁.setTop (mkF m 13 #[.val (.int pa), .val (.int pb), .val (.int pc_), .val (.int pe), .val (.int pf), .val (.int (2 : Int32)), .unset, .unset, .unset, .unset, .unset, .unset, .unset, .unset, .unset, .unset] [(.int (((pe.toUInt32 >>> ((2 : Int32) &&& 31).toUInt32).toInt32) % (2 : Int32)))])) _
    rcases own_rem2 pe with hk | hk
    · skip
      rw [hk]
      refine ownStep (fun _ k => XS.istore X0.here hx rfl (hb hby at_13) rfl (l' := #[.val (.int pa), .val (.int pb), .val (.int pc_), .val (.int pe), .val (.int pf), .val (.int (2 : Int32)), .val (.int (0 : Int32)), .unset, .unset, .unset, .unset, .unset, .unset, .unset, .unset, .unset]) rfl k) ?_
      refine ownStep (fun _ k => XS.iloadN X0.here hx rfl (hb hby at_15) rfl  k) ?_
      refine ownStep (fun _ k => XS.sipush X0.here hx rfl (hb hby at_16) k) ?_
      refine ownStep (fun _ k => XS.iand X0.here hx rfl (hb hby at_19) rfl k) ?_
      show ownGo p.tables e below (s₁.setTop (mkF m 20 #[.val (.int pa), .val (.int pb), .val (.int pc_), .val (.int pe), .val (.int pf), .val (.int (2 : Int32)), .val (.int (0 : Int32)), .unset, .unset, .unset, .unset, .unset, .unset, .unset, .unset, .unset] [(.int (pa &&& (255 : Int32)))])) _
      refine ownStep (fun _ k => XS.i2c X0.here hx rfl (hb hby at_20) rfl k) ?_
      show ownGo p.tables e below (s₁.setTop (mkF m 21 #[.val (.int pa), .val (.int pb), .val (.int pc_), .val (.int pe), .val (.int pf), .val (.int (2 : Int32)), .val (.int (0 : Int32)), .unset, .unset, .unset, .unset, .unset, .unset, .unset, .unset, .unset] [(.int ((pa &&& (255 : Int32)).toUInt32.toUInt16.toUInt32.toInt32))])) _
      obtain ⟨c0, h_c0, l_c0, u_c0⟩ : ∃ z, ((pa &&& (255 : Int32)).toUInt32.toUInt16.toUInt32.toInt32) = z ∧ ¬ z < (0 : Int32) ∧ ¬ (255 : Int32) < z := own_char _
      rw [h_c0]
      refine ownStep (fun _ k => XS.istore X0.here hx rfl (hb hby at_21) rfl (l' := #[.val (.int pa), .val (.int pb), .val (.int pc_), .val (.int pe), .val (.int pf), .val (.int (2 : Int32)), .val (.int (0 : Int32)), .val (.int c0), .unset, .unset, .unset, .unset, .unset, .unset, .unset, .unset]) rfl k) ?_
      refine ownStep (fun _ k => XS.iloadN X0.here hx rfl (hb hby at_23) rfl  k) ?_
      refine ownStep (fun _ k => XS.bipush X0.here hx rfl (hb hby at_24) k) ?_
      refine ownStep (fun _ k => XS.iushr X0.here hx rfl (hb hby at_26) rfl k) ?_
      show ownGo p.tables e below (s₁.setTop (mkF m 27 #[.val (.int pa), .val (.int pb), .val (.int pc_), .val (.int pe), .val (.int pf), .val (.int (2 : Int32)), .val (.int (0 : Int32)), .val (.int c0), .unset, .unset, .unset, .unset, .unset, .unset, .unset, .unset] [(.int ((pa.toUInt32 >>> ((8 : Int32) &&& 31).toUInt32).toInt32))])) _
      refine ownStep (fun _ k => XS.sipush X0.here hx rfl (hb hby at_27) k) ?_
      refine ownStep (fun _ k => XS.iand X0.here hx rfl (hb hby at_30) rfl k) ?_
      refine ownStep (fun _ k => XS.i2c X0.here hx rfl (hb hby at_31) rfl k) ?_
      show ownGo p.tables e below (s₁.setTop (mkF m 32 #[.val (.int pa), .val (.int pb), .val (.int pc_), .val (.int pe), .val (.int pf), .val (.int (2 : Int32)), .val (.int (0 : Int32)), .val (.int c0), .unset, .unset, .unset, .unset, .unset, .unset, .unset, .unset] [(.int ((((pa.toUInt32 >>> ((8 : Int32) &&& 31).toUInt32).toInt32) &&& (255 : Int32)).toUInt32.toUInt16.toUInt32.toInt32))])) _
      obtain ⟨c1, h_c1, l_c1, u_c1⟩ : ∃ z, ((((pa.toUInt32 >>> ((8 : Int32) &&& 31).toUInt32).toInt32) &&& (255 : Int32)).toUInt32.toUInt16.toUInt32.toInt32) = z ∧ ¬ z < (0 : Int32) ∧ ¬ (255 : Int32) < z := own_char _
      rw [h_c1]
      refine ownStep (fun _ k => XS.istore X0.here hx rfl (hb hby at_32) rfl (l' := #[.val (.int pa), .val (.int pb), .val (.int pc_), .val (.int pe), .val (.int pf), .val (.int (2 : Int32)), .val (.int (0 : Int32)), .val (.int c0), .val (.int c1), .unset, .unset, .unset, .unset, .unset, .unset, .unset]) rfl k) ?_
      refine ownStep (fun _ k => XS.iloadN X0.here hx rfl (hb hby at_34) rfl  k) ?_
      refine ownStep (fun _ k => XS.bipush X0.here hx rfl (hb hby at_35) k) ?_
      refine ownStep (fun _ k => XS.iushr X0.here hx rfl (hb hby at_37) rfl k) ?_
      show ownGo p.tables e below (s₁.setTop (mkF m 38 #[.val (.int pa), .val (.int pb), .val (.int pc_), .val (.int pe), .val (.int pf), .val (.int (2 : Int32)), .val (.int (0 : Int32)), .val (.int c0), .val (.int c1), .unset, .unset, .unset, .unset, .unset, .unset, .unset] [(.int ((pa.toUInt32 >>> ((16 : Int32) &&& 31).toUInt32).toInt32))])) _
      refine ownStep (fun _ k => XS.sipush X0.here hx rfl (hb hby at_38) k) ?_
      refine ownStep (fun _ k => XS.iand X0.here hx rfl (hb hby at_41) rfl k) ?_
      refine ownStep (fun _ k => XS.i2c X0.here hx rfl (hb hby at_42) rfl k) ?_
      show ownGo p.tables e below (s₁.setTop (mkF m 43 #[.val (.int pa), .val (.int pb), .val (.int pc_), .val (.int pe), .val (.int pf), .val (.int (2 : Int32)), .val (.int (0 : Int32)), .val (.int c0), .val (.int c1), .unset, .unset, .unset, .unset, .unset, .unset, .unset] [(.int ((((pa.toUInt32 >>> ((16 : Int32) &&& 31).toUInt32).toInt32) &&& (255 : Int32)).toUInt32.toUInt16.toUInt32.toInt32))])) _
      obtain ⟨c2, h_c2, l_c2, u_c2⟩ : ∃ z, ((((pa.toUInt32 >>> ((16 : Int32) &&& 31).toUInt32).toInt32) &&& (255 : Int32)).toUInt32.toUInt16.toUInt32.toInt32) = z ∧ ¬ z < (0 : Int32) ∧ ¬ (255 : Int32) < z := own_char _
      rw [h_c2]
      refine ownStep (fun _ k => XS.istore X0.here hx rfl (hb hby at_43) rfl (l' := #[.val (.int pa), .val (.int pb), .val (.int pc_), .val (.int pe), .val (.int pf), .val (.int (2 : Int32)), .val (.int (0 : Int32)), .val (.int c0), .val (.int c1), .val (.int c2), .unset, .unset, .unset, .unset, .unset, .unset]) rfl k) ?_
      refine ownStep (fun _ k => XS.iloadN X0.here hx rfl (hb hby at_45) rfl  k) ?_
      refine ownStep (fun _ k => XS.bipush X0.here hx rfl (hb hby at_46) k) ?_
      refine ownStep (fun _ k => XS.iushr X0.here hx rfl (hb hby at_48) rfl k) ?_
      show ownGo p.tables e below (s₁.setTop (mkF m 49 #[.val (.int pa), .val (.int pb), .val (.int pc_), .val (.int pe), .val (.int pf), .val (.int (2 : Int32)), .val (.int (0 : Int32)), .val (.int c0), .val (.int c1), .val (.int c2), .unset, .unset, .unset, .unset, .unset, .unset] [(.int ((pa.toUInt32 >>> ((24 : Int32) &&& 31).toUInt32).toInt32))])) _
      refine ownStep (fun _ k => XS.sipush X0.here hx rfl (hb hby at_49) k) ?_
      refine ownStep (fun _ k => XS.iand X0.here hx rfl (hb hby at_52) rfl k) ?_
      refine ownStep (fun _ k => XS.i2c X0.here hx rfl (hb hby at_53) rfl k) ?_
      show ownGo p.tables e below (s₁.setTop (mkF m 54 #[.val (.int pa), .val (.int pb), .val (.int pc_), .val (.int pe), .val (.int pf), .val (.int (2 : Int32)), .val (.int (0 : Int32)), .val (.int c0), .val (.int c1), .val (.int c2), .unset, .unset, .unset, .unset, .unset, .unset] [(.int ((((pa.toUInt32 >>> ((24 : Int32) &&& 31).toUInt32).toInt32) &&& (255 : Int32)).toUInt32.toUInt16.toUInt32.toInt32))])) _
      obtain ⟨c3, h_c3, l_c3, u_c3⟩ : ∃ z, ((((pa.toUInt32 >>> ((24 : Int32) &&& 31).toUInt32).toInt32) &&& (255 : Int32)).toUInt32.toUInt16.toUInt32.toInt32) = z ∧ ¬ z < (0 : Int32) ∧ ¬ (255 : Int32) < z := own_char _
      rw [h_c3]
      refine ownStep (fun _ k => XS.istore X0.here hx rfl (hb hby at_54) rfl (l' := #[.val (.int pa), .val (.int pb), .val (.int pc_), .val (.int pe), .val (.int pf), .val (.int (2 : Int32)), .val (.int (0 : Int32)), .val (.int c0), .val (.int c1), .val (.int c2), .val (.int c3), .unset, .unset, .unset, .unset, .unset]) rfl k) ?_
      refine ownStep (fun _ k => XS.bipush X0.here hx rfl (hb hby at_56) k) ?_
      refine ownStep (fun _ k => XS.iload X0.here hx rfl (hb hby at_58) rfl  k) ?_
      refine ownStep (fun _ k => XS.iconst X0.here hx rfl (hb hby at_60) k) ?_
      show ownGo p.tables e below (s₁.setTop (mkF m 61 #[.val (.int pa), .val (.int pb), .val (.int pc_), .val (.int pe), .val (.int pf), .val (.int (2 : Int32)), .val (.int (0 : Int32)), .val (.int c0), .val (.int c1), .val (.int c2), .val (.int c3), .unset, .unset, .unset, .unset, .unset] [(.int (1 : Int32)), (.int pf), (.int (33 : Int32))])) _
      refine ownStep (fun _ k => XS.iushr X0.here hx rfl (hb hby at_61) rfl k) ?_
      refine ownStep (fun _ k => XS.bipush X0.here hx rfl (hb hby at_62) k) ?_
      show ownGo p.tables e below (s₁.setTop (mkF m 64 #[.val (.int pa), .val (.int pb), .val (.int pc_), .val (.int pe), .val (.int pf), .val (.int (2 : Int32)), .val (.int (0 : Int32)), .val (.int c0), .val (.int c1), .val (.int c2), .val (.int c3), .unset, .unset, .unset, .unset, .unset] [(.int (94 : Int32)), (.int ((pf.toUInt32 >>> ((1 : Int32) &&& 31).toUInt32).toInt32)), (.int (33 : Int32))])) _
      refine ownStep (fun _ k => iremM X0 hx rfl (hb hby at_64) rfl (by decide) k) ?_
      refine ownStep (fun _ k => XS.iadd X0.here hx rfl (hb hby at_65) rfl k) ?_
      refine ownStep (fun _ k => XS.i2c X0.here hx rfl (hb hby at_66) rfl k) ?_
      show ownGo p.tables e below (s₁.setTop (mkF m 67 #[.val (.int pa), .val (.int pb), .val (.int pc_), .val (.int pe), .val (.int pf), .val (.int (2 : Int32)), .val (.int (0 : Int32)), .val (.int c0), .val (.int c1), .val (.int c2), .val (.int c3), .unset, .unset, .unset, .unset, .unset] [(.int (((33 : Int32) + (((pf.toUInt32 >>> ((1 : Int32) &&& 31).toUInt32).toInt32) % (94 : Int32))).toUInt32.toUInt16.toUInt32.toInt32))])) _
      obtain ⟨kq, h_kq, l_kq, u_kq, kp_kq⟩ : ∃ z, (((33 : Int32) + (((pf.toUInt32 >>> ((1 : Int32) &&& 31).toUInt32).toInt32) % (94 : Int32))).toUInt32.toUInt16.toUInt32.toInt32) = z ∧ ¬ z < (0 : Int32) ∧ ¬ (255 : Int32) < z ∧ own_keep z := own_keepv pf
      rw [h_kq]
      refine ownStep (fun _ k => XS.istore X0.here hx rfl (hb hby at_67) rfl (l' := #[.val (.int pa), .val (.int pb), .val (.int pc_), .val (.int pe), .val (.int pf), .val (.int (2 : Int32)), .val (.int (0 : Int32)), .val (.int c0), .val (.int c1), .val (.int c2), .val (.int c3), .val (.int kq), .unset, .unset, .unset, .unset]) rfl k) ?_
      refine ownStep (fun _ k => XS.iload X0.here hx rfl (hb hby at_69) rfl  k) ?_
      refine ownStep (fun _ k => XS.ifNo X0.here hx rfl (hb hby at_71) rfl ((if0 _ _).trans (teq (by decide : (0 : Int32) = (0 : Int32))).2) k) ?_
      refine ownStep (fun _ k => XS.iload X0.here hx rfl (hb hby at_74) rfl  k) ?_
      show ownGo p.tables e below (s₁.setTop (mkF m 76 #[.val (.int pa), .val (.int pb), .val (.int pc_), .val (.int pe), .val (.int pf), .val (.int (2 : Int32)), .val (.int (0 : Int32)), .val (.int c0), .val (.int c1), .val (.int c2), .val (.int c3), .val (.int kq), .unset, .unset, .unset, .unset] [(.int kq)])) _
      refine ownStep (fun _ k => XS.istore X0.here hx rfl (hb hby at_76) rfl (l' := #[.val (.int pa), .val (.int pb), .val (.int pc_), .val (.int pe), .val (.int pf), .val (.int (2 : Int32)), .val (.int (0 : Int32)), .val (.int kq), .val (.int c1), .val (.int c2), .val (.int c3), .val (.int kq), .unset, .unset, .unset, .unset]) rfl k) ?_
      refine ownStep (fun _ k => XS.goto X0.here hx rfl (pc0 := 78) (pc' := 111) rfl (hb hby at_78) (by decide) (by decide) k) ?_
      refine ownStep (fun _ k => XS.iload X0.here hx rfl (hb hby at_111) rfl  k) ?_
      refine ownStep (fun _ k => XS.iload X0.here hx rfl (hb hby at_113) rfl  k) ?_
      refine ownStep (fun _ k => XS.iload X0.here hx rfl (hb hby at_115) rfl  k) ?_
      show ownGo p.tables e below (s₁.setTop (mkF m 117 #[.val (.int pa), .val (.int pb), .val (.int pc_), .val (.int pe), .val (.int pf), .val (.int (2 : Int32)), .val (.int (0 : Int32)), .val (.int kq), .val (.int c1), .val (.int c2), .val (.int c3), .val (.int kq), .unset, .unset, .unset, .unset] [(.int c1), (.int kq), (.int (2 : Int32))])) _
      refine ownStep (fun _ k => XS.iload X0.here hx rfl (hb hby at_117) rfl  k) ?_
      refine ownStep (fun _ k => XS.iload X0.here hx rfl (hb hby at_119) rfl  k) ?_
      show ownGo p.tables e below (s₁.setTop (mkF m 121 #[.val (.int pa), .val (.int pb), .val (.int pc_), .val (.int pe), .val (.int pf), .val (.int (2 : Int32)), .val (.int (0 : Int32)), .val (.int kq), .val (.int c1), .val (.int c2), .val (.int c3), .val (.int kq), .unset, .unset, .unset, .unset] [(.int c3), (.int c2), (.int c1), (.int kq), (.int (2 : Int32))])) _
      have Zs30 : n0 ≤ h0.size := Nat.le_trans Z0 KP0.1
      obtain ⟨_, _, ⟨T29, L29, k29, n29⟩, -, X29, ⟨Lc29, hQ29, l29, y29, z29⟩, st29⟩ := Jvm.LawKit.callS X0 hx (y := (⟨"com/example/circuline/circuline/circulation/BarcodesRequiredPinLaw", "make", "(ICCCC)Ljava/lang/String;"⟩ : MethodName)) hown (mvT hZ (hw _ (List.mem_of_getElem? (i := 0) rfl))) (mvT hZ (hw _ (List.mem_of_getElem? (i := 1) rfl))) (mvT hZ (hw _ (List.mem_of_getElem? (i := 2) rfl))) (mvT hZ (hw _ (List.mem_of_getElem? (i := 3) rfl))) (by decide) (backOf (W := 0) (own_mk2 l Z a0 hw [] zc kq c1 c2 c3 h0 n0 Zs30 hOld Scs hzc l_kq u_kq l_c1 u_c1 l_c2 u_c2 l_c3 u_c3) hZ (hw _ (List.mem_of_getElem? (i := 3) rfl)) (hw _ (List.mem_of_getElem? (i := 2) rfl)) (by decide) (by decide)) (g := (mkF m 121 #[.val (.int pa), .val (.int pb), .val (.int pc_), .val (.int pe), .val (.int pf), .val (.int (2 : Int32)), .val (.int (0 : Int32)), .val (.int kq), .val (.int c1), .val (.int c2), .val (.int c3), .val (.int kq), .unset, .unset, .unset, .unset] [(.int c3), (.int c2), (.int c1), (.int kq), (.int (2 : Int32))])) rfl (by rw [hml]; rfl) (argsL := [(.int (2 : Int32)), (.int kq), (.int c1), (.int c2), (.int c3)]) (rest := []) (lenOf own_law_pd0 rfl) rfl (by show 2 * 0 + _ ≤ _; exact Nat.le_of_eq rfl) (hb hby at_121) (fun _ _ => ⟨rfl, e0, (by decide : 0 + 3 ≤ _), (by decide : 0 + 8 ≤ _)⟩)
      dsimp only [Pt.U, Pt.locs, Pt.cells, Pt.slots] at X29 l29 y29 z29 st29 hQ29
      obtain rfl : k29 = 3 := y29
      obtain rfl : n29 = 8 := z29
      obtain ⟨sb_29, tb_29, kb_29, rfl, N29q, R29, P31, P32, P33, P34⟩ := hQ29
      have N29 : Fr n0 L29 := l29 ▸ Fr.app N0 N29q
      refine ownStep (fun _ k => st29 _ k) ?_
      have KP35 : Keep h0 T29.heap [] := KP0.ext R29
      refine ownStep (fun _ k => XS.astore X29.here hx rfl (hb hby at_124) rfl rfl (l' := #[.val (.int pa), .val (.int pb), .val (.int pc_), .val (.int pe), .val (.int pf), .val (.int (2 : Int32)), .val (.int (0 : Int32)), .val (.int kq), .val (.int c1), .val (.int c2), .val (.int c3), .val (.int kq), .val (.ref sb_29), .unset, .unset, .unset]) rfl k) ?_
      refine ownStep (fun _ k => XS.iloadN X29.here hx rfl (hb hby at_126) rfl  k) ?_
      refine ownStep (fun _ k => XS.sipush X29.here hx rfl (hb hby at_127) k) ?_
      refine ownStep (fun _ k => XS.iand X29.here hx rfl (hb hby at_130) rfl k) ?_
      show ownGo p.tables e below (T29.setTop (mkF m 131 #[.val (.int pa), .val (.int pb), .val (.int pc_), .val (.int pe), .val (.int pf), .val (.int (2 : Int32)), .val (.int (0 : Int32)), .val (.int kq), .val (.int c1), .val (.int c2), .val (.int c3), .val (.int kq), .val (.ref sb_29), .unset, .unset, .unset] [(.int (pb &&& (255 : Int32)))])) _
      refine ownStep (fun _ k => XS.i2c X29.here hx rfl (hb hby at_131) rfl k) ?_
      show ownGo p.tables e below (T29.setTop (mkF m 132 #[.val (.int pa), .val (.int pb), .val (.int pc_), .val (.int pe), .val (.int pf), .val (.int (2 : Int32)), .val (.int (0 : Int32)), .val (.int kq), .val (.int c1), .val (.int c2), .val (.int c3), .val (.int kq), .val (.ref sb_29), .unset, .unset, .unset] [(.int ((pb &&& (255 : Int32)).toUInt32.toUInt16.toUInt32.toInt32))])) _
      obtain ⟨f0, h_f0, l_f0, u_f0⟩ : ∃ z, ((pb &&& (255 : Int32)).toUInt32.toUInt16.toUInt32.toInt32) = z ∧ ¬ z < (0 : Int32) ∧ ¬ (255 : Int32) < z := own_char _
      rw [h_f0]
      show ownGo p.tables e below (T29.setTop (mkF m 132 #[.val (.int pa), .val (.int pb), .val (.int pc_), .val (.int pe), .val (.int pf), .val (.int (2 : Int32)), .val (.int (0 : Int32)), .val (.int kq), .val (.int c1), .val (.int c2), .val (.int c3), .val (.int kq), .val (.ref sb_29), .unset, .unset, .unset] [(.int f0)])) _
      have Q36 : Old Z n0 T29.heap := (hOld.ext R29)
      have Zs38 : n0 ≤ T29.heap.size := Nat.le_trans Z0 KP35.1
      obtain ⟨_, _, ⟨T37, L37, k37, n37⟩, -, X37, ⟨Lc37, hQ37, l37, y37, z37⟩, st37⟩ := Jvm.LawKit.callS X29 hx (y := (⟨"java/lang/String", "valueOf", "(C)Ljava/lang/String;"⟩ : MethodName)) hown (mvT hZ (hw _ (List.mem_of_getElem? (i := 34) rfl))) (mvT hZ (hw _ (List.mem_of_getElem? (i := 35) rfl))) (mvT hZ (hw _ (List.mem_of_getElem? (i := 6) rfl))) (mvT hZ (hw _ (List.mem_of_getElem? (i := 36) rfl))) (by decide) (backOf (W := 0) (own_vo l Z a0 hw [] zc f0 T29.heap n0 Zs38 Q36 Scs hzc l_f0 u_f0) hZ (hw _ (List.mem_of_getElem? (i := 36) rfl)) (hw _ (List.mem_of_getElem? (i := 6) rfl)) (by decide) (by decide)) (g := (mkF m 132 #[.val (.int pa), .val (.int pb), .val (.int pc_), .val (.int pe), .val (.int pf), .val (.int (2 : Int32)), .val (.int (0 : Int32)), .val (.int kq), .val (.int c1), .val (.int c2), .val (.int c3), .val (.int kq), .val (.ref sb_29), .unset, .unset, .unset] [(.int f0)])) rfl (by rw [hml]; rfl) (argsL := [(.int f0)]) (rest := []) (lenOf own_law_pd1 rfl) rfl (by show 2 * 0 + _ ≤ _; exact Nat.le_of_eq rfl) (hb hby at_132) (fun _ _ => ⟨rfl, rfl, (by decide : 3 + 2 ≤ _), (by decide : 8 + 5 ≤ _)⟩)
      dsimp only [Pt.U, Pt.locs, Pt.cells, Pt.slots] at X37 l37 y37 z37 st37 hQ37
      obtain rfl : k37 = 5 := y37
      obtain rfl : n37 = 13 := z37
      obtain ⟨sb_37, rfl, N37q, R37, P39⟩ := hQ37
      have N37 : Fr n0 L37 := l37 ▸ Fr.app N29 N37q
      refine ownStep (fun _ k => st37 _ k) ?_
      have KP40 : Keep h0 T37.heap [] := KP35.ext R37
      refine ownStep (fun _ k => XS.astore X37.here hx rfl (hb hby at_135) rfl rfl (l' := #[.val (.int pa), .val (.int pb), .val (.int pc_), .val (.int pe), .val (.int pf), .val (.int (2 : Int32)), .val (.int (0 : Int32)), .val (.int kq), .val (.int c1), .val (.int c2), .val (.int c3), .val (.int kq), .val (.ref sb_29), .val (.ref sb_37), .unset, .unset]) rfl k) ?_
      refine ownStep (fun _ k => XS.iloadN X37.here hx rfl (hb hby at_137) rfl  k) ?_
      refine ownStep (fun _ k => XS.sipush X37.here hx rfl (hb hby at_138) k) ?_
      refine ownStep (fun _ k => XS.iand X37.here hx rfl (hb hby at_141) rfl k) ?_
      show ownGo p.tables e below (T37.setTop (mkF m 142 #[.val (.int pa), .val (.int pb), .val (.int pc_), .val (.int pe), .val (.int pf), .val (.int (2 : Int32)), .val (.int (0 : Int32)), .val (.int kq), .val (.int c1), .val (.int c2), .val (.int c3), .val (.int kq), .val (.ref sb_29), .val (.ref sb_37), .unset, .unset] [(.int (pc_ &&& (255 : Int32)))])) _
      refine ownStep (fun _ k => XS.i2c X37.here hx rfl (hb hby at_142) rfl k) ?_
      show ownGo p.tables e below (T37.setTop (mkF m 143 #[.val (.int pa), .val (.int pb), .val (.int pc_), .val (.int pe), .val (.int pf), .val (.int (2 : Int32)), .val (.int (0 : Int32)), .val (.int kq), .val (.int c1), .val (.int c2), .val (.int c3), .val (.int kq), .val (.ref sb_29), .val (.ref sb_37), .unset, .unset] [(.int ((pc_ &&& (255 : Int32)).toUInt32.toUInt16.toUInt32.toInt32))])) _
      obtain ⟨f1, h_f1, l_f1, u_f1⟩ : ∃ z, ((pc_ &&& (255 : Int32)).toUInt32.toUInt16.toUInt32.toInt32) = z ∧ ¬ z < (0 : Int32) ∧ ¬ (255 : Int32) < z := own_char _
      rw [h_f1]
      show ownGo p.tables e below (T37.setTop (mkF m 143 #[.val (.int pa), .val (.int pb), .val (.int pc_), .val (.int pe), .val (.int pf), .val (.int (2 : Int32)), .val (.int (0 : Int32)), .val (.int kq), .val (.int c1), .val (.int c2), .val (.int c3), .val (.int kq), .val (.ref sb_29), .val (.ref sb_37), .unset, .unset] [(.int f1)])) _
      have Q41 : Old Z n0 T37.heap := (Q36.ext R37)
      have Zs43 : n0 ≤ T37.heap.size := Nat.le_trans Z0 KP40.1
      obtain ⟨_, _, ⟨T42, L42, k42, n42⟩, -, X42, ⟨Lc42, hQ42, l42, y42, z42⟩, st42⟩ := Jvm.LawKit.callS X37 hx (y := (⟨"java/lang/String", "valueOf", "(C)Ljava/lang/String;"⟩ : MethodName)) hown (mvT hZ (hw _ (List.mem_of_getElem? (i := 34) rfl))) (mvT hZ (hw _ (List.mem_of_getElem? (i := 35) rfl))) (mvT hZ (hw _ (List.mem_of_getElem? (i := 6) rfl))) (mvT hZ (hw _ (List.mem_of_getElem? (i := 36) rfl))) (by decide) (backOf (W := 0) (own_vo l Z a0 hw [] zc f1 T37.heap n0 Zs43 Q41 Scs hzc l_f1 u_f1) hZ (hw _ (List.mem_of_getElem? (i := 36) rfl)) (hw _ (List.mem_of_getElem? (i := 6) rfl)) (by decide) (by decide)) (g := (mkF m 143 #[.val (.int pa), .val (.int pb), .val (.int pc_), .val (.int pe), .val (.int pf), .val (.int (2 : Int32)), .val (.int (0 : Int32)), .val (.int kq), .val (.int c1), .val (.int c2), .val (.int c3), .val (.int kq), .val (.ref sb_29), .val (.ref sb_37), .unset, .unset] [(.int f1)])) rfl (by rw [hml]; rfl) (argsL := [(.int f1)]) (rest := []) (lenOf own_law_pd1 rfl) rfl (by show 2 * 0 + _ ≤ _; exact Nat.le_of_eq rfl) (hb hby at_143) (fun _ _ => ⟨rfl, rfl, (by decide : 5 + 2 ≤ _), (by decide : 13 + 5 ≤ _)⟩)
      dsimp only [Pt.U, Pt.locs, Pt.cells, Pt.slots] at X42 l42 y42 z42 st42 hQ42
      obtain rfl : k42 = 7 := y42
      obtain rfl : n42 = 18 := z42
      obtain ⟨sb_42, rfl, N42q, R42, P44⟩ := hQ42
      have N42 : Fr n0 L42 := l42 ▸ Fr.app N37 N42q
      refine ownStep (fun _ k => st42 _ k) ?_
      have KP45 : Keep h0 T42.heap [] := KP40.ext R42
      refine ownStep (fun _ k => XS.astore X42.here hx rfl (hb hby at_146) rfl rfl (l' := #[.val (.int pa), .val (.int pb), .val (.int pc_), .val (.int pe), .val (.int pf), .val (.int (2 : Int32)), .val (.int (0 : Int32)), .val (.int kq), .val (.int c1), .val (.int c2), .val (.int c3), .val (.int kq), .val (.ref sb_29), .val (.ref sb_37), .val (.ref sb_42), .unset]) rfl k) ?_
      refine ownStep (fun _ k => XS.aload X42.here hx rfl (hb hby at_148) rfl rfl k) ?_
      refine ownStep (fun _ k => XS.aload X42.here hx rfl (hb hby at_150) rfl rfl k) ?_
      refine ownStep (fun _ k => XS.aload X42.here hx rfl (hb hby at_152) rfl rfl k) ?_
      show ownGo p.tables e below (T42.setTop (mkF m 154 #[.val (.int pa), .val (.int pb), .val (.int pc_), .val (.int pe), .val (.int pf), .val (.int (2 : Int32)), .val (.int (0 : Int32)), .val (.int kq), .val (.int c1), .val (.int c2), .val (.int c3), .val (.int kq), .val (.ref sb_29), .val (.ref sb_37), .val (.ref sb_42), .unset] [(.ref sb_42), (.ref sb_37), (.ref sb_29)])) _
      have Q46 : Old Z n0 T42.heap := (Q41.ext R42)
      have Q47 : Exa Z T42.heap sb_29 "java/lang/String" := ((P31.ext R37).ext R42)
      have Q48 : Fld Z T42.heap sb_29 "java/lang/String" "coder" "B" (.int (0 : Int32)) := ((P32.ext R37).ext R42)
      have Q49 : Fld Z T42.heap sb_29 "java/lang/String" "value" "[B" (.ref tb_29) := ((P33.ext R37).ext R42)
      have Q50 : Arv Z T42.heap tb_29 kb_29 .byte (2 : Int32) [(.int kq.toInt8.toInt32), (.int c1.toInt8.toInt32)] (.int (0 : Int32)) := ((P34.ext R37).ext R42)
      have Zs52 : n0 ≤ T42.heap.size := Nat.le_trans Z0 KP45.1
      obtain ⟨_, _, ⟨T51, L51, k51, n51⟩, -, X51, ⟨Lc51, hQ51, l51, y51, z51⟩, st51⟩ := Jvm.LawKit.callS X42 hx (y := (⟨"com/example/circuline/circuline/circulation/Barcodes", "required", "(Ljava/lang/String;Ljava/lang/String;Ljava/lang/String;)Ljava/lang/String;"⟩ : MethodName)) hown (mvT hZ (hw _ (List.mem_of_getElem? (i := 48) rfl))) (mvT hZ (hw _ (List.mem_of_getElem? (i := 49) rfl))) (mvT hZ (hw _ (List.mem_of_getElem? (i := 50) rfl))) (mvT hZ (hw _ (List.mem_of_getElem? (i := 51) rfl))) (by decide) (backOf (W := 0) (own_req2 l Z a0 hw [] zc ci ta clt sb_29 tb_29 kb_29 kq c1 sb_37 sb_42 T42.heap n0 Zs52 Q46 Scs hzc Sci Eci Sca Tab Q47 Q48 Q49 Q50 l_kq u_kq l_c1 u_c1 (Or.inl kp_kq)) hZ (hw _ (List.mem_of_getElem? (i := 51) rfl)) (hw _ (List.mem_of_getElem? (i := 50) rfl)) (by decide) (by decide)) (g := (mkF m 154 #[.val (.int pa), .val (.int pb), .val (.int pc_), .val (.int pe), .val (.int pf), .val (.int (2 : Int32)), .val (.int (0 : Int32)), .val (.int kq), .val (.int c1), .val (.int c2), .val (.int c3), .val (.int kq), .val (.ref sb_29), .val (.ref sb_37), .val (.ref sb_42), .unset] [(.ref sb_42), (.ref sb_37), (.ref sb_29)])) rfl (by rw [hml]; rfl) (argsL := [(.ref sb_29), (.ref sb_37), (.ref sb_42)]) (rest := []) (lenOf own_law_pd2 rfl) rfl (by show 2 * 0 + _ ≤ _; exact Nat.le_of_eq rfl) (hb hby at_154) (fun _ _ => ⟨rfl, rfl, (by decide : 7 + 0 ≤ _), (by decide : 18 + 0 ≤ _)⟩)
      dsimp only [Pt.U, Pt.locs, Pt.cells, Pt.slots] at X51 l51 y51 z51 st51 hQ51
      obtain rfl : k51 = 7 := y51
      obtain rfl : n51 = 18 := z51
      obtain ⟨rfl, N51q, R51⟩ := hQ51
      have N51 : Fr n0 L51 := l51 ▸ Fr.app N42 N51q
      refine ownStep (fun _ k => st51 _ k) ?_
      refine ownStep (fun _ k => XS.astore X51.here hx rfl (hb hby at_157) rfl rfl (l' := #[.val (.int pa), .val (.int pb), .val (.int pc_), .val (.int pe), .val (.int pf), .val (.int (2 : Int32)), .val (.int (0 : Int32)), .val (.int kq), .val (.int c1), .val (.int c2), .val (.int c3), .val (.int kq), .val (.ref sb_29), .val (.ref sb_37), .val (.ref sb_42), .val (.ref sb_29)]) rfl k) ?_
      refine ownStep (fun _ k => XS.aload X51.here hx rfl (hb hby at_159) rfl rfl k) ?_
      refine ownStep (fun _ k => XS.ifnullNo X51.here hx rfl (hb hby at_161) rfl k) ?_
      refine ownStep (fun _ k => XS.aload X51.here hx rfl (hb hby at_164) rfl rfl k) ?_
      show ownGo p.tables e below (T51.setTop (mkF m 166 #[.val (.int pa), .val (.int pb), .val (.int pc_), .val (.int pe), .val (.int pf), .val (.int (2 : Int32)), .val (.int (0 : Int32)), .val (.int kq), .val (.int c1), .val (.int c2), .val (.int c3), .val (.int kq), .val (.ref sb_29), .val (.ref sb_37), .val (.ref sb_42), .val (.ref sb_29)] [(.ref sb_29)])) _
      have Zs54 : n0 ≤ T42.heap.size := Nat.le_trans Z0 KP45.1
      obtain ⟨cq53, kq53, q53a, q53b, q53c⟩ := isOf hZ R51 Q47
      obtain ⟨_, _, ⟨T53, L53, k53, n53⟩, -, X53, ⟨Lc53, hQ53, l53, y53, z53⟩, st53⟩ := X51.virtualBack hx (y := (⟨"java/lang/String", "length", "()I"⟩ : MethodName)) (z := (⟨"java/lang/String", "length", "()I"⟩ : MethodName)) hown (mvT hZ (hw _ (List.mem_of_getElem? (i := 96) rfl))) (mvT hZ (hw _ (List.mem_of_getElem? (i := 87) rfl))) (notFace_of_selects (args := #[]) (mvT hZ (hw _ (List.mem_of_getElem? (i := 89) rfl)))) (mvT hZ (hw _ (List.mem_of_getElem? (i := 89) rfl))) (mvT hZ (hw _ (List.mem_of_getElem? (i := 88) rfl))) (by decide) (backOf (W := 0) (own_len2 l Z a0 hw [] zc sb_29 tb_29 kb_29 kq c1 T42.heap n0 Zs54 Q46 Scs hzc Q47 Q48 Q49 Q50) hZ (hw _ (List.mem_of_getElem? (i := 90) rfl)) (hw _ (List.mem_of_getElem? (i := 6) rfl)) (by decide) (by decide)) q53a q53c (g := (mkF m 166 #[.val (.int pa), .val (.int pb), .val (.int pc_), .val (.int pe), .val (.int pf), .val (.int (2 : Int32)), .val (.int (0 : Int32)), .val (.int kq), .val (.int c1), .val (.int c2), .val (.int c3), .val (.int kq), .val (.ref sb_29), .val (.ref sb_37), .val (.ref sb_42), .val (.ref sb_29)] [(.ref sb_29)])) rfl (by rw [hml]; rfl) (Steps.refl _) (argsL := []) (rest := []) (lenOf own_law_pd3 rfl) rfl (by show 2 * 0 + _ ≤ _; exact Nat.le_of_eq rfl) (hb hby at_166) (fun _ _ => ⟨rfl, R51, (by decide : 7 + 0 ≤ _), (by decide : 18 + 0 ≤ _)⟩)
      dsimp only [Pt.U, Pt.locs, Pt.cells, Pt.slots] at X53 l53 y53 z53 st53 hQ53
      obtain rfl : k53 = 7 := y53
      obtain rfl : n53 = 18 := z53
      obtain ⟨rfl, N53q, R53⟩ := hQ53
      have N53 : Fr n0 L53 := l53 ▸ Fr.app N51 N53q
      refine ownStep (fun _ k => st53.trans k) ?_
      refine ownStep (fun _ k => XS.iload X53.here hx rfl (hb hby at_169) rfl  k) ?_
      refine ownStep (fun _ k => XS.icmpNo X53.here hx rfl (hb hby at_171) rfl (teq (by decide : (2 : Int32) = (2 : Int32))).2 k) ?_
      refine ownStep (fun _ k => XS.aload X53.here hx rfl (hb hby at_174) rfl rfl k) ?_
      refine ownStep (fun _ k => XS.aload X53.here hx rfl (hb hby at_176) rfl rfl k) ?_
      show ownGo p.tables e below (T53.setTop (mkF m 178 #[.val (.int pa), .val (.int pb), .val (.int pc_), .val (.int pe), .val (.int pf), .val (.int (2 : Int32)), .val (.int (0 : Int32)), .val (.int kq), .val (.int c1), .val (.int c2), .val (.int c3), .val (.int kq), .val (.ref sb_29), .val (.ref sb_37), .val (.ref sb_42), .val (.ref sb_29)] [(.ref sb_29), (.ref sb_29)])) _
      have Zs56 : n0 ≤ T42.heap.size := Nat.le_trans Z0 KP45.1
      obtain ⟨cq55, kq55, q55a, q55b, q55c⟩ := isOf hZ R53 Q47
      obtain ⟨_, _, ⟨T55, L55, k55, n55⟩, -, X55, ⟨Lc55, hQ55, l55, y55, z55⟩, st55⟩ := X53.virtualBack hx (y := (⟨"java/lang/String", "equals", "(Ljava/lang/Object;)Z"⟩ : MethodName)) (z := (⟨"java/lang/String", "equals", "(Ljava/lang/Object;)Z"⟩ : MethodName)) hown (mvT hZ (hw _ (List.mem_of_getElem? (i := 97) rfl))) (mvT hZ (hw _ (List.mem_of_getElem? (i := 98) rfl))) (notFace_of_selects (args := #[]) (mvT hZ (hw _ (List.mem_of_getElem? (i := 100) rfl)))) (mvT hZ (hw _ (List.mem_of_getElem? (i := 100) rfl))) (mvT hZ (hw _ (List.mem_of_getElem? (i := 99) rfl))) (by decide) (backOf (W := 0) (own_eq l Z a0 hw [] sb_29 T42.heap n0 Zs56 ) hZ (hw _ (List.mem_of_getElem? (i := 101) rfl)) (hw _ (List.mem_of_getElem? (i := 6) rfl)) (by decide) (by decide)) q55a q55c (g := (mkF m 178 #[.val (.int pa), .val (.int pb), .val (.int pc_), .val (.int pe), .val (.int pf), .val (.int (2 : Int32)), .val (.int (0 : Int32)), .val (.int kq), .val (.int c1), .val (.int c2), .val (.int c3), .val (.int kq), .val (.ref sb_29), .val (.ref sb_37), .val (.ref sb_42), .val (.ref sb_29)] [(.ref sb_29), (.ref sb_29)])) rfl (by rw [hml]; rfl) (Steps.refl _) (argsL := [(.ref sb_29)]) (rest := []) (lenOf own_law_pd4 rfl) rfl (by show 2 * 0 + _ ≤ _; exact Nat.le_of_eq rfl) (hb hby at_178) (fun _ _ => ⟨rfl, R53, (by decide : 7 + 0 ≤ _), (by decide : 18 + 0 ≤ _)⟩)
      dsimp only [Pt.U, Pt.locs, Pt.cells, Pt.slots] at X55 l55 y55 z55 st55 hQ55
      obtain rfl : k55 = 7 := y55
      obtain rfl : n55 = 18 := z55
      obtain ⟨rfl, N55q, R55⟩ := hQ55
      have N55 : Fr n0 L55 := l55 ▸ Fr.app N53 N55q
      refine ownStep (fun _ k => st55.trans k) ?_
      refine ownStep (fun _ k => XS.ifNo X55.here hx rfl (hb hby at_181) rfl ((if0 _ _).trans (feq (by decide : ¬ (1 : Int32) = (0 : Int32))).1) k) ?_
      refine ownStep (fun _ k => XS.iconst X55.here hx rfl (hb hby at_184) k) ?_
      refine ownStep (fun _ k => XS.goto X55.here hx rfl (pc0 := 185) (pc' := 189) rfl (hb hby at_185) (by decide) (by decide) k) ?_
      show ownGo p.tables e below (T55.setTop (mkF m 189 #[.val (.int pa), .val (.int pb), .val (.int pc_), .val (.int pe), .val (.int pf), .val (.int (2 : Int32)), .val (.int (0 : Int32)), .val (.int kq), .val (.int c1), .val (.int c2), .val (.int c3), .val (.int kq), .val (.ref sb_29), .val (.ref sb_37), .val (.ref sb_42), .val (.ref sb_29)] [(.int (1 : Int32))])) _
      exact ownRet X55 (v := some (.int (1 : Int32))) Bd.notSynchronized (fun h => by rw [Bd.returns] at h; cases h) (fun _ hr => retN X55 hx (t := .boolean) Bd.returns (by simp) (hb hby at_189) hr) (by rw [R55]; exact ⟨rfl, N55, (own_extOf KP45)⟩) (by decide) (by decide)
    · skip
      rw [hk]
      refine ownStep (fun _ k => XS.istore X0.here hx rfl (hb hby at_13) rfl (l' := #[.val (.int pa), .val (.int pb), .val (.int pc_), .val (.int pe), .val (.int pf), .val (.int (2 : Int32)), .val (.int (1 : Int32)), .unset, .unset, .unset, .unset, .unset, .unset, .unset, .unset, .unset]) rfl k) ?_
      refine ownStep (fun _ k => XS.iloadN X0.here hx rfl (hb hby at_15) rfl  k) ?_
      refine ownStep (fun _ k => XS.sipush X0.here hx rfl (hb hby at_16) k) ?_
      refine ownStep (fun _ k => XS.iand X0.here hx rfl (hb hby at_19) rfl k) ?_
      show ownGo p.tables e below (s₁.setTop (mkF m 20 #[.val (.int pa), .val (.int pb), .val (.int pc_), .val (.int pe), .val (.int pf), .val (.int (2 : Int32)), .val (.int (1 : Int32)), .unset, .unset, .unset, .unset, .unset, .unset, .unset, .unset, .unset] [(.int (pa &&& (255 : Int32)))])) _
      refine ownStep (fun _ k => XS.i2c X0.here hx rfl (hb hby at_20) rfl k) ?_
      show ownGo p.tables e below (s₁.setTop (mkF m 21 #[.val (.int pa), .val (.int pb), .val (.int pc_), .val (.int pe), .val (.int pf), .val (.int (2 : Int32)), .val (.int (1 : Int32)), .unset, .unset, .unset, .unset, .unset, .unset, .unset, .unset, .unset] [(.int ((pa &&& (255 : Int32)).toUInt32.toUInt16.toUInt32.toInt32))])) _
      obtain ⟨c0, h_c0, l_c0, u_c0⟩ : ∃ z, ((pa &&& (255 : Int32)).toUInt32.toUInt16.toUInt32.toInt32) = z ∧ ¬ z < (0 : Int32) ∧ ¬ (255 : Int32) < z := own_char _
      rw [h_c0]
      refine ownStep (fun _ k => XS.istore X0.here hx rfl (hb hby at_21) rfl (l' := #[.val (.int pa), .val (.int pb), .val (.int pc_), .val (.int pe), .val (.int pf), .val (.int (2 : Int32)), .val (.int (1 : Int32)), .val (.int c0), .unset, .unset, .unset, .unset, .unset, .unset, .unset, .unset]) rfl k) ?_
      refine ownStep (fun _ k => XS.iloadN X0.here hx rfl (hb hby at_23) rfl  k) ?_
      refine ownStep (fun _ k => XS.bipush X0.here hx rfl (hb hby at_24) k) ?_
      refine ownStep (fun _ k => XS.iushr X0.here hx rfl (hb hby at_26) rfl k) ?_
      show ownGo p.tables e below (s₁.setTop (mkF m 27 #[.val (.int pa), .val (.int pb), .val (.int pc_), .val (.int pe), .val (.int pf), .val (.int (2 : Int32)), .val (.int (1 : Int32)), .val (.int c0), .unset, .unset, .unset, .unset, .unset, .unset, .unset, .unset] [(.int ((pa.toUInt32 >>> ((8 : Int32) &&& 31).toUInt32).toInt32))])) _
      refine ownStep (fun _ k => XS.sipush X0.here hx rfl (hb hby at_27) k) ?_
      refine ownStep (fun _ k => XS.iand X0.here hx rfl (hb hby at_30) rfl k) ?_
      refine ownStep (fun _ k => XS.i2c X0.here hx rfl (hb hby at_31) rfl k) ?_
      show ownGo p.tables e below (s₁.setTop (mkF m 32 #[.val (.int pa), .val (.int pb), .val (.int pc_), .val (.int pe), .val (.int pf), .val (.int (2 : Int32)), .val (.int (1 : Int32)), .val (.int c0), .unset, .unset, .unset, .unset, .unset, .unset, .unset, .unset] [(.int ((((pa.toUInt32 >>> ((8 : Int32) &&& 31).toUInt32).toInt32) &&& (255 : Int32)).toUInt32.toUInt16.toUInt32.toInt32))])) _
      obtain ⟨c1, h_c1, l_c1, u_c1⟩ : ∃ z, ((((pa.toUInt32 >>> ((8 : Int32) &&& 31).toUInt32).toInt32) &&& (255 : Int32)).toUInt32.toUInt16.toUInt32.toInt32) = z ∧ ¬ z < (0 : Int32) ∧ ¬ (255 : Int32) < z := own_char _
      rw [h_c1]
      refine ownStep (fun _ k => XS.istore X0.here hx rfl (hb hby at_32) rfl (l' := #[.val (.int pa), .val (.int pb), .val (.int pc_), .val (.int pe), .val (.int pf), .val (.int (2 : Int32)), .val (.int (1 : Int32)), .val (.int c0), .val (.int c1), .unset, .unset, .unset, .unset, .unset, .unset, .unset]) rfl k) ?_
      refine ownStep (fun _ k => XS.iloadN X0.here hx rfl (hb hby at_34) rfl  k) ?_
      refine ownStep (fun _ k => XS.bipush X0.here hx rfl (hb hby at_35) k) ?_
      refine ownStep (fun _ k => XS.iushr X0.here hx rfl (hb hby at_37) rfl k) ?_
      show ownGo p.tables e below (s₁.setTop (mkF m 38 #[.val (.int pa), .val (.int pb), .val (.int pc_), .val (.int pe), .val (.int pf), .val (.int (2 : Int32)), .val (.int (1 : Int32)), .val (.int c0), .val (.int c1), .unset, .unset, .unset, .unset, .unset, .unset, .unset] [(.int ((pa.toUInt32 >>> ((16 : Int32) &&& 31).toUInt32).toInt32))])) _
      refine ownStep (fun _ k => XS.sipush X0.here hx rfl (hb hby at_38) k) ?_
      refine ownStep (fun _ k => XS.iand X0.here hx rfl (hb hby at_41) rfl k) ?_
      refine ownStep (fun _ k => XS.i2c X0.here hx rfl (hb hby at_42) rfl k) ?_
      show ownGo p.tables e below (s₁.setTop (mkF m 43 #[.val (.int pa), .val (.int pb), .val (.int pc_), .val (.int pe), .val (.int pf), .val (.int (2 : Int32)), .val (.int (1 : Int32)), .val (.int c0), .val (.int c1), .unset, .unset, .unset, .unset, .unset, .unset, .unset] [(.int ((((pa.toUInt32 >>> ((16 : Int32) &&& 31).toUInt32).toInt32) &&& (255 : Int32)).toUInt32.toUInt16.toUInt32.toInt32))])) _
      obtain ⟨c2, h_c2, l_c2, u_c2⟩ : ∃ z, ((((pa.toUInt32 >>> ((16 : Int32) &&& 31).toUInt32).toInt32) &&& (255 : Int32)).toUInt32.toUInt16.toUInt32.toInt32) = z ∧ ¬ z < (0 : Int32) ∧ ¬ (255 : Int32) < z := own_char _
      rw [h_c2]
      refine ownStep (fun _ k => XS.istore X0.here hx rfl (hb hby at_43) rfl (l' := #[.val (.int pa), .val (.int pb), .val (.int pc_), .val (.int pe), .val (.int pf), .val (.int (2 : Int32)), .val (.int (1 : Int32)), .val (.int c0), .val (.int c1), .val (.int c2), .unset, .unset, .unset, .unset, .unset, .unset]) rfl k) ?_
      refine ownStep (fun _ k => XS.iloadN X0.here hx rfl (hb hby at_45) rfl  k) ?_
      refine ownStep (fun _ k => XS.bipush X0.here hx rfl (hb hby at_46) k) ?_
      refine ownStep (fun _ k => XS.iushr X0.here hx rfl (hb hby at_48) rfl k) ?_
      show ownGo p.tables e below (s₁.setTop (mkF m 49 #[.val (.int pa), .val (.int pb), .val (.int pc_), .val (.int pe), .val (.int pf), .val (.int (2 : Int32)), .val (.int (1 : Int32)), .val (.int c0), .val (.int c1), .val (.int c2), .unset, .unset, .unset, .unset, .unset, .unset] [(.int ((pa.toUInt32 >>> ((24 : Int32) &&& 31).toUInt32).toInt32))])) _
      refine ownStep (fun _ k => XS.sipush X0.here hx rfl (hb hby at_49) k) ?_
      refine ownStep (fun _ k => XS.iand X0.here hx rfl (hb hby at_52) rfl k) ?_
      refine ownStep (fun _ k => XS.i2c X0.here hx rfl (hb hby at_53) rfl k) ?_
      show ownGo p.tables e below (s₁.setTop (mkF m 54 #[.val (.int pa), .val (.int pb), .val (.int pc_), .val (.int pe), .val (.int pf), .val (.int (2 : Int32)), .val (.int (1 : Int32)), .val (.int c0), .val (.int c1), .val (.int c2), .unset, .unset, .unset, .unset, .unset, .unset] [(.int ((((pa.toUInt32 >>> ((24 : Int32) &&& 31).toUInt32).toInt32) &&& (255 : Int32)).toUInt32.toUInt16.toUInt32.toInt32))])) _
      obtain ⟨c3, h_c3, l_c3, u_c3⟩ : ∃ z, ((((pa.toUInt32 >>> ((24 : Int32) &&& 31).toUInt32).toInt32) &&& (255 : Int32)).toUInt32.toUInt16.toUInt32.toInt32) = z ∧ ¬ z < (0 : Int32) ∧ ¬ (255 : Int32) < z := own_char _
      rw [h_c3]
      refine ownStep (fun _ k => XS.istore X0.here hx rfl (hb hby at_54) rfl (l' := #[.val (.int pa), .val (.int pb), .val (.int pc_), .val (.int pe), .val (.int pf), .val (.int (2 : Int32)), .val (.int (1 : Int32)), .val (.int c0), .val (.int c1), .val (.int c2), .val (.int c3), .unset, .unset, .unset, .unset, .unset]) rfl k) ?_
      refine ownStep (fun _ k => XS.bipush X0.here hx rfl (hb hby at_56) k) ?_
      refine ownStep (fun _ k => XS.iload X0.here hx rfl (hb hby at_58) rfl  k) ?_
      refine ownStep (fun _ k => XS.iconst X0.here hx rfl (hb hby at_60) k) ?_
      show ownGo p.tables e below (s₁.setTop (mkF m 61 #[.val (.int pa), .val (.int pb), .val (.int pc_), .val (.int pe), .val (.int pf), .val (.int (2 : Int32)), .val (.int (1 : Int32)), .val (.int c0), .val (.int c1), .val (.int c2), .val (.int c3), .unset, .unset, .unset, .unset, .unset] [(.int (1 : Int32)), (.int pf), (.int (33 : Int32))])) _
      refine ownStep (fun _ k => XS.iushr X0.here hx rfl (hb hby at_61) rfl k) ?_
      refine ownStep (fun _ k => XS.bipush X0.here hx rfl (hb hby at_62) k) ?_
      show ownGo p.tables e below (s₁.setTop (mkF m 64 #[.val (.int pa), .val (.int pb), .val (.int pc_), .val (.int pe), .val (.int pf), .val (.int (2 : Int32)), .val (.int (1 : Int32)), .val (.int c0), .val (.int c1), .val (.int c2), .val (.int c3), .unset, .unset, .unset, .unset, .unset] [(.int (94 : Int32)), (.int ((pf.toUInt32 >>> ((1 : Int32) &&& 31).toUInt32).toInt32)), (.int (33 : Int32))])) _
      refine ownStep (fun _ k => iremM X0 hx rfl (hb hby at_64) rfl (by decide) k) ?_
      refine ownStep (fun _ k => XS.iadd X0.here hx rfl (hb hby at_65) rfl k) ?_
      refine ownStep (fun _ k => XS.i2c X0.here hx rfl (hb hby at_66) rfl k) ?_
      show ownGo p.tables e below (s₁.setTop (mkF m 67 #[.val (.int pa), .val (.int pb), .val (.int pc_), .val (.int pe), .val (.int pf), .val (.int (2 : Int32)), .val (.int (1 : Int32)), .val (.int c0), .val (.int c1), .val (.int c2), .val (.int c3), .unset, .unset, .unset, .unset, .unset] [(.int (((33 : Int32) + (((pf.toUInt32 >>> ((1 : Int32) &&& 31).toUInt32).toInt32) % (94 : Int32))).toUInt32.toUInt16.toUInt32.toInt32))])) _
      obtain ⟨kq, h_kq, l_kq, u_kq, kp_kq⟩ : ∃ z, (((33 : Int32) + (((pf.toUInt32 >>> ((1 : Int32) &&& 31).toUInt32).toInt32) % (94 : Int32))).toUInt32.toUInt16.toUInt32.toInt32) = z ∧ ¬ z < (0 : Int32) ∧ ¬ (255 : Int32) < z ∧ own_keep z := own_keepv pf
      rw [h_kq]
      refine ownStep (fun _ k => XS.istore X0.here hx rfl (hb hby at_67) rfl (l' := #[.val (.int pa), .val (.int pb), .val (.int pc_), .val (.int pe), .val (.int pf), .val (.int (2 : Int32)), .val (.int (1 : Int32)), .val (.int c0), .val (.int c1), .val (.int c2), .val (.int c3), .val (.int kq), .unset, .unset, .unset, .unset]) rfl k) ?_
      refine ownStep (fun _ k => XS.iload X0.here hx rfl (hb hby at_69) rfl  k) ?_
      refine ownStep (fun _ k => XS.ifYes X0.here hx rfl (pc0 := 71) (pc' := 81) rfl (hb hby at_71) rfl ((if0 _ _).trans (feq (by decide : ¬ (1 : Int32) = (0 : Int32))).2) (by decide) (by decide) k) ?_
      refine ownStep (fun _ k => XS.iload X0.here hx rfl (hb hby at_81) rfl  k) ?_
      show ownGo p.tables e below (s₁.setTop (mkF m 83 #[.val (.int pa), .val (.int pb), .val (.int pc_), .val (.int pe), .val (.int pf), .val (.int (2 : Int32)), .val (.int (1 : Int32)), .val (.int c0), .val (.int c1), .val (.int c2), .val (.int c3), .val (.int kq), .unset, .unset, .unset, .unset] [(.int (1 : Int32))])) _
      refine ownStep (fun _ k => XS.iconst X0.here hx rfl (hb hby at_83) k) ?_
      refine ownStep (fun _ k => XS.icmpNo X0.here hx rfl (hb hby at_84) rfl (teq (by decide : (1 : Int32) = (1 : Int32))).2 k) ?_
      refine ownStep (fun _ k => XS.iload X0.here hx rfl (hb hby at_87) rfl  k) ?_
      refine ownStep (fun _ k => XS.istore X0.here hx rfl (hb hby at_89) rfl (l' := #[.val (.int pa), .val (.int pb), .val (.int pc_), .val (.int pe), .val (.int pf), .val (.int (2 : Int32)), .val (.int (1 : Int32)), .val (.int c0), .val (.int kq), .val (.int c2), .val (.int c3), .val (.int kq), .unset, .unset, .unset, .unset]) rfl k) ?_
      refine ownStep (fun _ k => XS.goto X0.here hx rfl (pc0 := 91) (pc' := 111) rfl (hb hby at_91) (by decide) (by decide) k) ?_
      show ownGo p.tables e below (s₁.setTop (mkF m 111 #[.val (.int pa), .val (.int pb), .val (.int pc_), .val (.int pe), .val (.int pf), .val (.int (2 : Int32)), .val (.int (1 : Int32)), .val (.int c0), .val (.int kq), .val (.int c2), .val (.int c3), .val (.int kq), .unset, .unset, .unset, .unset] [])) _
      refine ownStep (fun _ k => XS.iload X0.here hx rfl (hb hby at_111) rfl  k) ?_
      refine ownStep (fun _ k => XS.iload X0.here hx rfl (hb hby at_113) rfl  k) ?_
      refine ownStep (fun _ k => XS.iload X0.here hx rfl (hb hby at_115) rfl  k) ?_
      refine ownStep (fun _ k => XS.iload X0.here hx rfl (hb hby at_117) rfl  k) ?_
      refine ownStep (fun _ k => XS.iload X0.here hx rfl (hb hby at_119) rfl  k) ?_
      show ownGo p.tables e below (s₁.setTop (mkF m 121 #[.val (.int pa), .val (.int pb), .val (.int pc_), .val (.int pe), .val (.int pf), .val (.int (2 : Int32)), .val (.int (1 : Int32)), .val (.int c0), .val (.int kq), .val (.int c2), .val (.int c3), .val (.int kq), .unset, .unset, .unset, .unset] [(.int c3), (.int c2), (.int kq), (.int c0), (.int (2 : Int32))])) _
      have Zs58 : n0 ≤ h0.size := Nat.le_trans Z0 KP0.1
      obtain ⟨_, _, ⟨T57, L57, k57, n57⟩, -, X57, ⟨Lc57, hQ57, l57, y57, z57⟩, st57⟩ := Jvm.LawKit.callS X0 hx (y := (⟨"com/example/circuline/circuline/circulation/BarcodesRequiredPinLaw", "make", "(ICCCC)Ljava/lang/String;"⟩ : MethodName)) hown (mvT hZ (hw _ (List.mem_of_getElem? (i := 0) rfl))) (mvT hZ (hw _ (List.mem_of_getElem? (i := 1) rfl))) (mvT hZ (hw _ (List.mem_of_getElem? (i := 2) rfl))) (mvT hZ (hw _ (List.mem_of_getElem? (i := 3) rfl))) (by decide) (backOf (W := 0) (own_mk2 l Z a0 hw [] zc c0 kq c2 c3 h0 n0 Zs58 hOld Scs hzc l_c0 u_c0 l_kq u_kq l_c2 u_c2 l_c3 u_c3) hZ (hw _ (List.mem_of_getElem? (i := 3) rfl)) (hw _ (List.mem_of_getElem? (i := 2) rfl)) (by decide) (by decide)) (g := (mkF m 121 #[.val (.int pa), .val (.int pb), .val (.int pc_), .val (.int pe), .val (.int pf), .val (.int (2 : Int32)), .val (.int (1 : Int32)), .val (.int c0), .val (.int kq), .val (.int c2), .val (.int c3), .val (.int kq), .unset, .unset, .unset, .unset] [(.int c3), (.int c2), (.int kq), (.int c0), (.int (2 : Int32))])) rfl (by rw [hml]; rfl) (argsL := [(.int (2 : Int32)), (.int c0), (.int kq), (.int c2), (.int c3)]) (rest := []) (lenOf own_law_pd0 rfl) rfl (by show 2 * 0 + _ ≤ _; exact Nat.le_of_eq rfl) (hb hby at_121) (fun _ _ => ⟨rfl, e0, (by decide : 0 + 3 ≤ _), (by decide : 0 + 8 ≤ _)⟩)
      dsimp only [Pt.U, Pt.locs, Pt.cells, Pt.slots] at X57 l57 y57 z57 st57 hQ57
      obtain rfl : k57 = 3 := y57
      obtain rfl : n57 = 8 := z57
      obtain ⟨sb_57, tb_57, kb_57, rfl, N57q, R57, P59, P60, P61, P62⟩ := hQ57
      have N57 : Fr n0 L57 := l57 ▸ Fr.app N0 N57q
      refine ownStep (fun _ k => st57 _ k) ?_
      have KP63 : Keep h0 T57.heap [] := KP0.ext R57
      refine ownStep (fun _ k => XS.astore X57.here hx rfl (hb hby at_124) rfl rfl (l' := #[.val (.int pa), .val (.int pb), .val (.int pc_), .val (.int pe), .val (.int pf), .val (.int (2 : Int32)), .val (.int (1 : Int32)), .val (.int c0), .val (.int kq), .val (.int c2), .val (.int c3), .val (.int kq), .val (.ref sb_57), .unset, .unset, .unset]) rfl k) ?_
      refine ownStep (fun _ k => XS.iloadN X57.here hx rfl (hb hby at_126) rfl  k) ?_
      refine ownStep (fun _ k => XS.sipush X57.here hx rfl (hb hby at_127) k) ?_
      refine ownStep (fun _ k => XS.iand X57.here hx rfl (hb hby at_130) rfl k) ?_
      show ownGo p.tables e below (T57.setTop (mkF m 131 #[.val (.int pa), .val (.int pb), .val (.int pc_), .val (.int pe), .val (.int pf), .val (.int (2 : Int32)), .val (.int (1 : Int32)), .val (.int c0), .val (.int kq), .val (.int c2), .val (.int c3), .val (.int kq), .val (.ref sb_57), .unset, .unset, .unset] [(.int (pb &&& (255 : Int32)))])) _
      refine ownStep (fun _ k => XS.i2c X57.here hx rfl (hb hby at_131) rfl k) ?_
      show ownGo p.tables e below (T57.setTop (mkF m 132 #[.val (.int pa), .val (.int pb), .val (.int pc_), .val (.int pe), .val (.int pf), .val (.int (2 : Int32)), .val (.int (1 : Int32)), .val (.int c0), .val (.int kq), .val (.int c2), .val (.int c3), .val (.int kq), .val (.ref sb_57), .unset, .unset, .unset] [(.int ((pb &&& (255 : Int32)).toUInt32.toUInt16.toUInt32.toInt32))])) _
      obtain ⟨f0, h_f0, l_f0, u_f0⟩ : ∃ z, ((pb &&& (255 : Int32)).toUInt32.toUInt16.toUInt32.toInt32) = z ∧ ¬ z < (0 : Int32) ∧ ¬ (255 : Int32) < z := own_char _
      rw [h_f0]
      show ownGo p.tables e below (T57.setTop (mkF m 132 #[.val (.int pa), .val (.int pb), .val (.int pc_), .val (.int pe), .val (.int pf), .val (.int (2 : Int32)), .val (.int (1 : Int32)), .val (.int c0), .val (.int kq), .val (.int c2), .val (.int c3), .val (.int kq), .val (.ref sb_57), .unset, .unset, .unset] [(.int f0)])) _
      have Q64 : Old Z n0 T57.heap := (hOld.ext R57)
      have Zs66 : n0 ≤ T57.heap.size := Nat.le_trans Z0 KP63.1
      obtain ⟨_, _, ⟨T65, L65, k65, n65⟩, -, X65, ⟨Lc65, hQ65, l65, y65, z65⟩, st65⟩ := Jvm.LawKit.callS X57 hx (y := (⟨"java/lang/String", "valueOf", "(C)Ljava/lang/String;"⟩ : MethodName)) hown (mvT hZ (hw _ (List.mem_of_getElem? (i := 34) rfl))) (mvT hZ (hw _ (List.mem_of_getElem? (i := 35) rfl))) (mvT hZ (hw _ (List.mem_of_getElem? (i := 6) rfl))) (mvT hZ (hw _ (List.mem_of_getElem? (i := 36) rfl))) (by decide) (backOf (W := 0) (own_vo l Z a0 hw [] zc f0 T57.heap n0 Zs66 Q64 Scs hzc l_f0 u_f0) hZ (hw _ (List.mem_of_getElem? (i := 36) rfl)) (hw _ (List.mem_of_getElem? (i := 6) rfl)) (by decide) (by decide)) (g := (mkF m 132 #[.val (.int pa), .val (.int pb), .val (.int pc_), .val (.int pe), .val (.int pf), .val (.int (2 : Int32)), .val (.int (1 : Int32)), .val (.int c0), .val (.int kq), .val (.int c2), .val (.int c3), .val (.int kq), .val (.ref sb_57), .unset, .unset, .unset] [(.int f0)])) rfl (by rw [hml]; rfl) (argsL := [(.int f0)]) (rest := []) (lenOf own_law_pd1 rfl) rfl (by show 2 * 0 + _ ≤ _; exact Nat.le_of_eq rfl) (hb hby at_132) (fun _ _ => ⟨rfl, rfl, (by decide : 3 + 2 ≤ _), (by decide : 8 + 5 ≤ _)⟩)
      dsimp only [Pt.U, Pt.locs, Pt.cells, Pt.slots] at X65 l65 y65 z65 st65 hQ65
      obtain rfl : k65 = 5 := y65
      obtain rfl : n65 = 13 := z65
      obtain ⟨sb_65, rfl, N65q, R65, P67⟩ := hQ65
      have N65 : Fr n0 L65 := l65 ▸ Fr.app N57 N65q
      refine ownStep (fun _ k => st65 _ k) ?_
      have KP68 : Keep h0 T65.heap [] := KP63.ext R65
      refine ownStep (fun _ k => XS.astore X65.here hx rfl (hb hby at_135) rfl rfl (l' := #[.val (.int pa), .val (.int pb), .val (.int pc_), .val (.int pe), .val (.int pf), .val (.int (2 : Int32)), .val (.int (1 : Int32)), .val (.int c0), .val (.int kq), .val (.int c2), .val (.int c3), .val (.int kq), .val (.ref sb_57), .val (.ref sb_65), .unset, .unset]) rfl k) ?_
      refine ownStep (fun _ k => XS.iloadN X65.here hx rfl (hb hby at_137) rfl  k) ?_
      refine ownStep (fun _ k => XS.sipush X65.here hx rfl (hb hby at_138) k) ?_
      refine ownStep (fun _ k => XS.iand X65.here hx rfl (hb hby at_141) rfl k) ?_
      show ownGo p.tables e below (T65.setTop (mkF m 142 #[.val (.int pa), .val (.int pb), .val (.int pc_), .val (.int pe), .val (.int pf), .val (.int (2 : Int32)), .val (.int (1 : Int32)), .val (.int c0), .val (.int kq), .val (.int c2), .val (.int c3), .val (.int kq), .val (.ref sb_57), .val (.ref sb_65), .unset, .unset] [(.int (pc_ &&& (255 : Int32)))])) _
      refine ownStep (fun _ k => XS.i2c X65.here hx rfl (hb hby at_142) rfl k) ?_
      show ownGo p.tables e below (T65.setTop (mkF m 143 #[.val (.int pa), .val (.int pb), .val (.int pc_), .val (.int pe), .val (.int pf), .val (.int (2 : Int32)), .val (.int (1 : Int32)), .val (.int c0), .val (.int kq), .val (.int c2), .val (.int c3), .val (.int kq), .val (.ref sb_57), .val (.ref sb_65), .unset, .unset] [(.int ((pc_ &&& (255 : Int32)).toUInt32.toUInt16.toUInt32.toInt32))])) _
      obtain ⟨f1, h_f1, l_f1, u_f1⟩ : ∃ z, ((pc_ &&& (255 : Int32)).toUInt32.toUInt16.toUInt32.toInt32) = z ∧ ¬ z < (0 : Int32) ∧ ¬ (255 : Int32) < z := own_char _
      rw [h_f1]
      show ownGo p.tables e below (T65.setTop (mkF m 143 #[.val (.int pa), .val (.int pb), .val (.int pc_), .val (.int pe), .val (.int pf), .val (.int (2 : Int32)), .val (.int (1 : Int32)), .val (.int c0), .val (.int kq), .val (.int c2), .val (.int c3), .val (.int kq), .val (.ref sb_57), .val (.ref sb_65), .unset, .unset] [(.int f1)])) _
      have Q69 : Old Z n0 T65.heap := (Q64.ext R65)
      have Zs71 : n0 ≤ T65.heap.size := Nat.le_trans Z0 KP68.1
      obtain ⟨_, _, ⟨T70, L70, k70, n70⟩, -, X70, ⟨Lc70, hQ70, l70, y70, z70⟩, st70⟩ := Jvm.LawKit.callS X65 hx (y := (⟨"java/lang/String", "valueOf", "(C)Ljava/lang/String;"⟩ : MethodName)) hown (mvT hZ (hw _ (List.mem_of_getElem? (i := 34) rfl))) (mvT hZ (hw _ (List.mem_of_getElem? (i := 35) rfl))) (mvT hZ (hw _ (List.mem_of_getElem? (i := 6) rfl))) (mvT hZ (hw _ (List.mem_of_getElem? (i := 36) rfl))) (by decide) (backOf (W := 0) (own_vo l Z a0 hw [] zc f1 T65.heap n0 Zs71 Q69 Scs hzc l_f1 u_f1) hZ (hw _ (List.mem_of_getElem? (i := 36) rfl)) (hw _ (List.mem_of_getElem? (i := 6) rfl)) (by decide) (by decide)) (g := (mkF m 143 #[.val (.int pa), .val (.int pb), .val (.int pc_), .val (.int pe), .val (.int pf), .val (.int (2 : Int32)), .val (.int (1 : Int32)), .val (.int c0), .val (.int kq), .val (.int c2), .val (.int c3), .val (.int kq), .val (.ref sb_57), .val (.ref sb_65), .unset, .unset] [(.int f1)])) rfl (by rw [hml]; rfl) (argsL := [(.int f1)]) (rest := []) (lenOf own_law_pd1 rfl) rfl (by show 2 * 0 + _ ≤ _; exact Nat.le_of_eq rfl) (hb hby at_143) (fun _ _ => ⟨rfl, rfl, (by decide : 5 + 2 ≤ _), (by decide : 13 + 5 ≤ _)⟩)
      dsimp only [Pt.U, Pt.locs, Pt.cells, Pt.slots] at X70 l70 y70 z70 st70 hQ70
      obtain rfl : k70 = 7 := y70
      obtain rfl : n70 = 18 := z70
      obtain ⟨sb_70, rfl, N70q, R70, P72⟩ := hQ70
      have N70 : Fr n0 L70 := l70 ▸ Fr.app N65 N70q
      refine ownStep (fun _ k => st70 _ k) ?_
      have KP73 : Keep h0 T70.heap [] := KP68.ext R70
      refine ownStep (fun _ k => XS.astore X70.here hx rfl (hb hby at_146) rfl rfl (l' := #[.val (.int pa), .val (.int pb), .val (.int pc_), .val (.int pe), .val (.int pf), .val (.int (2 : Int32)), .val (.int (1 : Int32)), .val (.int c0), .val (.int kq), .val (.int c2), .val (.int c3), .val (.int kq), .val (.ref sb_57), .val (.ref sb_65), .val (.ref sb_70), .unset]) rfl k) ?_
      refine ownStep (fun _ k => XS.aload X70.here hx rfl (hb hby at_148) rfl rfl k) ?_
      refine ownStep (fun _ k => XS.aload X70.here hx rfl (hb hby at_150) rfl rfl k) ?_
      refine ownStep (fun _ k => XS.aload X70.here hx rfl (hb hby at_152) rfl rfl k) ?_
      show ownGo p.tables e below (T70.setTop (mkF m 154 #[.val (.int pa), .val (.int pb), .val (.int pc_), .val (.int pe), .val (.int pf), .val (.int (2 : Int32)), .val (.int (1 : Int32)), .val (.int c0), .val (.int kq), .val (.int c2), .val (.int c3), .val (.int kq), .val (.ref sb_57), .val (.ref sb_65), .val (.ref sb_70), .unset] [(.ref sb_70), (.ref sb_65), (.ref sb_57)])) _
      have Q74 : Old Z n0 T70.heap := (Q69.ext R70)
      have Q75 : Exa Z T70.heap sb_57 "java/lang/String" := ((P59.ext R65).ext R70)
      have Q76 : Fld Z T70.heap sb_57 "java/lang/String" "coder" "B" (.int (0 : Int32)) := ((P60.ext R65).ext R70)
      have Q77 : Fld Z T70.heap sb_57 "java/lang/String" "value" "[B" (.ref tb_57) := ((P61.ext R65).ext R70)
      have Q78 : Arv Z T70.heap tb_57 kb_57 .byte (2 : Int32) [(.int c0.toInt8.toInt32), (.int kq.toInt8.toInt32)] (.int (0 : Int32)) := ((P62.ext R65).ext R70)
      have Zs80 : n0 ≤ T70.heap.size := Nat.le_trans Z0 KP73.1
      obtain ⟨_, _, ⟨T79, L79, k79, n79⟩, -, X79, ⟨Lc79, hQ79, l79, y79, z79⟩, st79⟩ := Jvm.LawKit.callS X70 hx (y := (⟨"com/example/circuline/circuline/circulation/Barcodes", "required", "(Ljava/lang/String;Ljava/lang/String;Ljava/lang/String;)Ljava/lang/String;"⟩ : MethodName)) hown (mvT hZ (hw _ (List.mem_of_getElem? (i := 48) rfl))) (mvT hZ (hw _ (List.mem_of_getElem? (i := 49) rfl))) (mvT hZ (hw _ (List.mem_of_getElem? (i := 50) rfl))) (mvT hZ (hw _ (List.mem_of_getElem? (i := 51) rfl))) (by decide) (backOf (W := 0) (own_req2 l Z a0 hw [] zc ci ta clt sb_57 tb_57 kb_57 c0 kq sb_65 sb_70 T70.heap n0 Zs80 Q74 Scs hzc Sci Eci Sca Tab Q75 Q76 Q77 Q78 l_c0 u_c0 l_kq u_kq (Or.inr kp_kq)) hZ (hw _ (List.mem_of_getElem? (i := 51) rfl)) (hw _ (List.mem_of_getElem? (i := 50) rfl)) (by decide) (by decide)) (g := (mkF m 154 #[.val (.int pa), .val (.int pb), .val (.int pc_), .val (.int pe), .val (.int pf), .val (.int (2 : Int32)), .val (.int (1 : Int32)), .val (.int c0), .val (.int kq), .val (.int c2), .val (.int c3), .val (.int kq), .val (.ref sb_57), .val (.ref sb_65), .val (.ref sb_70), .unset] [(.ref sb_70), (.ref sb_65), (.ref sb_57)])) rfl (by rw [hml]; rfl) (argsL := [(.ref sb_57), (.ref sb_65), (.ref sb_70)]) (rest := []) (lenOf own_law_pd2 rfl) rfl (by show 2 * 0 + _ ≤ _; exact Nat.le_of_eq rfl) (hb hby at_154) (fun _ _ => ⟨rfl, rfl, (by decide : 7 + 0 ≤ _), (by decide : 18 + 0 ≤ _)⟩)
      dsimp only [Pt.U, Pt.locs, Pt.cells, Pt.slots] at X79 l79 y79 z79 st79 hQ79
      obtain rfl : k79 = 7 := y79
      obtain rfl : n79 = 18 := z79
      obtain ⟨rfl, N79q, R79⟩ := hQ79
      have N79 : Fr n0 L79 := l79 ▸ Fr.app N70 N79q
      refine ownStep (fun _ k => st79 _ k) ?_
      refine ownStep (fun _ k => XS.astore X79.here hx rfl (hb hby at_157) rfl rfl (l' := #[.val (.int pa), .val (.int pb), .val (.int pc_), .val (.int pe), .val (.int pf), .val (.int (2 : Int32)), .val (.int (1 : Int32)), .val (.int c0), .val (.int kq), .val (.int c2), .val (.int c3), .val (.int kq), .val (.ref sb_57), .val (.ref sb_65), .val (.ref sb_70), .val (.ref sb_57)]) rfl k) ?_
      refine ownStep (fun _ k => XS.aload X79.here hx rfl (hb hby at_159) rfl rfl k) ?_
      refine ownStep (fun _ k => XS.ifnullNo X79.here hx rfl (hb hby at_161) rfl k) ?_
      refine ownStep (fun _ k => XS.aload X79.here hx rfl (hb hby at_164) rfl rfl k) ?_
      show ownGo p.tables e below (T79.setTop (mkF m 166 #[.val (.int pa), .val (.int pb), .val (.int pc_), .val (.int pe), .val (.int pf), .val (.int (2 : Int32)), .val (.int (1 : Int32)), .val (.int c0), .val (.int kq), .val (.int c2), .val (.int c3), .val (.int kq), .val (.ref sb_57), .val (.ref sb_65), .val (.ref sb_70), .val (.ref sb_57)] [(.ref sb_57)])) _
      have Zs82 : n0 ≤ T70.heap.size := Nat.le_trans Z0 KP73.1
      obtain ⟨cq81, kq81, q81a, q81b, q81c⟩ := isOf hZ R79 Q75
      obtain ⟨_, _, ⟨T81, L81, k81, n81⟩, -, X81, ⟨Lc81, hQ81, l81, y81, z81⟩, st81⟩ := X79.virtualBack hx (y := (⟨"java/lang/String", "length", "()I"⟩ : MethodName)) (z := (⟨"java/lang/String", "length", "()I"⟩ : MethodName)) hown (mvT hZ (hw _ (List.mem_of_getElem? (i := 96) rfl))) (mvT hZ (hw _ (List.mem_of_getElem? (i := 87) rfl))) (notFace_of_selects (args := #[]) (mvT hZ (hw _ (List.mem_of_getElem? (i := 89) rfl)))) (mvT hZ (hw _ (List.mem_of_getElem? (i := 89) rfl))) (mvT hZ (hw _ (List.mem_of_getElem? (i := 88) rfl))) (by decide) (backOf (W := 0) (own_len2 l Z a0 hw [] zc sb_57 tb_57 kb_57 c0 kq T70.heap n0 Zs82 Q74 Scs hzc Q75 Q76 Q77 Q78) hZ (hw _ (List.mem_of_getElem? (i := 90) rfl)) (hw _ (List.mem_of_getElem? (i := 6) rfl)) (by decide) (by decide)) q81a q81c (g := (mkF m 166 #[.val (.int pa), .val (.int pb), .val (.int pc_), .val (.int pe), .val (.int pf), .val (.int (2 : Int32)), .val (.int (1 : Int32)), .val (.int c0), .val (.int kq), .val (.int c2), .val (.int c3), .val (.int kq), .val (.ref sb_57), .val (.ref sb_65), .val (.ref sb_70), .val (.ref sb_57)] [(.ref sb_57)])) rfl (by rw [hml]; rfl) (Steps.refl _) (argsL := []) (rest := []) (lenOf own_law_pd3 rfl) rfl (by show 2 * 0 + _ ≤ _; exact Nat.le_of_eq rfl) (hb hby at_166) (fun _ _ => ⟨rfl, R79, (by decide : 7 + 0 ≤ _), (by decide : 18 + 0 ≤ _)⟩)
      dsimp only [Pt.U, Pt.locs, Pt.cells, Pt.slots] at X81 l81 y81 z81 st81 hQ81
      obtain rfl : k81 = 7 := y81
      obtain rfl : n81 = 18 := z81
      obtain ⟨rfl, N81q, R81⟩ := hQ81
      have N81 : Fr n0 L81 := l81 ▸ Fr.app N79 N81q
      refine ownStep (fun _ k => st81.trans k) ?_
      refine ownStep (fun _ k => XS.iload X81.here hx rfl (hb hby at_169) rfl  k) ?_
      refine ownStep (fun _ k => XS.icmpNo X81.here hx rfl (hb hby at_171) rfl (teq (by decide : (2 : Int32) = (2 : Int32))).2 k) ?_
      refine ownStep (fun _ k => XS.aload X81.here hx rfl (hb hby at_174) rfl rfl k) ?_
      refine ownStep (fun _ k => XS.aload X81.here hx rfl (hb hby at_176) rfl rfl k) ?_
      show ownGo p.tables e below (T81.setTop (mkF m 178 #[.val (.int pa), .val (.int pb), .val (.int pc_), .val (.int pe), .val (.int pf), .val (.int (2 : Int32)), .val (.int (1 : Int32)), .val (.int c0), .val (.int kq), .val (.int c2), .val (.int c3), .val (.int kq), .val (.ref sb_57), .val (.ref sb_65), .val (.ref sb_70), .val (.ref sb_57)] [(.ref sb_57), (.ref sb_57)])) _
      have Zs84 : n0 ≤ T70.heap.size := Nat.le_trans Z0 KP73.1
      obtain ⟨cq83, kq83, q83a, q83b, q83c⟩ := isOf hZ R81 Q75
      obtain ⟨_, _, ⟨T83, L83, k83, n83⟩, -, X83, ⟨Lc83, hQ83, l83, y83, z83⟩, st83⟩ := X81.virtualBack hx (y := (⟨"java/lang/String", "equals", "(Ljava/lang/Object;)Z"⟩ : MethodName)) (z := (⟨"java/lang/String", "equals", "(Ljava/lang/Object;)Z"⟩ : MethodName)) hown (mvT hZ (hw _ (List.mem_of_getElem? (i := 97) rfl))) (mvT hZ (hw _ (List.mem_of_getElem? (i := 98) rfl))) (notFace_of_selects (args := #[]) (mvT hZ (hw _ (List.mem_of_getElem? (i := 100) rfl)))) (mvT hZ (hw _ (List.mem_of_getElem? (i := 100) rfl))) (mvT hZ (hw _ (List.mem_of_getElem? (i := 99) rfl))) (by decide) (backOf (W := 0) (own_eq l Z a0 hw [] sb_57 T70.heap n0 Zs84 ) hZ (hw _ (List.mem_of_getElem? (i := 101) rfl)) (hw _ (List.mem_of_getElem? (i := 6) rfl)) (by decide) (by decide)) q83a q83c (g := (mkF m 178 #[.val (.int pa), .val (.int pb), .val (.int pc_), .val (.int pe), .val (.int pf), .val (.int (2 : Int32)), .val (.int (1 : Int32)), .val (.int c0), .val (.int kq), .val (.int c2), .val (.int c3), .val (.int kq), .val (.ref sb_57), .val (.ref sb_65), .val (.ref sb_70), .val (.ref sb_57)] [(.ref sb_57), (.ref sb_57)])) rfl (by rw [hml]; rfl) (Steps.refl _) (argsL := [(.ref sb_57)]) (rest := []) (lenOf own_law_pd4 rfl) rfl (by show 2 * 0 + _ ≤ _; exact Nat.le_of_eq rfl) (hb hby at_178) (fun _ _ => ⟨rfl, R81, (by decide : 7 + 0 ≤ _), (by decide : 18 + 0 ≤ _)⟩)
      dsimp only [Pt.U, Pt.locs, Pt.cells, Pt.slots] at X83 l83 y83 z83 st83 hQ83
      obtain rfl : k83 = 7 := y83
      obtain rfl : n83 = 18 := z83
      obtain ⟨rfl, N83q, R83⟩ := hQ83
      have N83 : Fr n0 L83 := l83 ▸ Fr.app N81 N83q
      refine ownStep (fun _ k => st83.trans k) ?_
      refine ownStep (fun _ k => XS.ifNo X83.here hx rfl (hb hby at_181) rfl ((if0 _ _).trans (feq (by decide : ¬ (1 : Int32) = (0 : Int32))).1) k) ?_
      refine ownStep (fun _ k => XS.iconst X83.here hx rfl (hb hby at_184) k) ?_
      refine ownStep (fun _ k => XS.goto X83.here hx rfl (pc0 := 185) (pc' := 189) rfl (hb hby at_185) (by decide) (by decide) k) ?_
      show ownGo p.tables e below (T83.setTop (mkF m 189 #[.val (.int pa), .val (.int pb), .val (.int pc_), .val (.int pe), .val (.int pf), .val (.int (2 : Int32)), .val (.int (1 : Int32)), .val (.int c0), .val (.int kq), .val (.int c2), .val (.int c3), .val (.int kq), .val (.ref sb_57), .val (.ref sb_65), .val (.ref sb_70), .val (.ref sb_57)] [(.int (1 : Int32))])) _
      exact ownRet X83 (v := some (.int (1 : Int32))) Bd.notSynchronized (fun h => by rw [Bd.returns] at h; cases h) (fun _ hr => retN X83 hx (t := .boolean) Bd.returns (by simp) (hb hby at_189) hr) (by rw [R83]; exact ⟨rfl, N83, (own_extOf KP73)⟩) (by decide) (by decide)
  · skip
    rw [hn]
    refine ownStep (fun _ k => XS.iconst X0.here hx rfl (hb hby at_3) k) ?_
    refine ownStep (fun _ k => XS.iadd X0.here hx rfl (hb hby at_4) rfl k) ?_
    refine ownStep (fun _ k => XS.istore X0.here hx rfl (hb hby at_5) rfl (l' := #[.val (.int pa), .val (.int pb), .val (.int pc_), .val (.int pe), .val (.int pf), .val (.int (3 : Int32)), .unset, .unset, .unset, .unset, .unset, .unset, .unset, .unset, .unset, .unset]) rfl k) ?_
    refine ownStep (fun _ k => XS.iloadN X0.here hx rfl (hb hby at_7) rfl  k) ?_
    show ownGo p.tables e below (s₁.setTop (mkF m 8 #[.val (.int pa), .val (.int pb), .val (.int pc_), .val (.int pe), .val (.int pf), .val (.int (3 : Int32)), .unset, .unset, .unset, .unset, .unset, .unset, .unset, .unset, .unset, .unset] [(.int pe)])) _
    refine ownStep (fun _ k => XS.iconst X0.here hx rfl (hb hby at_8) k) ?_
    refine ownStep (fun _ k => XS.iushr X0.here hx rfl (hb hby at_9) rfl k) ?_
    refine ownStep (fun _ k => XS.iload X0.here hx rfl (hb hby at_10) rfl  k) ?_
    show ownGo p.tables e below (s₁.setTop (mkF m 12 #[.val (.int pa), .val (.int pb), .val (.int pc_), .val (.int pe), .val (.int pf), .val (.int (3 : Int32)), .unset, .unset, .unset, .unset, .unset, .unset, .unset, .unset, .unset, .unset] [(.int (3 : Int32)), (.int ((pe.toUInt32 >>> ((2 : Int32) &&& 31).toUInt32).toInt32))])) _
    refine ownStep (fun _ k => iremM X0 hx rfl (hb hby at_12) rfl (by decide) k) ?_
    show ownGo p.tables e below (s₁.setTop (mkF m 13 #[.val (.int pa), .val (.int pb), .val (.int pc_), .val (.int pe), .val (.int pf), .val (.int (3 : Int32)), .unset, .unset, .unset, .unset, .unset, .unset, .unset, .unset, .unset, .unset] [(.int (((pe.toUInt32 >>> ((2 : Int32) &&& 31).toUInt32).toInt32) % (3 : Int32)))])) _
    rcases own_rem3 pe with hk | hk | hk
    · skip
      rw [hk]
      refine ownStep (fun _ k => XS.istore X0.here hx rfl (hb hby at_13) rfl (l' := #[.val (.int pa), .val (.int pb), .val (.int pc_), .val (.int pe), .val (.int pf), .val (.int (3 : Int32)), .val (.int (0 : Int32)), .unset, .unset, .unset, .unset, .unset, .unset, .unset, .unset, .unset]) rfl k) ?_
      refine ownStep (fun _ k => XS.iloadN X0.here hx rfl (hb hby at_15) rfl  k) ?_
      refine ownStep (fun _ k => XS.sipush X0.here hx rfl (hb hby at_16) k) ?_
      refine ownStep (fun _ k => XS.iand X0.here hx rfl (hb hby at_19) rfl k) ?_
      show ownGo p.tables e below (s₁.setTop (mkF m 20 #[.val (.int pa), .val (.int pb), .val (.int pc_), .val (.int pe), .val (.int pf), .val (.int (3 : Int32)), .val (.int (0 : Int32)), .unset, .unset, .unset, .unset, .unset, .unset, .unset, .unset, .unset] [(.int (pa &&& (255 : Int32)))])) _
      refine ownStep (fun _ k => XS.i2c X0.here hx rfl (hb hby at_20) rfl k) ?_
      show ownGo p.tables e below (s₁.setTop (mkF m 21 #[.val (.int pa), .val (.int pb), .val (.int pc_), .val (.int pe), .val (.int pf), .val (.int (3 : Int32)), .val (.int (0 : Int32)), .unset, .unset, .unset, .unset, .unset, .unset, .unset, .unset, .unset] [(.int ((pa &&& (255 : Int32)).toUInt32.toUInt16.toUInt32.toInt32))])) _
      obtain ⟨c0, h_c0, l_c0, u_c0⟩ : ∃ z, ((pa &&& (255 : Int32)).toUInt32.toUInt16.toUInt32.toInt32) = z ∧ ¬ z < (0 : Int32) ∧ ¬ (255 : Int32) < z := own_char _
      rw [h_c0]
      refine ownStep (fun _ k => XS.istore X0.here hx rfl (hb hby at_21) rfl (l' := #[.val (.int pa), .val (.int pb), .val (.int pc_), .val (.int pe), .val (.int pf), .val (.int (3 : Int32)), .val (.int (0 : Int32)), .val (.int c0), .unset, .unset, .unset, .unset, .unset, .unset, .unset, .unset]) rfl k) ?_
      refine ownStep (fun _ k => XS.iloadN X0.here hx rfl (hb hby at_23) rfl  k) ?_
      refine ownStep (fun _ k => XS.bipush X0.here hx rfl (hb hby at_24) k) ?_
      refine ownStep (fun _ k => XS.iushr X0.here hx rfl (hb hby at_26) rfl k) ?_
      show ownGo p.tables e below (s₁.setTop (mkF m 27 #[.val (.int pa), .val (.int pb), .val (.int pc_), .val (.int pe), .val (.int pf), .val (.int (3 : Int32)), .val (.int (0 : Int32)), .val (.int c0), .unset, .unset, .unset, .unset, .unset, .unset, .unset, .unset] [(.int ((pa.toUInt32 >>> ((8 : Int32) &&& 31).toUInt32).toInt32))])) _
      refine ownStep (fun _ k => XS.sipush X0.here hx rfl (hb hby at_27) k) ?_
      refine ownStep (fun _ k => XS.iand X0.here hx rfl (hb hby at_30) rfl k) ?_
      refine ownStep (fun _ k => XS.i2c X0.here hx rfl (hb hby at_31) rfl k) ?_
      show ownGo p.tables e below (s₁.setTop (mkF m 32 #[.val (.int pa), .val (.int pb), .val (.int pc_), .val (.int pe), .val (.int pf), .val (.int (3 : Int32)), .val (.int (0 : Int32)), .val (.int c0), .unset, .unset, .unset, .unset, .unset, .unset, .unset, .unset] [(.int ((((pa.toUInt32 >>> ((8 : Int32) &&& 31).toUInt32).toInt32) &&& (255 : Int32)).toUInt32.toUInt16.toUInt32.toInt32))])) _
      obtain ⟨c1, h_c1, l_c1, u_c1⟩ : ∃ z, ((((pa.toUInt32 >>> ((8 : Int32) &&& 31).toUInt32).toInt32) &&& (255 : Int32)).toUInt32.toUInt16.toUInt32.toInt32) = z ∧ ¬ z < (0 : Int32) ∧ ¬ (255 : Int32) < z := own_char _
      rw [h_c1]
      refine ownStep (fun _ k => XS.istore X0.here hx rfl (hb hby at_32) rfl (l' := #[.val (.int pa), .val (.int pb), .val (.int pc_), .val (.int pe), .val (.int pf), .val (.int (3 : Int32)), .val (.int (0 : Int32)), .val (.int c0), .val (.int c1), .unset, .unset, .unset, .unset, .unset, .unset, .unset]) rfl k) ?_
      refine ownStep (fun _ k => XS.iloadN X0.here hx rfl (hb hby at_34) rfl  k) ?_
      refine ownStep (fun _ k => XS.bipush X0.here hx rfl (hb hby at_35) k) ?_
      refine ownStep (fun _ k => XS.iushr X0.here hx rfl (hb hby at_37) rfl k) ?_
      show ownGo p.tables e below (s₁.setTop (mkF m 38 #[.val (.int pa), .val (.int pb), .val (.int pc_), .val (.int pe), .val (.int pf), .val (.int (3 : Int32)), .val (.int (0 : Int32)), .val (.int c0), .val (.int c1), .unset, .unset, .unset, .unset, .unset, .unset, .unset] [(.int ((pa.toUInt32 >>> ((16 : Int32) &&& 31).toUInt32).toInt32))])) _
      refine ownStep (fun _ k => XS.sipush X0.here hx rfl (hb hby at_38) k) ?_
      refine ownStep (fun _ k => XS.iand X0.here hx rfl (hb hby at_41) rfl k) ?_
      refine ownStep (fun _ k => XS.i2c X0.here hx rfl (hb hby at_42) rfl k) ?_
      show ownGo p.tables e below (s₁.setTop (mkF m 43 #[.val (.int pa), .val (.int pb), .val (.int pc_), .val (.int pe), .val (.int pf), .val (.int (3 : Int32)), .val (.int (0 : Int32)), .val (.int c0), .val (.int c1), .unset, .unset, .unset, .unset, .unset, .unset, .unset] [(.int ((((pa.toUInt32 >>> ((16 : Int32) &&& 31).toUInt32).toInt32) &&& (255 : Int32)).toUInt32.toUInt16.toUInt32.toInt32))])) _
      obtain ⟨c2, h_c2, l_c2, u_c2⟩ : ∃ z, ((((pa.toUInt32 >>> ((16 : Int32) &&& 31).toUInt32).toInt32) &&& (255 : Int32)).toUInt32.toUInt16.toUInt32.toInt32) = z ∧ ¬ z < (0 : Int32) ∧ ¬ (255 : Int32) < z := own_char _
      rw [h_c2]
      refine ownStep (fun _ k => XS.istore X0.here hx rfl (hb hby at_43) rfl (l' := #[.val (.int pa), .val (.int pb), .val (.int pc_), .val (.int pe), .val (.int pf), .val (.int (3 : Int32)), .val (.int (0 : Int32)), .val (.int c0), .val (.int c1), .val (.int c2), .unset, .unset, .unset, .unset, .unset, .unset]) rfl k) ?_
      refine ownStep (fun _ k => XS.iloadN X0.here hx rfl (hb hby at_45) rfl  k) ?_
      refine ownStep (fun _ k => XS.bipush X0.here hx rfl (hb hby at_46) k) ?_
      refine ownStep (fun _ k => XS.iushr X0.here hx rfl (hb hby at_48) rfl k) ?_
      show ownGo p.tables e below (s₁.setTop (mkF m 49 #[.val (.int pa), .val (.int pb), .val (.int pc_), .val (.int pe), .val (.int pf), .val (.int (3 : Int32)), .val (.int (0 : Int32)), .val (.int c0), .val (.int c1), .val (.int c2), .unset, .unset, .unset, .unset, .unset, .unset] [(.int ((pa.toUInt32 >>> ((24 : Int32) &&& 31).toUInt32).toInt32))])) _
      refine ownStep (fun _ k => XS.sipush X0.here hx rfl (hb hby at_49) k) ?_
      refine ownStep (fun _ k => XS.iand X0.here hx rfl (hb hby at_52) rfl k) ?_
      refine ownStep (fun _ k => XS.i2c X0.here hx rfl (hb hby at_53) rfl k) ?_
      show ownGo p.tables e below (s₁.setTop (mkF m 54 #[.val (.int pa), .val (.int pb), .val (.int pc_), .val (.int pe), .val (.int pf), .val (.int (3 : Int32)), .val (.int (0 : Int32)), .val (.int c0), .val (.int c1), .val (.int c2), .unset, .unset, .unset, .unset, .unset, .unset] [(.int ((((pa.toUInt32 >>> ((24 : Int32) &&& 31).toUInt32).toInt32) &&& (255 : Int32)).toUInt32.toUInt16.toUInt32.toInt32))])) _
      obtain ⟨c3, h_c3, l_c3, u_c3⟩ : ∃ z, ((((pa.toUInt32 >>> ((24 : Int32) &&& 31).toUInt32).toInt32) &&& (255 : Int32)).toUInt32.toUInt16.toUInt32.toInt32) = z ∧ ¬ z < (0 : Int32) ∧ ¬ (255 : Int32) < z := own_char _
      rw [h_c3]
      refine ownStep (fun _ k => XS.istore X0.here hx rfl (hb hby at_54) rfl (l' := #[.val (.int pa), .val (.int pb), .val (.int pc_), .val (.int pe), .val (.int pf), .val (.int (3 : Int32)), .val (.int (0 : Int32)), .val (.int c0), .val (.int c1), .val (.int c2), .val (.int c3), .unset, .unset, .unset, .unset, .unset]) rfl k) ?_
      refine ownStep (fun _ k => XS.bipush X0.here hx rfl (hb hby at_56) k) ?_
      refine ownStep (fun _ k => XS.iload X0.here hx rfl (hb hby at_58) rfl  k) ?_
      refine ownStep (fun _ k => XS.iconst X0.here hx rfl (hb hby at_60) k) ?_
      show ownGo p.tables e below (s₁.setTop (mkF m 61 #[.val (.int pa), .val (.int pb), .val (.int pc_), .val (.int pe), .val (.int pf), .val (.int (3 : Int32)), .val (.int (0 : Int32)), .val (.int c0), .val (.int c1), .val (.int c2), .val (.int c3), .unset, .unset, .unset, .unset, .unset] [(.int (1 : Int32)), (.int pf), (.int (33 : Int32))])) _
      refine ownStep (fun _ k => XS.iushr X0.here hx rfl (hb hby at_61) rfl k) ?_
      refine ownStep (fun _ k => XS.bipush X0.here hx rfl (hb hby at_62) k) ?_
      show ownGo p.tables e below (s₁.setTop (mkF m 64 #[.val (.int pa), .val (.int pb), .val (.int pc_), .val (.int pe), .val (.int pf), .val (.int (3 : Int32)), .val (.int (0 : Int32)), .val (.int c0), .val (.int c1), .val (.int c2), .val (.int c3), .unset, .unset, .unset, .unset, .unset] [(.int (94 : Int32)), (.int ((pf.toUInt32 >>> ((1 : Int32) &&& 31).toUInt32).toInt32)), (.int (33 : Int32))])) _
      refine ownStep (fun _ k => iremM X0 hx rfl (hb hby at_64) rfl (by decide) k) ?_
      refine ownStep (fun _ k => XS.iadd X0.here hx rfl (hb hby at_65) rfl k) ?_
      refine ownStep (fun _ k => XS.i2c X0.here hx rfl (hb hby at_66) rfl k) ?_
      show ownGo p.tables e below (s₁.setTop (mkF m 67 #[.val (.int pa), .val (.int pb), .val (.int pc_), .val (.int pe), .val (.int pf), .val (.int (3 : Int32)), .val (.int (0 : Int32)), .val (.int c0), .val (.int c1), .val (.int c2), .val (.int c3), .unset, .unset, .unset, .unset, .unset] [(.int (((33 : Int32) + (((pf.toUInt32 >>> ((1 : Int32) &&& 31).toUInt32).toInt32) % (94 : Int32))).toUInt32.toUInt16.toUInt32.toInt32))])) _
      obtain ⟨kq, h_kq, l_kq, u_kq, kp_kq⟩ : ∃ z, (((33 : Int32) + (((pf.toUInt32 >>> ((1 : Int32) &&& 31).toUInt32).toInt32) % (94 : Int32))).toUInt32.toUInt16.toUInt32.toInt32) = z ∧ ¬ z < (0 : Int32) ∧ ¬ (255 : Int32) < z ∧ own_keep z := own_keepv pf
      rw [h_kq]
      refine ownStep (fun _ k => XS.istore X0.here hx rfl (hb hby at_67) rfl (l' := #[.val (.int pa), .val (.int pb), .val (.int pc_), .val (.int pe), .val (.int pf), .val (.int (3 : Int32)), .val (.int (0 : Int32)), .val (.int c0), .val (.int c1), .val (.int c2), .val (.int c3), .val (.int kq), .unset, .unset, .unset, .unset]) rfl k) ?_
      refine ownStep (fun _ k => XS.iload X0.here hx rfl (hb hby at_69) rfl  k) ?_
      refine ownStep (fun _ k => XS.ifNo X0.here hx rfl (hb hby at_71) rfl ((if0 _ _).trans (teq (by decide : (0 : Int32) = (0 : Int32))).2) k) ?_
      refine ownStep (fun _ k => XS.iload X0.here hx rfl (hb hby at_74) rfl  k) ?_
      show ownGo p.tables e below (s₁.setTop (mkF m 76 #[.val (.int pa), .val (.int pb), .val (.int pc_), .val (.int pe), .val (.int pf), .val (.int (3 : Int32)), .val (.int (0 : Int32)), .val (.int c0), .val (.int c1), .val (.int c2), .val (.int c3), .val (.int kq), .unset, .unset, .unset, .unset] [(.int kq)])) _
      refine ownStep (fun _ k => XS.istore X0.here hx rfl (hb hby at_76) rfl (l' := #[.val (.int pa), .val (.int pb), .val (.int pc_), .val (.int pe), .val (.int pf), .val (.int (3 : Int32)), .val (.int (0 : Int32)), .val (.int kq), .val (.int c1), .val (.int c2), .val (.int c3), .val (.int kq), .unset, .unset, .unset, .unset]) rfl k) ?_
      refine ownStep (fun _ k => XS.goto X0.here hx rfl (pc0 := 78) (pc' := 111) rfl (hb hby at_78) (by decide) (by decide) k) ?_
      refine ownStep (fun _ k => XS.iload X0.here hx rfl (hb hby at_111) rfl  k) ?_
      refine ownStep (fun _ k => XS.iload X0.here hx rfl (hb hby at_113) rfl  k) ?_
      refine ownStep (fun _ k => XS.iload X0.here hx rfl (hb hby at_115) rfl  k) ?_
      show ownGo p.tables e below (s₁.setTop (mkF m 117 #[.val (.int pa), .val (.int pb), .val (.int pc_), .val (.int pe), .val (.int pf), .val (.int (3 : Int32)), .val (.int (0 : Int32)), .val (.int kq), .val (.int c1), .val (.int c2), .val (.int c3), .val (.int kq), .unset, .unset, .unset, .unset] [(.int c1), (.int kq), (.int (3 : Int32))])) _
      refine ownStep (fun _ k => XS.iload X0.here hx rfl (hb hby at_117) rfl  k) ?_
      refine ownStep (fun _ k => XS.iload X0.here hx rfl (hb hby at_119) rfl  k) ?_
      show ownGo p.tables e below (s₁.setTop (mkF m 121 #[.val (.int pa), .val (.int pb), .val (.int pc_), .val (.int pe), .val (.int pf), .val (.int (3 : Int32)), .val (.int (0 : Int32)), .val (.int kq), .val (.int c1), .val (.int c2), .val (.int c3), .val (.int kq), .unset, .unset, .unset, .unset] [(.int c3), (.int c2), (.int c1), (.int kq), (.int (3 : Int32))])) _
      have Zs86 : n0 ≤ h0.size := Nat.le_trans Z0 KP0.1
      obtain ⟨_, _, ⟨T85, L85, k85, n85⟩, -, X85, ⟨Lc85, hQ85, l85, y85, z85⟩, st85⟩ := Jvm.LawKit.callS X0 hx (y := (⟨"com/example/circuline/circuline/circulation/BarcodesRequiredPinLaw", "make", "(ICCCC)Ljava/lang/String;"⟩ : MethodName)) hown (mvT hZ (hw _ (List.mem_of_getElem? (i := 0) rfl))) (mvT hZ (hw _ (List.mem_of_getElem? (i := 1) rfl))) (mvT hZ (hw _ (List.mem_of_getElem? (i := 2) rfl))) (mvT hZ (hw _ (List.mem_of_getElem? (i := 3) rfl))) (by decide) (backOf (W := 0) (own_mk3 l Z a0 hw [] zc kq c1 c2 c3 h0 n0 Zs86 hOld Scs hzc l_kq u_kq l_c1 u_c1 l_c2 u_c2 l_c3 u_c3) hZ (hw _ (List.mem_of_getElem? (i := 3) rfl)) (hw _ (List.mem_of_getElem? (i := 2) rfl)) (by decide) (by decide)) (g := (mkF m 121 #[.val (.int pa), .val (.int pb), .val (.int pc_), .val (.int pe), .val (.int pf), .val (.int (3 : Int32)), .val (.int (0 : Int32)), .val (.int kq), .val (.int c1), .val (.int c2), .val (.int c3), .val (.int kq), .unset, .unset, .unset, .unset] [(.int c3), (.int c2), (.int c1), (.int kq), (.int (3 : Int32))])) rfl (by rw [hml]; rfl) (argsL := [(.int (3 : Int32)), (.int kq), (.int c1), (.int c2), (.int c3)]) (rest := []) (lenOf own_law_pd0 rfl) rfl (by show 2 * 0 + _ ≤ _; exact Nat.le_of_eq rfl) (hb hby at_121) (fun _ _ => ⟨rfl, e0, (by decide : 0 + 3 ≤ _), (by decide : 0 + 10 ≤ _)⟩)
      dsimp only [Pt.U, Pt.locs, Pt.cells, Pt.slots] at X85 l85 y85 z85 st85 hQ85
      obtain rfl : k85 = 3 := y85
      obtain rfl : n85 = 10 := z85
      obtain ⟨sb_85, tb_85, kb_85, rfl, N85q, R85, P87, P88, P89, P90⟩ := hQ85
      have N85 : Fr n0 L85 := l85 ▸ Fr.app N0 N85q
      refine ownStep (fun _ k => st85 _ k) ?_
      have KP91 : Keep h0 T85.heap [] := KP0.ext R85
      refine ownStep (fun _ k => XS.astore X85.here hx rfl (hb hby at_124) rfl rfl (l' := #[.val (.int pa), .val (.int pb), .val (.int pc_), .val (.int pe), .val (.int pf), .val (.int (3 : Int32)), .val (.int (0 : Int32)), .val (.int kq), .val (.int c1), .val (.int c2), .val (.int c3), .val (.int kq), .val (.ref sb_85), .unset, .unset, .unset]) rfl k) ?_
      refine ownStep (fun _ k => XS.iloadN X85.here hx rfl (hb hby at_126) rfl  k) ?_
      refine ownStep (fun _ k => XS.sipush X85.here hx rfl (hb hby at_127) k) ?_
      refine ownStep (fun _ k => XS.iand X85.here hx rfl (hb hby at_130) rfl k) ?_
      show ownGo p.tables e below (T85.setTop (mkF m 131 #[.val (.int pa), .val (.int pb), .val (.int pc_), .val (.int pe), .val (.int pf), .val (.int (3 : Int32)), .val (.int (0 : Int32)), .val (.int kq), .val (.int c1), .val (.int c2), .val (.int c3), .val (.int kq), .val (.ref sb_85), .unset, .unset, .unset] [(.int (pb &&& (255 : Int32)))])) _
      refine ownStep (fun _ k => XS.i2c X85.here hx rfl (hb hby at_131) rfl k) ?_
      show ownGo p.tables e below (T85.setTop (mkF m 132 #[.val (.int pa), .val (.int pb), .val (.int pc_), .val (.int pe), .val (.int pf), .val (.int (3 : Int32)), .val (.int (0 : Int32)), .val (.int kq), .val (.int c1), .val (.int c2), .val (.int c3), .val (.int kq), .val (.ref sb_85), .unset, .unset, .unset] [(.int ((pb &&& (255 : Int32)).toUInt32.toUInt16.toUInt32.toInt32))])) _
      obtain ⟨f0, h_f0, l_f0, u_f0⟩ : ∃ z, ((pb &&& (255 : Int32)).toUInt32.toUInt16.toUInt32.toInt32) = z ∧ ¬ z < (0 : Int32) ∧ ¬ (255 : Int32) < z := own_char _
      rw [h_f0]
      show ownGo p.tables e below (T85.setTop (mkF m 132 #[.val (.int pa), .val (.int pb), .val (.int pc_), .val (.int pe), .val (.int pf), .val (.int (3 : Int32)), .val (.int (0 : Int32)), .val (.int kq), .val (.int c1), .val (.int c2), .val (.int c3), .val (.int kq), .val (.ref sb_85), .unset, .unset, .unset] [(.int f0)])) _
      have Q92 : Old Z n0 T85.heap := (hOld.ext R85)
      have Zs94 : n0 ≤ T85.heap.size := Nat.le_trans Z0 KP91.1
      obtain ⟨_, _, ⟨T93, L93, k93, n93⟩, -, X93, ⟨Lc93, hQ93, l93, y93, z93⟩, st93⟩ := Jvm.LawKit.callS X85 hx (y := (⟨"java/lang/String", "valueOf", "(C)Ljava/lang/String;"⟩ : MethodName)) hown (mvT hZ (hw _ (List.mem_of_getElem? (i := 34) rfl))) (mvT hZ (hw _ (List.mem_of_getElem? (i := 35) rfl))) (mvT hZ (hw _ (List.mem_of_getElem? (i := 6) rfl))) (mvT hZ (hw _ (List.mem_of_getElem? (i := 36) rfl))) (by decide) (backOf (W := 0) (own_vo l Z a0 hw [] zc f0 T85.heap n0 Zs94 Q92 Scs hzc l_f0 u_f0) hZ (hw _ (List.mem_of_getElem? (i := 36) rfl)) (hw _ (List.mem_of_getElem? (i := 6) rfl)) (by decide) (by decide)) (g := (mkF m 132 #[.val (.int pa), .val (.int pb), .val (.int pc_), .val (.int pe), .val (.int pf), .val (.int (3 : Int32)), .val (.int (0 : Int32)), .val (.int kq), .val (.int c1), .val (.int c2), .val (.int c3), .val (.int kq), .val (.ref sb_85), .unset, .unset, .unset] [(.int f0)])) rfl (by rw [hml]; rfl) (argsL := [(.int f0)]) (rest := []) (lenOf own_law_pd1 rfl) rfl (by show 2 * 0 + _ ≤ _; exact Nat.le_of_eq rfl) (hb hby at_132) (fun _ _ => ⟨rfl, rfl, (by decide : 3 + 2 ≤ _), (by decide : 10 + 5 ≤ _)⟩)
      dsimp only [Pt.U, Pt.locs, Pt.cells, Pt.slots] at X93 l93 y93 z93 st93 hQ93
      obtain rfl : k93 = 5 := y93
      obtain rfl : n93 = 15 := z93
      obtain ⟨sb_93, rfl, N93q, R93, P95⟩ := hQ93
      have N93 : Fr n0 L93 := l93 ▸ Fr.app N85 N93q
      refine ownStep (fun _ k => st93 _ k) ?_
      have KP96 : Keep h0 T93.heap [] := KP91.ext R93
      refine ownStep (fun _ k => XS.astore X93.here hx rfl (hb hby at_135) rfl rfl (l' := #[.val (.int pa), .val (.int pb), .val (.int pc_), .val (.int pe), .val (.int pf), .val (.int (3 : Int32)), .val (.int (0 : Int32)), .val (.int kq), .val (.int c1), .val (.int c2), .val (.int c3), .val (.int kq), .val (.ref sb_85), .val (.ref sb_93), .unset, .unset]) rfl k) ?_
      refine ownStep (fun _ k => XS.iloadN X93.here hx rfl (hb hby at_137) rfl  k) ?_
      refine ownStep (fun _ k => XS.sipush X93.here hx rfl (hb hby at_138) k) ?_
      refine ownStep (fun _ k => XS.iand X93.here hx rfl (hb hby at_141) rfl k) ?_
      show ownGo p.tables e below (T93.setTop (mkF m 142 #[.val (.int pa), .val (.int pb), .val (.int pc_), .val (.int pe), .val (.int pf), .val (.int (3 : Int32)), .val (.int (0 : Int32)), .val (.int kq), .val (.int c1), .val (.int c2), .val (.int c3), .val (.int kq), .val (.ref sb_85), .val (.ref sb_93), .unset, .unset] [(.int (pc_ &&& (255 : Int32)))])) _
      refine ownStep (fun _ k => XS.i2c X93.here hx rfl (hb hby at_142) rfl k) ?_
      show ownGo p.tables e below (T93.setTop (mkF m 143 #[.val (.int pa), .val (.int pb), .val (.int pc_), .val (.int pe), .val (.int pf), .val (.int (3 : Int32)), .val (.int (0 : Int32)), .val (.int kq), .val (.int c1), .val (.int c2), .val (.int c3), .val (.int kq), .val (.ref sb_85), .val (.ref sb_93), .unset, .unset] [(.int ((pc_ &&& (255 : Int32)).toUInt32.toUInt16.toUInt32.toInt32))])) _
      obtain ⟨f1, h_f1, l_f1, u_f1⟩ : ∃ z, ((pc_ &&& (255 : Int32)).toUInt32.toUInt16.toUInt32.toInt32) = z ∧ ¬ z < (0 : Int32) ∧ ¬ (255 : Int32) < z := own_char _
      rw [h_f1]
      show ownGo p.tables e below (T93.setTop (mkF m 143 #[.val (.int pa), .val (.int pb), .val (.int pc_), .val (.int pe), .val (.int pf), .val (.int (3 : Int32)), .val (.int (0 : Int32)), .val (.int kq), .val (.int c1), .val (.int c2), .val (.int c3), .val (.int kq), .val (.ref sb_85), .val (.ref sb_93), .unset, .unset] [(.int f1)])) _
      have Q97 : Old Z n0 T93.heap := (Q92.ext R93)
      have Zs99 : n0 ≤ T93.heap.size := Nat.le_trans Z0 KP96.1
      obtain ⟨_, _, ⟨T98, L98, k98, n98⟩, -, X98, ⟨Lc98, hQ98, l98, y98, z98⟩, st98⟩ := Jvm.LawKit.callS X93 hx (y := (⟨"java/lang/String", "valueOf", "(C)Ljava/lang/String;"⟩ : MethodName)) hown (mvT hZ (hw _ (List.mem_of_getElem? (i := 34) rfl))) (mvT hZ (hw _ (List.mem_of_getElem? (i := 35) rfl))) (mvT hZ (hw _ (List.mem_of_getElem? (i := 6) rfl))) (mvT hZ (hw _ (List.mem_of_getElem? (i := 36) rfl))) (by decide) (backOf (W := 0) (own_vo l Z a0 hw [] zc f1 T93.heap n0 Zs99 Q97 Scs hzc l_f1 u_f1) hZ (hw _ (List.mem_of_getElem? (i := 36) rfl)) (hw _ (List.mem_of_getElem? (i := 6) rfl)) (by decide) (by decide)) (g := (mkF m 143 #[.val (.int pa), .val (.int pb), .val (.int pc_), .val (.int pe), .val (.int pf), .val (.int (3 : Int32)), .val (.int (0 : Int32)), .val (.int kq), .val (.int c1), .val (.int c2), .val (.int c3), .val (.int kq), .val (.ref sb_85), .val (.ref sb_93), .unset, .unset] [(.int f1)])) rfl (by rw [hml]; rfl) (argsL := [(.int f1)]) (rest := []) (lenOf own_law_pd1 rfl) rfl (by show 2 * 0 + _ ≤ _; exact Nat.le_of_eq rfl) (hb hby at_143) (fun _ _ => ⟨rfl, rfl, (by decide : 5 + 2 ≤ _), (by decide : 15 + 5 ≤ _)⟩)
      dsimp only [Pt.U, Pt.locs, Pt.cells, Pt.slots] at X98 l98 y98 z98 st98 hQ98
      obtain rfl : k98 = 7 := y98
      obtain rfl : n98 = 20 := z98
      obtain ⟨sb_98, rfl, N98q, R98, P100⟩ := hQ98
      have N98 : Fr n0 L98 := l98 ▸ Fr.app N93 N98q
      refine ownStep (fun _ k => st98 _ k) ?_
      have KP101 : Keep h0 T98.heap [] := KP96.ext R98
      refine ownStep (fun _ k => XS.astore X98.here hx rfl (hb hby at_146) rfl rfl (l' := #[.val (.int pa), .val (.int pb), .val (.int pc_), .val (.int pe), .val (.int pf), .val (.int (3 : Int32)), .val (.int (0 : Int32)), .val (.int kq), .val (.int c1), .val (.int c2), .val (.int c3), .val (.int kq), .val (.ref sb_85), .val (.ref sb_93), .val (.ref sb_98), .unset]) rfl k) ?_
      refine ownStep (fun _ k => XS.aload X98.here hx rfl (hb hby at_148) rfl rfl k) ?_
      refine ownStep (fun _ k => XS.aload X98.here hx rfl (hb hby at_150) rfl rfl k) ?_
      refine ownStep (fun _ k => XS.aload X98.here hx rfl (hb hby at_152) rfl rfl k) ?_
      show ownGo p.tables e below (T98.setTop (mkF m 154 #[.val (.int pa), .val (.int pb), .val (.int pc_), .val (.int pe), .val (.int pf), .val (.int (3 : Int32)), .val (.int (0 : Int32)), .val (.int kq), .val (.int c1), .val (.int c2), .val (.int c3), .val (.int kq), .val (.ref sb_85), .val (.ref sb_93), .val (.ref sb_98), .unset] [(.ref sb_98), (.ref sb_93), (.ref sb_85)])) _
      have Q102 : Old Z n0 T98.heap := (Q97.ext R98)
      have Q103 : Exa Z T98.heap sb_85 "java/lang/String" := ((P87.ext R93).ext R98)
      have Q104 : Fld Z T98.heap sb_85 "java/lang/String" "coder" "B" (.int (0 : Int32)) := ((P88.ext R93).ext R98)
      have Q105 : Fld Z T98.heap sb_85 "java/lang/String" "value" "[B" (.ref tb_85) := ((P89.ext R93).ext R98)
      have Q106 : Arv Z T98.heap tb_85 kb_85 .byte (3 : Int32) [(.int kq.toInt8.toInt32), (.int c1.toInt8.toInt32), (.int c2.toInt8.toInt32)] (.int (0 : Int32)) := ((P90.ext R93).ext R98)
      have Zs108 : n0 ≤ T98.heap.size := Nat.le_trans Z0 KP101.1
      obtain ⟨_, _, ⟨T107, L107, k107, n107⟩, -, X107, ⟨Lc107, hQ107, l107, y107, z107⟩, st107⟩ := Jvm.LawKit.callS X98 hx (y := (⟨"com/example/circuline/circuline/circulation/Barcodes", "required", "(Ljava/lang/String;Ljava/lang/String;Ljava/lang/String;)Ljava/lang/String;"⟩ : MethodName)) hown (mvT hZ (hw _ (List.mem_of_getElem? (i := 48) rfl))) (mvT hZ (hw _ (List.mem_of_getElem? (i := 49) rfl))) (mvT hZ (hw _ (List.mem_of_getElem? (i := 50) rfl))) (mvT hZ (hw _ (List.mem_of_getElem? (i := 51) rfl))) (by decide) (backOf (W := 0) (own_req3 l Z a0 hw [] zc ci ta clt sb_85 tb_85 kb_85 kq c1 c2 sb_93 sb_98 T98.heap n0 Zs108 Q102 Scs hzc Sci Eci Sca Tab Q103 Q104 Q105 Q106 l_kq u_kq l_c1 u_c1 l_c2 u_c2 (Or.inl kp_kq)) hZ (hw _ (List.mem_of_getElem? (i := 51) rfl)) (hw _ (List.mem_of_getElem? (i := 50) rfl)) (by decide) (by decide)) (g := (mkF m 154 #[.val (.int pa), .val (.int pb), .val (.int pc_), .val (.int pe), .val (.int pf), .val (.int (3 : Int32)), .val (.int (0 : Int32)), .val (.int kq), .val (.int c1), .val (.int c2), .val (.int c3), .val (.int kq), .val (.ref sb_85), .val (.ref sb_93), .val (.ref sb_98), .unset] [(.ref sb_98), (.ref sb_93), (.ref sb_85)])) rfl (by rw [hml]; rfl) (argsL := [(.ref sb_85), (.ref sb_93), (.ref sb_98)]) (rest := []) (lenOf own_law_pd2 rfl) rfl (by show 2 * 0 + _ ≤ _; exact Nat.le_of_eq rfl) (hb hby at_154) (fun _ _ => ⟨rfl, rfl, (by decide : 7 + 0 ≤ _), (by decide : 20 + 0 ≤ _)⟩)
      dsimp only [Pt.U, Pt.locs, Pt.cells, Pt.slots] at X107 l107 y107 z107 st107 hQ107
      obtain rfl : k107 = 7 := y107
      obtain rfl : n107 = 20 := z107
      obtain ⟨rfl, N107q, R107⟩ := hQ107
      have N107 : Fr n0 L107 := l107 ▸ Fr.app N98 N107q
      refine ownStep (fun _ k => st107 _ k) ?_
      refine ownStep (fun _ k => XS.astore X107.here hx rfl (hb hby at_157) rfl rfl (l' := #[.val (.int pa), .val (.int pb), .val (.int pc_), .val (.int pe), .val (.int pf), .val (.int (3 : Int32)), .val (.int (0 : Int32)), .val (.int kq), .val (.int c1), .val (.int c2), .val (.int c3), .val (.int kq), .val (.ref sb_85), .val (.ref sb_93), .val (.ref sb_98), .val (.ref sb_85)]) rfl k) ?_
      refine ownStep (fun _ k => XS.aload X107.here hx rfl (hb hby at_159) rfl rfl k) ?_
      refine ownStep (fun _ k => XS.ifnullNo X107.here hx rfl (hb hby at_161) rfl k) ?_
      refine ownStep (fun _ k => XS.aload X107.here hx rfl (hb hby at_164) rfl rfl k) ?_
      show ownGo p.tables e below (T107.setTop (mkF m 166 #[.val (.int pa), .val (.int pb), .val (.int pc_), .val (.int pe), .val (.int pf), .val (.int (3 : Int32)), .val (.int (0 : Int32)), .val (.int kq), .val (.int c1), .val (.int c2), .val (.int c3), .val (.int kq), .val (.ref sb_85), .val (.ref sb_93), .val (.ref sb_98), .val (.ref sb_85)] [(.ref sb_85)])) _
      have Zs110 : n0 ≤ T98.heap.size := Nat.le_trans Z0 KP101.1
      obtain ⟨cq109, kq109, q109a, q109b, q109c⟩ := isOf hZ R107 Q103
      obtain ⟨_, _, ⟨T109, L109, k109, n109⟩, -, X109, ⟨Lc109, hQ109, l109, y109, z109⟩, st109⟩ := X107.virtualBack hx (y := (⟨"java/lang/String", "length", "()I"⟩ : MethodName)) (z := (⟨"java/lang/String", "length", "()I"⟩ : MethodName)) hown (mvT hZ (hw _ (List.mem_of_getElem? (i := 96) rfl))) (mvT hZ (hw _ (List.mem_of_getElem? (i := 87) rfl))) (notFace_of_selects (args := #[]) (mvT hZ (hw _ (List.mem_of_getElem? (i := 89) rfl)))) (mvT hZ (hw _ (List.mem_of_getElem? (i := 89) rfl))) (mvT hZ (hw _ (List.mem_of_getElem? (i := 88) rfl))) (by decide) (backOf (W := 0) (own_len3 l Z a0 hw [] zc sb_85 tb_85 kb_85 kq c1 c2 T98.heap n0 Zs110 Q102 Scs hzc Q103 Q104 Q105 Q106) hZ (hw _ (List.mem_of_getElem? (i := 90) rfl)) (hw _ (List.mem_of_getElem? (i := 6) rfl)) (by decide) (by decide)) q109a q109c (g := (mkF m 166 #[.val (.int pa), .val (.int pb), .val (.int pc_), .val (.int pe), .val (.int pf), .val (.int (3 : Int32)), .val (.int (0 : Int32)), .val (.int kq), .val (.int c1), .val (.int c2), .val (.int c3), .val (.int kq), .val (.ref sb_85), .val (.ref sb_93), .val (.ref sb_98), .val (.ref sb_85)] [(.ref sb_85)])) rfl (by rw [hml]; rfl) (Steps.refl _) (argsL := []) (rest := []) (lenOf own_law_pd3 rfl) rfl (by show 2 * 0 + _ ≤ _; exact Nat.le_of_eq rfl) (hb hby at_166) (fun _ _ => ⟨rfl, R107, (by decide : 7 + 0 ≤ _), (by decide : 20 + 0 ≤ _)⟩)
      dsimp only [Pt.U, Pt.locs, Pt.cells, Pt.slots] at X109 l109 y109 z109 st109 hQ109
      obtain rfl : k109 = 7 := y109
      obtain rfl : n109 = 20 := z109
      obtain ⟨rfl, N109q, R109⟩ := hQ109
      have N109 : Fr n0 L109 := l109 ▸ Fr.app N107 N109q
      refine ownStep (fun _ k => st109.trans k) ?_
      refine ownStep (fun _ k => XS.iload X109.here hx rfl (hb hby at_169) rfl  k) ?_
      refine ownStep (fun _ k => XS.icmpNo X109.here hx rfl (hb hby at_171) rfl (teq (by decide : (3 : Int32) = (3 : Int32))).2 k) ?_
      refine ownStep (fun _ k => XS.aload X109.here hx rfl (hb hby at_174) rfl rfl k) ?_
      refine ownStep (fun _ k => XS.aload X109.here hx rfl (hb hby at_176) rfl rfl k) ?_
      show ownGo p.tables e below (T109.setTop (mkF m 178 #[.val (.int pa), .val (.int pb), .val (.int pc_), .val (.int pe), .val (.int pf), .val (.int (3 : Int32)), .val (.int (0 : Int32)), .val (.int kq), .val (.int c1), .val (.int c2), .val (.int c3), .val (.int kq), .val (.ref sb_85), .val (.ref sb_93), .val (.ref sb_98), .val (.ref sb_85)] [(.ref sb_85), (.ref sb_85)])) _
      have Zs112 : n0 ≤ T98.heap.size := Nat.le_trans Z0 KP101.1
      obtain ⟨cq111, kq111, q111a, q111b, q111c⟩ := isOf hZ R109 Q103
      obtain ⟨_, _, ⟨T111, L111, k111, n111⟩, -, X111, ⟨Lc111, hQ111, l111, y111, z111⟩, st111⟩ := X109.virtualBack hx (y := (⟨"java/lang/String", "equals", "(Ljava/lang/Object;)Z"⟩ : MethodName)) (z := (⟨"java/lang/String", "equals", "(Ljava/lang/Object;)Z"⟩ : MethodName)) hown (mvT hZ (hw _ (List.mem_of_getElem? (i := 97) rfl))) (mvT hZ (hw _ (List.mem_of_getElem? (i := 98) rfl))) (notFace_of_selects (args := #[]) (mvT hZ (hw _ (List.mem_of_getElem? (i := 100) rfl)))) (mvT hZ (hw _ (List.mem_of_getElem? (i := 100) rfl))) (mvT hZ (hw _ (List.mem_of_getElem? (i := 99) rfl))) (by decide) (backOf (W := 0) (own_eq l Z a0 hw [] sb_85 T98.heap n0 Zs112 ) hZ (hw _ (List.mem_of_getElem? (i := 101) rfl)) (hw _ (List.mem_of_getElem? (i := 6) rfl)) (by decide) (by decide)) q111a q111c (g := (mkF m 178 #[.val (.int pa), .val (.int pb), .val (.int pc_), .val (.int pe), .val (.int pf), .val (.int (3 : Int32)), .val (.int (0 : Int32)), .val (.int kq), .val (.int c1), .val (.int c2), .val (.int c3), .val (.int kq), .val (.ref sb_85), .val (.ref sb_93), .val (.ref sb_98), .val (.ref sb_85)] [(.ref sb_85), (.ref sb_85)])) rfl (by rw [hml]; rfl) (Steps.refl _) (argsL := [(.ref sb_85)]) (rest := []) (lenOf own_law_pd4 rfl) rfl (by show 2 * 0 + _ ≤ _; exact Nat.le_of_eq rfl) (hb hby at_178) (fun _ _ => ⟨rfl, R109, (by decide : 7 + 0 ≤ _), (by decide : 20 + 0 ≤ _)⟩)
      dsimp only [Pt.U, Pt.locs, Pt.cells, Pt.slots] at X111 l111 y111 z111 st111 hQ111
      obtain rfl : k111 = 7 := y111
      obtain rfl : n111 = 20 := z111
      obtain ⟨rfl, N111q, R111⟩ := hQ111
      have N111 : Fr n0 L111 := l111 ▸ Fr.app N109 N111q
      refine ownStep (fun _ k => st111.trans k) ?_
      refine ownStep (fun _ k => XS.ifNo X111.here hx rfl (hb hby at_181) rfl ((if0 _ _).trans (feq (by decide : ¬ (1 : Int32) = (0 : Int32))).1) k) ?_
      refine ownStep (fun _ k => XS.iconst X111.here hx rfl (hb hby at_184) k) ?_
      refine ownStep (fun _ k => XS.goto X111.here hx rfl (pc0 := 185) (pc' := 189) rfl (hb hby at_185) (by decide) (by decide) k) ?_
      show ownGo p.tables e below (T111.setTop (mkF m 189 #[.val (.int pa), .val (.int pb), .val (.int pc_), .val (.int pe), .val (.int pf), .val (.int (3 : Int32)), .val (.int (0 : Int32)), .val (.int kq), .val (.int c1), .val (.int c2), .val (.int c3), .val (.int kq), .val (.ref sb_85), .val (.ref sb_93), .val (.ref sb_98), .val (.ref sb_85)] [(.int (1 : Int32))])) _
      exact ownRet X111 (v := some (.int (1 : Int32))) Bd.notSynchronized (fun h => by rw [Bd.returns] at h; cases h) (fun _ hr => retN X111 hx (t := .boolean) Bd.returns (by simp) (hb hby at_189) hr) (by rw [R111]; exact ⟨rfl, N111, (own_extOf KP101)⟩) (by decide) (by decide)
    · skip
      rw [hk]
      refine ownStep (fun _ k => XS.istore X0.here hx rfl (hb hby at_13) rfl (l' := #[.val (.int pa), .val (.int pb), .val (.int pc_), .val (.int pe), .val (.int pf), .val (.int (3 : Int32)), .val (.int (1 : Int32)), .unset, .unset, .unset, .unset, .unset, .unset, .unset, .unset, .unset]) rfl k) ?_
      refine ownStep (fun _ k => XS.iloadN X0.here hx rfl (hb hby at_15) rfl  k) ?_
      refine ownStep (fun _ k => XS.sipush X0.here hx rfl (hb hby at_16) k) ?_
      refine ownStep (fun _ k => XS.iand X0.here hx rfl (hb hby at_19) rfl k) ?_
      show ownGo p.tables e below (s₁.setTop (mkF m 20 #[.val (.int pa), .val (.int pb), .val (.int pc_), .val (.int pe), .val (.int pf), .val (.int (3 : Int32)), .val (.int (1 : Int32)), .unset, .unset, .unset, .unset, .unset, .unset, .unset, .unset, .unset] [(.int (pa &&& (255 : Int32)))])) _
      refine ownStep (fun _ k => XS.i2c X0.here hx rfl (hb hby at_20) rfl k) ?_
      show ownGo p.tables e below (s₁.setTop (mkF m 21 #[.val (.int pa), .val (.int pb), .val (.int pc_), .val (.int pe), .val (.int pf), .val (.int (3 : Int32)), .val (.int (1 : Int32)), .unset, .unset, .unset, .unset, .unset, .unset, .unset, .unset, .unset] [(.int ((pa &&& (255 : Int32)).toUInt32.toUInt16.toUInt32.toInt32))])) _
      obtain ⟨c0, h_c0, l_c0, u_c0⟩ : ∃ z, ((pa &&& (255 : Int32)).toUInt32.toUInt16.toUInt32.toInt32) = z ∧ ¬ z < (0 : Int32) ∧ ¬ (255 : Int32) < z := own_char _
      rw [h_c0]
      refine ownStep (fun _ k => XS.istore X0.here hx rfl (hb hby at_21) rfl (l' := #[.val (.int pa), .val (.int pb), .val (.int pc_), .val (.int pe), .val (.int pf), .val (.int (3 : Int32)), .val (.int (1 : Int32)), .val (.int c0), .unset, .unset, .unset, .unset, .unset, .unset, .unset, .unset]) rfl k) ?_
      refine ownStep (fun _ k => XS.iloadN X0.here hx rfl (hb hby at_23) rfl  k) ?_
      refine ownStep (fun _ k => XS.bipush X0.here hx rfl (hb hby at_24) k) ?_
      refine ownStep (fun _ k => XS.iushr X0.here hx rfl (hb hby at_26) rfl k) ?_
      show ownGo p.tables e below (s₁.setTop (mkF m 27 #[.val (.int pa), .val (.int pb), .val (.int pc_), .val (.int pe), .val (.int pf), .val (.int (3 : Int32)), .val (.int (1 : Int32)), .val (.int c0), .unset, .unset, .unset, .unset, .unset, .unset, .unset, .unset] [(.int ((pa.toUInt32 >>> ((8 : Int32) &&& 31).toUInt32).toInt32))])) _
      refine ownStep (fun _ k => XS.sipush X0.here hx rfl (hb hby at_27) k) ?_
      refine ownStep (fun _ k => XS.iand X0.here hx rfl (hb hby at_30) rfl k) ?_
      refine ownStep (fun _ k => XS.i2c X0.here hx rfl (hb hby at_31) rfl k) ?_
      show ownGo p.tables e below (s₁.setTop (mkF m 32 #[.val (.int pa), .val (.int pb), .val (.int pc_), .val (.int pe), .val (.int pf), .val (.int (3 : Int32)), .val (.int (1 : Int32)), .val (.int c0), .unset, .unset, .unset, .unset, .unset, .unset, .unset, .unset] [(.int ((((pa.toUInt32 >>> ((8 : Int32) &&& 31).toUInt32).toInt32) &&& (255 : Int32)).toUInt32.toUInt16.toUInt32.toInt32))])) _
      obtain ⟨c1, h_c1, l_c1, u_c1⟩ : ∃ z, ((((pa.toUInt32 >>> ((8 : Int32) &&& 31).toUInt32).toInt32) &&& (255 : Int32)).toUInt32.toUInt16.toUInt32.toInt32) = z ∧ ¬ z < (0 : Int32) ∧ ¬ (255 : Int32) < z := own_char _
      rw [h_c1]
      refine ownStep (fun _ k => XS.istore X0.here hx rfl (hb hby at_32) rfl (l' := #[.val (.int pa), .val (.int pb), .val (.int pc_), .val (.int pe), .val (.int pf), .val (.int (3 : Int32)), .val (.int (1 : Int32)), .val (.int c0), .val (.int c1), .unset, .unset, .unset, .unset, .unset, .unset, .unset]) rfl k) ?_
      refine ownStep (fun _ k => XS.iloadN X0.here hx rfl (hb hby at_34) rfl  k) ?_
      refine ownStep (fun _ k => XS.bipush X0.here hx rfl (hb hby at_35) k) ?_
      refine ownStep (fun _ k => XS.iushr X0.here hx rfl (hb hby at_37) rfl k) ?_
      show ownGo p.tables e below (s₁.setTop (mkF m 38 #[.val (.int pa), .val (.int pb), .val (.int pc_), .val (.int pe), .val (.int pf), .val (.int (3 : Int32)), .val (.int (1 : Int32)), .val (.int c0), .val (.int c1), .unset, .unset, .unset, .unset, .unset, .unset, .unset] [(.int ((pa.toUInt32 >>> ((16 : Int32) &&& 31).toUInt32).toInt32))])) _
      refine ownStep (fun _ k => XS.sipush X0.here hx rfl (hb hby at_38) k) ?_
      refine ownStep (fun _ k => XS.iand X0.here hx rfl (hb hby at_41) rfl k) ?_
      refine ownStep (fun _ k => XS.i2c X0.here hx rfl (hb hby at_42) rfl k) ?_
      show ownGo p.tables e below (s₁.setTop (mkF m 43 #[.val (.int pa), .val (.int pb), .val (.int pc_), .val (.int pe), .val (.int pf), .val (.int (3 : Int32)), .val (.int (1 : Int32)), .val (.int c0), .val (.int c1), .unset, .unset, .unset, .unset, .unset, .unset, .unset] [(.int ((((pa.toUInt32 >>> ((16 : Int32) &&& 31).toUInt32).toInt32) &&& (255 : Int32)).toUInt32.toUInt16.toUInt32.toInt32))])) _
      obtain ⟨c2, h_c2, l_c2, u_c2⟩ : ∃ z, ((((pa.toUInt32 >>> ((16 : Int32) &&& 31).toUInt32).toInt32) &&& (255 : Int32)).toUInt32.toUInt16.toUInt32.toInt32) = z ∧ ¬ z < (0 : Int32) ∧ ¬ (255 : Int32) < z := own_char _
      rw [h_c2]
      refine ownStep (fun _ k => XS.istore X0.here hx rfl (hb hby at_43) rfl (l' := #[.val (.int pa), .val (.int pb), .val (.int pc_), .val (.int pe), .val (.int pf), .val (.int (3 : Int32)), .val (.int (1 : Int32)), .val (.int c0), .val (.int c1), .val (.int c2), .unset, .unset, .unset, .unset, .unset, .unset]) rfl k) ?_
      refine ownStep (fun _ k => XS.iloadN X0.here hx rfl (hb hby at_45) rfl  k) ?_
      refine ownStep (fun _ k => XS.bipush X0.here hx rfl (hb hby at_46) k) ?_
      refine ownStep (fun _ k => XS.iushr X0.here hx rfl (hb hby at_48) rfl k) ?_
      show ownGo p.tables e below (s₁.setTop (mkF m 49 #[.val (.int pa), .val (.int pb), .val (.int pc_), .val (.int pe), .val (.int pf), .val (.int (3 : Int32)), .val (.int (1 : Int32)), .val (.int c0), .val (.int c1), .val (.int c2), .unset, .unset, .unset, .unset, .unset, .unset] [(.int ((pa.toUInt32 >>> ((24 : Int32) &&& 31).toUInt32).toInt32))])) _
      refine ownStep (fun _ k => XS.sipush X0.here hx rfl (hb hby at_49) k) ?_
      refine ownStep (fun _ k => XS.iand X0.here hx rfl (hb hby at_52) rfl k) ?_
      refine ownStep (fun _ k => XS.i2c X0.here hx rfl (hb hby at_53) rfl k) ?_
      show ownGo p.tables e below (s₁.setTop (mkF m 54 #[.val (.int pa), .val (.int pb), .val (.int pc_), .val (.int pe), .val (.int pf), .val (.int (3 : Int32)), .val (.int (1 : Int32)), .val (.int c0), .val (.int c1), .val (.int c2), .unset, .unset, .unset, .unset, .unset, .unset] [(.int ((((pa.toUInt32 >>> ((24 : Int32) &&& 31).toUInt32).toInt32) &&& (255 : Int32)).toUInt32.toUInt16.toUInt32.toInt32))])) _
      obtain ⟨c3, h_c3, l_c3, u_c3⟩ : ∃ z, ((((pa.toUInt32 >>> ((24 : Int32) &&& 31).toUInt32).toInt32) &&& (255 : Int32)).toUInt32.toUInt16.toUInt32.toInt32) = z ∧ ¬ z < (0 : Int32) ∧ ¬ (255 : Int32) < z := own_char _
      rw [h_c3]
      refine ownStep (fun _ k => XS.istore X0.here hx rfl (hb hby at_54) rfl (l' := #[.val (.int pa), .val (.int pb), .val (.int pc_), .val (.int pe), .val (.int pf), .val (.int (3 : Int32)), .val (.int (1 : Int32)), .val (.int c0), .val (.int c1), .val (.int c2), .val (.int c3), .unset, .unset, .unset, .unset, .unset]) rfl k) ?_
      refine ownStep (fun _ k => XS.bipush X0.here hx rfl (hb hby at_56) k) ?_
      refine ownStep (fun _ k => XS.iload X0.here hx rfl (hb hby at_58) rfl  k) ?_
      refine ownStep (fun _ k => XS.iconst X0.here hx rfl (hb hby at_60) k) ?_
      show ownGo p.tables e below (s₁.setTop (mkF m 61 #[.val (.int pa), .val (.int pb), .val (.int pc_), .val (.int pe), .val (.int pf), .val (.int (3 : Int32)), .val (.int (1 : Int32)), .val (.int c0), .val (.int c1), .val (.int c2), .val (.int c3), .unset, .unset, .unset, .unset, .unset] [(.int (1 : Int32)), (.int pf), (.int (33 : Int32))])) _
      refine ownStep (fun _ k => XS.iushr X0.here hx rfl (hb hby at_61) rfl k) ?_
      refine ownStep (fun _ k => XS.bipush X0.here hx rfl (hb hby at_62) k) ?_
      show ownGo p.tables e below (s₁.setTop (mkF m 64 #[.val (.int pa), .val (.int pb), .val (.int pc_), .val (.int pe), .val (.int pf), .val (.int (3 : Int32)), .val (.int (1 : Int32)), .val (.int c0), .val (.int c1), .val (.int c2), .val (.int c3), .unset, .unset, .unset, .unset, .unset] [(.int (94 : Int32)), (.int ((pf.toUInt32 >>> ((1 : Int32) &&& 31).toUInt32).toInt32)), (.int (33 : Int32))])) _
      refine ownStep (fun _ k => iremM X0 hx rfl (hb hby at_64) rfl (by decide) k) ?_
      refine ownStep (fun _ k => XS.iadd X0.here hx rfl (hb hby at_65) rfl k) ?_
      refine ownStep (fun _ k => XS.i2c X0.here hx rfl (hb hby at_66) rfl k) ?_
      show ownGo p.tables e below (s₁.setTop (mkF m 67 #[.val (.int pa), .val (.int pb), .val (.int pc_), .val (.int pe), .val (.int pf), .val (.int (3 : Int32)), .val (.int (1 : Int32)), .val (.int c0), .val (.int c1), .val (.int c2), .val (.int c3), .unset, .unset, .unset, .unset, .unset] [(.int (((33 : Int32) + (((pf.toUInt32 >>> ((1 : Int32) &&& 31).toUInt32).toInt32) % (94 : Int32))).toUInt32.toUInt16.toUInt32.toInt32))])) _
      obtain ⟨kq, h_kq, l_kq, u_kq, kp_kq⟩ : ∃ z, (((33 : Int32) + (((pf.toUInt32 >>> ((1 : Int32) &&& 31).toUInt32).toInt32) % (94 : Int32))).toUInt32.toUInt16.toUInt32.toInt32) = z ∧ ¬ z < (0 : Int32) ∧ ¬ (255 : Int32) < z ∧ own_keep z := own_keepv pf
      rw [h_kq]
      refine ownStep (fun _ k => XS.istore X0.here hx rfl (hb hby at_67) rfl (l' := #[.val (.int pa), .val (.int pb), .val (.int pc_), .val (.int pe), .val (.int pf), .val (.int (3 : Int32)), .val (.int (1 : Int32)), .val (.int c0), .val (.int c1), .val (.int c2), .val (.int c3), .val (.int kq), .unset, .unset, .unset, .unset]) rfl k) ?_
      refine ownStep (fun _ k => XS.iload X0.here hx rfl (hb hby at_69) rfl  k) ?_
      refine ownStep (fun _ k => XS.ifYes X0.here hx rfl (pc0 := 71) (pc' := 81) rfl (hb hby at_71) rfl ((if0 _ _).trans (feq (by decide : ¬ (1 : Int32) = (0 : Int32))).2) (by decide) (by decide) k) ?_
      refine ownStep (fun _ k => XS.iload X0.here hx rfl (hb hby at_81) rfl  k) ?_
      show ownGo p.tables e below (s₁.setTop (mkF m 83 #[.val (.int pa), .val (.int pb), .val (.int pc_), .val (.int pe), .val (.int pf), .val (.int (3 : Int32)), .val (.int (1 : Int32)), .val (.int c0), .val (.int c1), .val (.int c2), .val (.int c3), .val (.int kq), .unset, .unset, .unset, .unset] [(.int (1 : Int32))])) _
      refine ownStep (fun _ k => XS.iconst X0.here hx rfl (hb hby at_83) k) ?_
      refine ownStep (fun _ k => XS.icmpNo X0.here hx rfl (hb hby at_84) rfl (teq (by decide : (1 : Int32) = (1 : Int32))).2 k) ?_
      refine ownStep (fun _ k => XS.iload X0.here hx rfl (hb hby at_87) rfl  k) ?_
      refine ownStep (fun _ k => XS.istore X0.here hx rfl (hb hby at_89) rfl (l' := #[.val (.int pa), .val (.int pb), .val (.int pc_), .val (.int pe), .val (.int pf), .val (.int (3 : Int32)), .val (.int (1 : Int32)), .val (.int c0), .val (.int kq), .val (.int c2), .val (.int c3), .val (.int kq), .unset, .unset, .unset, .unset]) rfl k) ?_
      refine ownStep (fun _ k => XS.goto X0.here hx rfl (pc0 := 91) (pc' := 111) rfl (hb hby at_91) (by decide) (by decide) k) ?_
      show ownGo p.tables e below (s₁.setTop (mkF m 111 #[.val (.int pa), .val (.int pb), .val (.int pc_), .val (.int pe), .val (.int pf), .val (.int (3 : Int32)), .val (.int (1 : Int32)), .val (.int c0), .val (.int kq), .val (.int c2), .val (.int c3), .val (.int kq), .unset, .unset, .unset, .unset] [])) _
      refine ownStep (fun _ k => XS.iload X0.here hx rfl (hb hby at_111) rfl  k) ?_
      refine ownStep (fun _ k => XS.iload X0.here hx rfl (hb hby at_113) rfl  k) ?_
      refine ownStep (fun _ k => XS.iload X0.here hx rfl (hb hby at_115) rfl  k) ?_
      refine ownStep (fun _ k => XS.iload X0.here hx rfl (hb hby at_117) rfl  k) ?_
      refine ownStep (fun _ k => XS.iload X0.here hx rfl (hb hby at_119) rfl  k) ?_
      show ownGo p.tables e below (s₁.setTop (mkF m 121 #[.val (.int pa), .val (.int pb), .val (.int pc_), .val (.int pe), .val (.int pf), .val (.int (3 : Int32)), .val (.int (1 : Int32)), .val (.int c0), .val (.int kq), .val (.int c2), .val (.int c3), .val (.int kq), .unset, .unset, .unset, .unset] [(.int c3), (.int c2), (.int kq), (.int c0), (.int (3 : Int32))])) _
      have Zs114 : n0 ≤ h0.size := Nat.le_trans Z0 KP0.1
      obtain ⟨_, _, ⟨T113, L113, k113, n113⟩, -, X113, ⟨Lc113, hQ113, l113, y113, z113⟩, st113⟩ := Jvm.LawKit.callS X0 hx (y := (⟨"com/example/circuline/circuline/circulation/BarcodesRequiredPinLaw", "make", "(ICCCC)Ljava/lang/String;"⟩ : MethodName)) hown (mvT hZ (hw _ (List.mem_of_getElem? (i := 0) rfl))) (mvT hZ (hw _ (List.mem_of_getElem? (i := 1) rfl))) (mvT hZ (hw _ (List.mem_of_getElem? (i := 2) rfl))) (mvT hZ (hw _ (List.mem_of_getElem? (i := 3) rfl))) (by decide) (backOf (W := 0) (own_mk3 l Z a0 hw [] zc c0 kq c2 c3 h0 n0 Zs114 hOld Scs hzc l_c0 u_c0 l_kq u_kq l_c2 u_c2 l_c3 u_c3) hZ (hw _ (List.mem_of_getElem? (i := 3) rfl)) (hw _ (List.mem_of_getElem? (i := 2) rfl)) (by decide) (by decide)) (g := (mkF m 121 #[.val (.int pa), .val (.int pb), .val (.int pc_), .val (.int pe), .val (.int pf), .val (.int (3 : Int32)), .val (.int (1 : Int32)), .val (.int c0), .val (.int kq), .val (.int c2), .val (.int c3), .val (.int kq), .unset, .unset, .unset, .unset] [(.int c3), (.int c2), (.int kq), (.int c0), (.int (3 : Int32))])) rfl (by rw [hml]; rfl) (argsL := [(.int (3 : Int32)), (.int c0), (.int kq), (.int c2), (.int c3)]) (rest := []) (lenOf own_law_pd0 rfl) rfl (by show 2 * 0 + _ ≤ _; exact Nat.le_of_eq rfl) (hb hby at_121) (fun _ _ => ⟨rfl, e0, (by decide : 0 + 3 ≤ _), (by decide : 0 + 10 ≤ _)⟩)
      dsimp only [Pt.U, Pt.locs, Pt.cells, Pt.slots] at X113 l113 y113 z113 st113 hQ113
      obtain rfl : k113 = 3 := y113
      obtain rfl : n113 = 10 := z113
      obtain ⟨sb_113, tb_113, kb_113, rfl, N113q, R113, P115, P116, P117, P118⟩ := hQ113
      have N113 : Fr n0 L113 := l113 ▸ Fr.app N0 N113q
      refine ownStep (fun _ k => st113 _ k) ?_
      have KP119 : Keep h0 T113.heap [] := KP0.ext R113
      refine ownStep (fun _ k => XS.astore X113.here hx rfl (hb hby at_124) rfl rfl (l' := #[.val (.int pa), .val (.int pb), .val (.int pc_), .val (.int pe), .val (.int pf), .val (.int (3 : Int32)), .val (.int (1 : Int32)), .val (.int c0), .val (.int kq), .val (.int c2), .val (.int c3), .val (.int kq), .val (.ref sb_113), .unset, .unset, .unset]) rfl k) ?_
      refine ownStep (fun _ k => XS.iloadN X113.here hx rfl (hb hby at_126) rfl  k) ?_
      refine ownStep (fun _ k => XS.sipush X113.here hx rfl (hb hby at_127) k) ?_
      refine ownStep (fun _ k => XS.iand X113.here hx rfl (hb hby at_130) rfl k) ?_
      show ownGo p.tables e below (T113.setTop (mkF m 131 #[.val (.int pa), .val (.int pb), .val (.int pc_), .val (.int pe), .val (.int pf), .val (.int (3 : Int32)), .val (.int (1 : Int32)), .val (.int c0), .val (.int kq), .val (.int c2), .val (.int c3), .val (.int kq), .val (.ref sb_113), .unset, .unset, .unset] [(.int (pb &&& (255 : Int32)))])) _
      refine ownStep (fun _ k => XS.i2c X113.here hx rfl (hb hby at_131) rfl k) ?_
      show ownGo p.tables e below (T113.setTop (mkF m 132 #[.val (.int pa), .val (.int pb), .val (.int pc_), .val (.int pe), .val (.int pf), .val (.int (3 : Int32)), .val (.int (1 : Int32)), .val (.int c0), .val (.int kq), .val (.int c2), .val (.int c3), .val (.int kq), .val (.ref sb_113), .unset, .unset, .unset] [(.int ((pb &&& (255 : Int32)).toUInt32.toUInt16.toUInt32.toInt32))])) _
      obtain ⟨f0, h_f0, l_f0, u_f0⟩ : ∃ z, ((pb &&& (255 : Int32)).toUInt32.toUInt16.toUInt32.toInt32) = z ∧ ¬ z < (0 : Int32) ∧ ¬ (255 : Int32) < z := own_char _
      rw [h_f0]
      show ownGo p.tables e below (T113.setTop (mkF m 132 #[.val (.int pa), .val (.int pb), .val (.int pc_), .val (.int pe), .val (.int pf), .val (.int (3 : Int32)), .val (.int (1 : Int32)), .val (.int c0), .val (.int kq), .val (.int c2), .val (.int c3), .val (.int kq), .val (.ref sb_113), .unset, .unset, .unset] [(.int f0)])) _
      have Q120 : Old Z n0 T113.heap := (hOld.ext R113)
      have Zs122 : n0 ≤ T113.heap.size := Nat.le_trans Z0 KP119.1
      obtain ⟨_, _, ⟨T121, L121, k121, n121⟩, -, X121, ⟨Lc121, hQ121, l121, y121, z121⟩, st121⟩ := Jvm.LawKit.callS X113 hx (y := (⟨"java/lang/String", "valueOf", "(C)Ljava/lang/String;"⟩ : MethodName)) hown (mvT hZ (hw _ (List.mem_of_getElem? (i := 34) rfl))) (mvT hZ (hw _ (List.mem_of_getElem? (i := 35) rfl))) (mvT hZ (hw _ (List.mem_of_getElem? (i := 6) rfl))) (mvT hZ (hw _ (List.mem_of_getElem? (i := 36) rfl))) (by decide) (backOf (W := 0) (own_vo l Z a0 hw [] zc f0 T113.heap n0 Zs122 Q120 Scs hzc l_f0 u_f0) hZ (hw _ (List.mem_of_getElem? (i := 36) rfl)) (hw _ (List.mem_of_getElem? (i := 6) rfl)) (by decide) (by decide)) (g := (mkF m 132 #[.val (.int pa), .val (.int pb), .val (.int pc_), .val (.int pe), .val (.int pf), .val (.int (3 : Int32)), .val (.int (1 : Int32)), .val (.int c0), .val (.int kq), .val (.int c2), .val (.int c3), .val (.int kq), .val (.ref sb_113), .unset, .unset, .unset] [(.int f0)])) rfl (by rw [hml]; rfl) (argsL := [(.int f0)]) (rest := []) (lenOf own_law_pd1 rfl) rfl (by show 2 * 0 + _ ≤ _; exact Nat.le_of_eq rfl) (hb hby at_132) (fun _ _ => ⟨rfl, rfl, (by decide : 3 + 2 ≤ _), (by decide : 10 + 5 ≤ _)⟩)
      dsimp only [Pt.U, Pt.locs, Pt.cells, Pt.slots] at X121 l121 y121 z121 st121 hQ121
      obtain rfl : k121 = 5 := y121
      obtain rfl : n121 = 15 := z121
      obtain ⟨sb_121, rfl, N121q, R121, P123⟩ := hQ121
      have N121 : Fr n0 L121 := l121 ▸ Fr.app N113 N121q
      refine ownStep (fun _ k => st121 _ k) ?_
      have KP124 : Keep h0 T121.heap [] := KP119.ext R121
      refine ownStep (fun _ k => XS.astore X121.here hx rfl (hb hby at_135) rfl rfl (l' := #[.val (.int pa), .val (.int pb), .val (.int pc_), .val (.int pe), .val (.int pf), .val (.int (3 : Int32)), .val (.int (1 : Int32)), .val (.int c0), .val (.int kq), .val (.int c2), .val (.int c3), .val (.int kq), .val (.ref sb_113), .val (.ref sb_121), .unset, .unset]) rfl k) ?_
      refine ownStep (fun _ k => XS.iloadN X121.here hx rfl (hb hby at_137) rfl  k) ?_
      refine ownStep (fun _ k => XS.sipush X121.here hx rfl (hb hby at_138) k) ?_
      refine ownStep (fun _ k => XS.iand X121.here hx rfl (hb hby at_141) rfl k) ?_
      show ownGo p.tables e below (T121.setTop (mkF m 142 #[.val (.int pa), .val (.int pb), .val (.int pc_), .val (.int pe), .val (.int pf), .val (.int (3 : Int32)), .val (.int (1 : Int32)), .val (.int c0), .val (.int kq), .val (.int c2), .val (.int c3), .val (.int kq), .val (.ref sb_113), .val (.ref sb_121), .unset, .unset] [(.int (pc_ &&& (255 : Int32)))])) _
      refine ownStep (fun _ k => XS.i2c X121.here hx rfl (hb hby at_142) rfl k) ?_
      show ownGo p.tables e below (T121.setTop (mkF m 143 #[.val (.int pa), .val (.int pb), .val (.int pc_), .val (.int pe), .val (.int pf), .val (.int (3 : Int32)), .val (.int (1 : Int32)), .val (.int c0), .val (.int kq), .val (.int c2), .val (.int c3), .val (.int kq), .val (.ref sb_113), .val (.ref sb_121), .unset, .unset] [(.int ((pc_ &&& (255 : Int32)).toUInt32.toUInt16.toUInt32.toInt32))])) _
      obtain ⟨f1, h_f1, l_f1, u_f1⟩ : ∃ z, ((pc_ &&& (255 : Int32)).toUInt32.toUInt16.toUInt32.toInt32) = z ∧ ¬ z < (0 : Int32) ∧ ¬ (255 : Int32) < z := own_char _
      rw [h_f1]
      show ownGo p.tables e below (T121.setTop (mkF m 143 #[.val (.int pa), .val (.int pb), .val (.int pc_), .val (.int pe), .val (.int pf), .val (.int (3 : Int32)), .val (.int (1 : Int32)), .val (.int c0), .val (.int kq), .val (.int c2), .val (.int c3), .val (.int kq), .val (.ref sb_113), .val (.ref sb_121), .unset, .unset] [(.int f1)])) _
      have Q125 : Old Z n0 T121.heap := (Q120.ext R121)
      have Zs127 : n0 ≤ T121.heap.size := Nat.le_trans Z0 KP124.1
      obtain ⟨_, _, ⟨T126, L126, k126, n126⟩, -, X126, ⟨Lc126, hQ126, l126, y126, z126⟩, st126⟩ := Jvm.LawKit.callS X121 hx (y := (⟨"java/lang/String", "valueOf", "(C)Ljava/lang/String;"⟩ : MethodName)) hown (mvT hZ (hw _ (List.mem_of_getElem? (i := 34) rfl))) (mvT hZ (hw _ (List.mem_of_getElem? (i := 35) rfl))) (mvT hZ (hw _ (List.mem_of_getElem? (i := 6) rfl))) (mvT hZ (hw _ (List.mem_of_getElem? (i := 36) rfl))) (by decide) (backOf (W := 0) (own_vo l Z a0 hw [] zc f1 T121.heap n0 Zs127 Q125 Scs hzc l_f1 u_f1) hZ (hw _ (List.mem_of_getElem? (i := 36) rfl)) (hw _ (List.mem_of_getElem? (i := 6) rfl)) (by decide) (by decide)) (g := (mkF m 143 #[.val (.int pa), .val (.int pb), .val (.int pc_), .val (.int pe), .val (.int pf), .val (.int (3 : Int32)), .val (.int (1 : Int32)), .val (.int c0), .val (.int kq), .val (.int c2), .val (.int c3), .val (.int kq), .val (.ref sb_113), .val (.ref sb_121), .unset, .unset] [(.int f1)])) rfl (by rw [hml]; rfl) (argsL := [(.int f1)]) (rest := []) (lenOf own_law_pd1 rfl) rfl (by show 2 * 0 + _ ≤ _; exact Nat.le_of_eq rfl) (hb hby at_143) (fun _ _ => ⟨rfl, rfl, (by decide : 5 + 2 ≤ _), (by decide : 15 + 5 ≤ _)⟩)
      dsimp only [Pt.U, Pt.locs, Pt.cells, Pt.slots] at X126 l126 y126 z126 st126 hQ126
      obtain rfl : k126 = 7 := y126
      obtain rfl : n126 = 20 := z126
      obtain ⟨sb_126, rfl, N126q, R126, P128⟩ := hQ126
      have N126 : Fr n0 L126 := l126 ▸ Fr.app N121 N126q
      refine ownStep (fun _ k => st126 _ k) ?_
      have KP129 : Keep h0 T126.heap [] := KP124.ext R126
      refine ownStep (fun _ k => XS.astore X126.here hx rfl (hb hby at_146) rfl rfl (l' := #[.val (.int pa), .val (.int pb), .val (.int pc_), .val (.int pe), .val (.int pf), .val (.int (3 : Int32)), .val (.int (1 : Int32)), .val (.int c0), .val (.int kq), .val (.int c2), .val (.int c3), .val (.int kq), .val (.ref sb_113), .val (.ref sb_121), .val (.ref sb_126), .unset]) rfl k) ?_
      refine ownStep (fun _ k => XS.aload X126.here hx rfl (hb hby at_148) rfl rfl k) ?_
      refine ownStep (fun _ k => XS.aload X126.here hx rfl (hb hby at_150) rfl rfl k) ?_
      refine ownStep (fun _ k => XS.aload X126.here hx rfl (hb hby at_152) rfl rfl k) ?_
      show ownGo p.tables e below (T126.setTop (mkF m 154 #[.val (.int pa), .val (.int pb), .val (.int pc_), .val (.int pe), .val (.int pf), .val (.int (3 : Int32)), .val (.int (1 : Int32)), .val (.int c0), .val (.int kq), .val (.int c2), .val (.int c3), .val (.int kq), .val (.ref sb_113), .val (.ref sb_121), .val (.ref sb_126), .unset] [(.ref sb_126), (.ref sb_121), (.ref sb_113)])) _
      have Q130 : Old Z n0 T126.heap := (Q125.ext R126)
      have Q131 : Exa Z T126.heap sb_113 "java/lang/String" := ((P115.ext R121).ext R126)
      have Q132 : Fld Z T126.heap sb_113 "java/lang/String" "coder" "B" (.int (0 : Int32)) := ((P116.ext R121).ext R126)
      have Q133 : Fld Z T126.heap sb_113 "java/lang/String" "value" "[B" (.ref tb_113) := ((P117.ext R121).ext R126)
      have Q134 : Arv Z T126.heap tb_113 kb_113 .byte (3 : Int32) [(.int c0.toInt8.toInt32), (.int kq.toInt8.toInt32), (.int c2.toInt8.toInt32)] (.int (0 : Int32)) := ((P118.ext R121).ext R126)
      have Zs136 : n0 ≤ T126.heap.size := Nat.le_trans Z0 KP129.1
      obtain ⟨_, _, ⟨T135, L135, k135, n135⟩, -, X135, ⟨Lc135, hQ135, l135, y135, z135⟩, st135⟩ := Jvm.LawKit.callS X126 hx (y := (⟨"com/example/circuline/circuline/circulation/Barcodes", "required", "(Ljava/lang/String;Ljava/lang/String;Ljava/lang/String;)Ljava/lang/String;"⟩ : MethodName)) hown (mvT hZ (hw _ (List.mem_of_getElem? (i := 48) rfl))) (mvT hZ (hw _ (List.mem_of_getElem? (i := 49) rfl))) (mvT hZ (hw _ (List.mem_of_getElem? (i := 50) rfl))) (mvT hZ (hw _ (List.mem_of_getElem? (i := 51) rfl))) (by decide) (backOf (W := 0) (own_req3 l Z a0 hw [] zc ci ta clt sb_113 tb_113 kb_113 c0 kq c2 sb_121 sb_126 T126.heap n0 Zs136 Q130 Scs hzc Sci Eci Sca Tab Q131 Q132 Q133 Q134 l_c0 u_c0 l_kq u_kq l_c2 u_c2 (Or.inr (Or.inl kp_kq))) hZ (hw _ (List.mem_of_getElem? (i := 51) rfl)) (hw _ (List.mem_of_getElem? (i := 50) rfl)) (by decide) (by decide)) (g := (mkF m 154 #[.val (.int pa), .val (.int pb), .val (.int pc_), .val (.int pe), .val (.int pf), .val (.int (3 : Int32)), .val (.int (1 : Int32)), .val (.int c0), .val (.int kq), .val (.int c2), .val (.int c3), .val (.int kq), .val (.ref sb_113), .val (.ref sb_121), .val (.ref sb_126), .unset] [(.ref sb_126), (.ref sb_121), (.ref sb_113)])) rfl (by rw [hml]; rfl) (argsL := [(.ref sb_113), (.ref sb_121), (.ref sb_126)]) (rest := []) (lenOf own_law_pd2 rfl) rfl (by show 2 * 0 + _ ≤ _; exact Nat.le_of_eq rfl) (hb hby at_154) (fun _ _ => ⟨rfl, rfl, (by decide : 7 + 0 ≤ _), (by decide : 20 + 0 ≤ _)⟩)
      dsimp only [Pt.U, Pt.locs, Pt.cells, Pt.slots] at X135 l135 y135 z135 st135 hQ135
      obtain rfl : k135 = 7 := y135
      obtain rfl : n135 = 20 := z135
      obtain ⟨rfl, N135q, R135⟩ := hQ135
      have N135 : Fr n0 L135 := l135 ▸ Fr.app N126 N135q
      refine ownStep (fun _ k => st135 _ k) ?_
      refine ownStep (fun _ k => XS.astore X135.here hx rfl (hb hby at_157) rfl rfl (l' := #[.val (.int pa), .val (.int pb), .val (.int pc_), .val (.int pe), .val (.int pf), .val (.int (3 : Int32)), .val (.int (1 : Int32)), .val (.int c0), .val (.int kq), .val (.int c2), .val (.int c3), .val (.int kq), .val (.ref sb_113), .val (.ref sb_121), .val (.ref sb_126), .val (.ref sb_113)]) rfl k) ?_
      refine ownStep (fun _ k => XS.aload X135.here hx rfl (hb hby at_159) rfl rfl k) ?_
      refine ownStep (fun _ k => XS.ifnullNo X135.here hx rfl (hb hby at_161) rfl k) ?_
      refine ownStep (fun _ k => XS.aload X135.here hx rfl (hb hby at_164) rfl rfl k) ?_
      show ownGo p.tables e below (T135.setTop (mkF m 166 #[.val (.int pa), .val (.int pb), .val (.int pc_), .val (.int pe), .val (.int pf), .val (.int (3 : Int32)), .val (.int (1 : Int32)), .val (.int c0), .val (.int kq), .val (.int c2), .val (.int c3), .val (.int kq), .val (.ref sb_113), .val (.ref sb_121), .val (.ref sb_126), .val (.ref sb_113)] [(.ref sb_113)])) _
      have Zs138 : n0 ≤ T126.heap.size := Nat.le_trans Z0 KP129.1
      obtain ⟨cq137, kq137, q137a, q137b, q137c⟩ := isOf hZ R135 Q131
      obtain ⟨_, _, ⟨T137, L137, k137, n137⟩, -, X137, ⟨Lc137, hQ137, l137, y137, z137⟩, st137⟩ := X135.virtualBack hx (y := (⟨"java/lang/String", "length", "()I"⟩ : MethodName)) (z := (⟨"java/lang/String", "length", "()I"⟩ : MethodName)) hown (mvT hZ (hw _ (List.mem_of_getElem? (i := 96) rfl))) (mvT hZ (hw _ (List.mem_of_getElem? (i := 87) rfl))) (notFace_of_selects (args := #[]) (mvT hZ (hw _ (List.mem_of_getElem? (i := 89) rfl)))) (mvT hZ (hw _ (List.mem_of_getElem? (i := 89) rfl))) (mvT hZ (hw _ (List.mem_of_getElem? (i := 88) rfl))) (by decide) (backOf (W := 0) (own_len3 l Z a0 hw [] zc sb_113 tb_113 kb_113 c0 kq c2 T126.heap n0 Zs138 Q130 Scs hzc Q131 Q132 Q133 Q134) hZ (hw _ (List.mem_of_getElem? (i := 90) rfl)) (hw _ (List.mem_of_getElem? (i := 6) rfl)) (by decide) (by decide)) q137a q137c (g := (mkF m 166 #[.val (.int pa), .val (.int pb), .val (.int pc_), .val (.int pe), .val (.int pf), .val (.int (3 : Int32)), .val (.int (1 : Int32)), .val (.int c0), .val (.int kq), .val (.int c2), .val (.int c3), .val (.int kq), .val (.ref sb_113), .val (.ref sb_121), .val (.ref sb_126), .val (.ref sb_113)] [(.ref sb_113)])) rfl (by rw [hml]; rfl) (Steps.refl _) (argsL := []) (rest := []) (lenOf own_law_pd3 rfl) rfl (by show 2 * 0 + _ ≤ _; exact Nat.le_of_eq rfl) (hb hby at_166) (fun _ _ => ⟨rfl, R135, (by decide : 7 + 0 ≤ _), (by decide : 20 + 0 ≤ _)⟩)
      dsimp only [Pt.U, Pt.locs, Pt.cells, Pt.slots] at X137 l137 y137 z137 st137 hQ137
      obtain rfl : k137 = 7 := y137
      obtain rfl : n137 = 20 := z137
      obtain ⟨rfl, N137q, R137⟩ := hQ137
      have N137 : Fr n0 L137 := l137 ▸ Fr.app N135 N137q
      refine ownStep (fun _ k => st137.trans k) ?_
      refine ownStep (fun _ k => XS.iload X137.here hx rfl (hb hby at_169) rfl  k) ?_
      refine ownStep (fun _ k => XS.icmpNo X137.here hx rfl (hb hby at_171) rfl (teq (by decide : (3 : Int32) = (3 : Int32))).2 k) ?_
      refine ownStep (fun _ k => XS.aload X137.here hx rfl (hb hby at_174) rfl rfl k) ?_
      refine ownStep (fun _ k => XS.aload X137.here hx rfl (hb hby at_176) rfl rfl k) ?_
      show ownGo p.tables e below (T137.setTop (mkF m 178 #[.val (.int pa), .val (.int pb), .val (.int pc_), .val (.int pe), .val (.int pf), .val (.int (3 : Int32)), .val (.int (1 : Int32)), .val (.int c0), .val (.int kq), .val (.int c2), .val (.int c3), .val (.int kq), .val (.ref sb_113), .val (.ref sb_121), .val (.ref sb_126), .val (.ref sb_113)] [(.ref sb_113), (.ref sb_113)])) _
      have Zs140 : n0 ≤ T126.heap.size := Nat.le_trans Z0 KP129.1
      obtain ⟨cq139, kq139, q139a, q139b, q139c⟩ := isOf hZ R137 Q131
      obtain ⟨_, _, ⟨T139, L139, k139, n139⟩, -, X139, ⟨Lc139, hQ139, l139, y139, z139⟩, st139⟩ := X137.virtualBack hx (y := (⟨"java/lang/String", "equals", "(Ljava/lang/Object;)Z"⟩ : MethodName)) (z := (⟨"java/lang/String", "equals", "(Ljava/lang/Object;)Z"⟩ : MethodName)) hown (mvT hZ (hw _ (List.mem_of_getElem? (i := 97) rfl))) (mvT hZ (hw _ (List.mem_of_getElem? (i := 98) rfl))) (notFace_of_selects (args := #[]) (mvT hZ (hw _ (List.mem_of_getElem? (i := 100) rfl)))) (mvT hZ (hw _ (List.mem_of_getElem? (i := 100) rfl))) (mvT hZ (hw _ (List.mem_of_getElem? (i := 99) rfl))) (by decide) (backOf (W := 0) (own_eq l Z a0 hw [] sb_113 T126.heap n0 Zs140 ) hZ (hw _ (List.mem_of_getElem? (i := 101) rfl)) (hw _ (List.mem_of_getElem? (i := 6) rfl)) (by decide) (by decide)) q139a q139c (g := (mkF m 178 #[.val (.int pa), .val (.int pb), .val (.int pc_), .val (.int pe), .val (.int pf), .val (.int (3 : Int32)), .val (.int (1 : Int32)), .val (.int c0), .val (.int kq), .val (.int c2), .val (.int c3), .val (.int kq), .val (.ref sb_113), .val (.ref sb_121), .val (.ref sb_126), .val (.ref sb_113)] [(.ref sb_113), (.ref sb_113)])) rfl (by rw [hml]; rfl) (Steps.refl _) (argsL := [(.ref sb_113)]) (rest := []) (lenOf own_law_pd4 rfl) rfl (by show 2 * 0 + _ ≤ _; exact Nat.le_of_eq rfl) (hb hby at_178) (fun _ _ => ⟨rfl, R137, (by decide : 7 + 0 ≤ _), (by decide : 20 + 0 ≤ _)⟩)
      dsimp only [Pt.U, Pt.locs, Pt.cells, Pt.slots] at X139 l139 y139 z139 st139 hQ139
      obtain rfl : k139 = 7 := y139
      obtain rfl : n139 = 20 := z139
      obtain ⟨rfl, N139q, R139⟩ := hQ139
      have N139 : Fr n0 L139 := l139 ▸ Fr.app N137 N139q
      refine ownStep (fun _ k => st139.trans k) ?_
      refine ownStep (fun _ k => XS.ifNo X139.here hx rfl (hb hby at_181) rfl ((if0 _ _).trans (feq (by decide : ¬ (1 : Int32) = (0 : Int32))).1) k) ?_
      refine ownStep (fun _ k => XS.iconst X139.here hx rfl (hb hby at_184) k) ?_
      refine ownStep (fun _ k => XS.goto X139.here hx rfl (pc0 := 185) (pc' := 189) rfl (hb hby at_185) (by decide) (by decide) k) ?_
      show ownGo p.tables e below (T139.setTop (mkF m 189 #[.val (.int pa), .val (.int pb), .val (.int pc_), .val (.int pe), .val (.int pf), .val (.int (3 : Int32)), .val (.int (1 : Int32)), .val (.int c0), .val (.int kq), .val (.int c2), .val (.int c3), .val (.int kq), .val (.ref sb_113), .val (.ref sb_121), .val (.ref sb_126), .val (.ref sb_113)] [(.int (1 : Int32))])) _
      exact ownRet X139 (v := some (.int (1 : Int32))) Bd.notSynchronized (fun h => by rw [Bd.returns] at h; cases h) (fun _ hr => retN X139 hx (t := .boolean) Bd.returns (by simp) (hb hby at_189) hr) (by rw [R139]; exact ⟨rfl, N139, (own_extOf KP129)⟩) (by decide) (by decide)
    · skip
      rw [hk]
      refine ownStep (fun _ k => XS.istore X0.here hx rfl (hb hby at_13) rfl (l' := #[.val (.int pa), .val (.int pb), .val (.int pc_), .val (.int pe), .val (.int pf), .val (.int (3 : Int32)), .val (.int (2 : Int32)), .unset, .unset, .unset, .unset, .unset, .unset, .unset, .unset, .unset]) rfl k) ?_
      refine ownStep (fun _ k => XS.iloadN X0.here hx rfl (hb hby at_15) rfl  k) ?_
      refine ownStep (fun _ k => XS.sipush X0.here hx rfl (hb hby at_16) k) ?_
      refine ownStep (fun _ k => XS.iand X0.here hx rfl (hb hby at_19) rfl k) ?_
      show ownGo p.tables e below (s₁.setTop (mkF m 20 #[.val (.int pa), .val (.int pb), .val (.int pc_), .val (.int pe), .val (.int pf), .val (.int (3 : Int32)), .val (.int (2 : Int32)), .unset, .unset, .unset, .unset, .unset, .unset, .unset, .unset, .unset] [(.int (pa &&& (255 : Int32)))])) _
      refine ownStep (fun _ k => XS.i2c X0.here hx rfl (hb hby at_20) rfl k) ?_
      show ownGo p.tables e below (s₁.setTop (mkF m 21 #[.val (.int pa), .val (.int pb), .val (.int pc_), .val (.int pe), .val (.int pf), .val (.int (3 : Int32)), .val (.int (2 : Int32)), .unset, .unset, .unset, .unset, .unset, .unset, .unset, .unset, .unset] [(.int ((pa &&& (255 : Int32)).toUInt32.toUInt16.toUInt32.toInt32))])) _
      obtain ⟨c0, h_c0, l_c0, u_c0⟩ : ∃ z, ((pa &&& (255 : Int32)).toUInt32.toUInt16.toUInt32.toInt32) = z ∧ ¬ z < (0 : Int32) ∧ ¬ (255 : Int32) < z := own_char _
      rw [h_c0]
      refine ownStep (fun _ k => XS.istore X0.here hx rfl (hb hby at_21) rfl (l' := #[.val (.int pa), .val (.int pb), .val (.int pc_), .val (.int pe), .val (.int pf), .val (.int (3 : Int32)), .val (.int (2 : Int32)), .val (.int c0), .unset, .unset, .unset, .unset, .unset, .unset, .unset, .unset]) rfl k) ?_
      refine ownStep (fun _ k => XS.iloadN X0.here hx rfl (hb hby at_23) rfl  k) ?_
      refine ownStep (fun _ k => XS.bipush X0.here hx rfl (hb hby at_24) k) ?_
      refine ownStep (fun _ k => XS.iushr X0.here hx rfl (hb hby at_26) rfl k) ?_
      show ownGo p.tables e below (s₁.setTop (mkF m 27 #[.val (.int pa), .val (.int pb), .val (.int pc_), .val (.int pe), .val (.int pf), .val (.int (3 : Int32)), .val (.int (2 : Int32)), .val (.int c0), .unset, .unset, .unset, .unset, .unset, .unset, .unset, .unset] [(.int ((pa.toUInt32 >>> ((8 : Int32) &&& 31).toUInt32).toInt32))])) _
      refine ownStep (fun _ k => XS.sipush X0.here hx rfl (hb hby at_27) k) ?_
      refine ownStep (fun _ k => XS.iand X0.here hx rfl (hb hby at_30) rfl k) ?_
      refine ownStep (fun _ k => XS.i2c X0.here hx rfl (hb hby at_31) rfl k) ?_
      show ownGo p.tables e below (s₁.setTop (mkF m 32 #[.val (.int pa), .val (.int pb), .val (.int pc_), .val (.int pe), .val (.int pf), .val (.int (3 : Int32)), .val (.int (2 : Int32)), .val (.int c0), .unset, .unset, .unset, .unset, .unset, .unset, .unset, .unset] [(.int ((((pa.toUInt32 >>> ((8 : Int32) &&& 31).toUInt32).toInt32) &&& (255 : Int32)).toUInt32.toUInt16.toUInt32.toInt32))])) _
      obtain ⟨c1, h_c1, l_c1, u_c1⟩ : ∃ z, ((((pa.toUInt32 >>> ((8 : Int32) &&& 31).toUInt32).toInt32) &&& (255 : Int32)).toUInt32.toUInt16.toUInt32.toInt32) = z ∧ ¬ z < (0 : Int32) ∧ ¬ (255 : Int32) < z := own_char _
      rw [h_c1]
      refine ownStep (fun _ k => XS.istore X0.here hx rfl (hb hby at_32) rfl (l' := #[.val (.int pa), .val (.int pb), .val (.int pc_), .val (.int pe), .val (.int pf), .val (.int (3 : Int32)), .val (.int (2 : Int32)), .val (.int c0), .val (.int c1), .unset, .unset, .unset, .unset, .unset, .unset, .unset]) rfl k) ?_
      refine ownStep (fun _ k => XS.iloadN X0.here hx rfl (hb hby at_34) rfl  k) ?_
      refine ownStep (fun _ k => XS.bipush X0.here hx rfl (hb hby at_35) k) ?_
      refine ownStep (fun _ k => XS.iushr X0.here hx rfl (hb hby at_37) rfl k) ?_
      show ownGo p.tables e below (s₁.setTop (mkF m 38 #[.val (.int pa), .val (.int pb), .val (.int pc_), .val (.int pe), .val (.int pf), .val (.int (3 : Int32)), .val (.int (2 : Int32)), .val (.int c0), .val (.int c1), .unset, .unset, .unset, .unset, .unset, .unset, .unset] [(.int ((pa.toUInt32 >>> ((16 : Int32) &&& 31).toUInt32).toInt32))])) _
      refine ownStep (fun _ k => XS.sipush X0.here hx rfl (hb hby at_38) k) ?_
      refine ownStep (fun _ k => XS.iand X0.here hx rfl (hb hby at_41) rfl k) ?_
      refine ownStep (fun _ k => XS.i2c X0.here hx rfl (hb hby at_42) rfl k) ?_
      show ownGo p.tables e below (s₁.setTop (mkF m 43 #[.val (.int pa), .val (.int pb), .val (.int pc_), .val (.int pe), .val (.int pf), .val (.int (3 : Int32)), .val (.int (2 : Int32)), .val (.int c0), .val (.int c1), .unset, .unset, .unset, .unset, .unset, .unset, .unset] [(.int ((((pa.toUInt32 >>> ((16 : Int32) &&& 31).toUInt32).toInt32) &&& (255 : Int32)).toUInt32.toUInt16.toUInt32.toInt32))])) _
      obtain ⟨c2, h_c2, l_c2, u_c2⟩ : ∃ z, ((((pa.toUInt32 >>> ((16 : Int32) &&& 31).toUInt32).toInt32) &&& (255 : Int32)).toUInt32.toUInt16.toUInt32.toInt32) = z ∧ ¬ z < (0 : Int32) ∧ ¬ (255 : Int32) < z := own_char _
      rw [h_c2]
      refine ownStep (fun _ k => XS.istore X0.here hx rfl (hb hby at_43) rfl (l' := #[.val (.int pa), .val (.int pb), .val (.int pc_), .val (.int pe), .val (.int pf), .val (.int (3 : Int32)), .val (.int (2 : Int32)), .val (.int c0), .val (.int c1), .val (.int c2), .unset, .unset, .unset, .unset, .unset, .unset]) rfl k) ?_
      refine ownStep (fun _ k => XS.iloadN X0.here hx rfl (hb hby at_45) rfl  k) ?_
      refine ownStep (fun _ k => XS.bipush X0.here hx rfl (hb hby at_46) k) ?_
      refine ownStep (fun _ k => XS.iushr X0.here hx rfl (hb hby at_48) rfl k) ?_
      show ownGo p.tables e below (s₁.setTop (mkF m 49 #[.val (.int pa), .val (.int pb), .val (.int pc_), .val (.int pe), .val (.int pf), .val (.int (3 : Int32)), .val (.int (2 : Int32)), .val (.int c0), .val (.int c1), .val (.int c2), .unset, .unset, .unset, .unset, .unset, .unset] [(.int ((pa.toUInt32 >>> ((24 : Int32) &&& 31).toUInt32).toInt32))])) _
      refine ownStep (fun _ k => XS.sipush X0.here hx rfl (hb hby at_49) k) ?_
      refine ownStep (fun _ k => XS.iand X0.here hx rfl (hb hby at_52) rfl k) ?_
      refine ownStep (fun _ k => XS.i2c X0.here hx rfl (hb hby at_53) rfl k) ?_
      show ownGo p.tables e below (s₁.setTop (mkF m 54 #[.val (.int pa), .val (.int pb), .val (.int pc_), .val (.int pe), .val (.int pf), .val (.int (3 : Int32)), .val (.int (2 : Int32)), .val (.int c0), .val (.int c1), .val (.int c2), .unset, .unset, .unset, .unset, .unset, .unset] [(.int ((((pa.toUInt32 >>> ((24 : Int32) &&& 31).toUInt32).toInt32) &&& (255 : Int32)).toUInt32.toUInt16.toUInt32.toInt32))])) _
      obtain ⟨c3, h_c3, l_c3, u_c3⟩ : ∃ z, ((((pa.toUInt32 >>> ((24 : Int32) &&& 31).toUInt32).toInt32) &&& (255 : Int32)).toUInt32.toUInt16.toUInt32.toInt32) = z ∧ ¬ z < (0 : Int32) ∧ ¬ (255 : Int32) < z := own_char _
      rw [h_c3]
      refine ownStep (fun _ k => XS.istore X0.here hx rfl (hb hby at_54) rfl (l' := #[.val (.int pa), .val (.int pb), .val (.int pc_), .val (.int pe), .val (.int pf), .val (.int (3 : Int32)), .val (.int (2 : Int32)), .val (.int c0), .val (.int c1), .val (.int c2), .val (.int c3), .unset, .unset, .unset, .unset, .unset]) rfl k) ?_
      refine ownStep (fun _ k => XS.bipush X0.here hx rfl (hb hby at_56) k) ?_
      refine ownStep (fun _ k => XS.iload X0.here hx rfl (hb hby at_58) rfl  k) ?_
      refine ownStep (fun _ k => XS.iconst X0.here hx rfl (hb hby at_60) k) ?_
      show ownGo p.tables e below (s₁.setTop (mkF m 61 #[.val (.int pa), .val (.int pb), .val (.int pc_), .val (.int pe), .val (.int pf), .val (.int (3 : Int32)), .val (.int (2 : Int32)), .val (.int c0), .val (.int c1), .val (.int c2), .val (.int c3), .unset, .unset, .unset, .unset, .unset] [(.int (1 : Int32)), (.int pf), (.int (33 : Int32))])) _
      refine ownStep (fun _ k => XS.iushr X0.here hx rfl (hb hby at_61) rfl k) ?_
      refine ownStep (fun _ k => XS.bipush X0.here hx rfl (hb hby at_62) k) ?_
      show ownGo p.tables e below (s₁.setTop (mkF m 64 #[.val (.int pa), .val (.int pb), .val (.int pc_), .val (.int pe), .val (.int pf), .val (.int (3 : Int32)), .val (.int (2 : Int32)), .val (.int c0), .val (.int c1), .val (.int c2), .val (.int c3), .unset, .unset, .unset, .unset, .unset] [(.int (94 : Int32)), (.int ((pf.toUInt32 >>> ((1 : Int32) &&& 31).toUInt32).toInt32)), (.int (33 : Int32))])) _
      refine ownStep (fun _ k => iremM X0 hx rfl (hb hby at_64) rfl (by decide) k) ?_
      refine ownStep (fun _ k => XS.iadd X0.here hx rfl (hb hby at_65) rfl k) ?_
      refine ownStep (fun _ k => XS.i2c X0.here hx rfl (hb hby at_66) rfl k) ?_
      show ownGo p.tables e below (s₁.setTop (mkF m 67 #[.val (.int pa), .val (.int pb), .val (.int pc_), .val (.int pe), .val (.int pf), .val (.int (3 : Int32)), .val (.int (2 : Int32)), .val (.int c0), .val (.int c1), .val (.int c2), .val (.int c3), .unset, .unset, .unset, .unset, .unset] [(.int (((33 : Int32) + (((pf.toUInt32 >>> ((1 : Int32) &&& 31).toUInt32).toInt32) % (94 : Int32))).toUInt32.toUInt16.toUInt32.toInt32))])) _
      obtain ⟨kq, h_kq, l_kq, u_kq, kp_kq⟩ : ∃ z, (((33 : Int32) + (((pf.toUInt32 >>> ((1 : Int32) &&& 31).toUInt32).toInt32) % (94 : Int32))).toUInt32.toUInt16.toUInt32.toInt32) = z ∧ ¬ z < (0 : Int32) ∧ ¬ (255 : Int32) < z ∧ own_keep z := own_keepv pf
      rw [h_kq]
      refine ownStep (fun _ k => XS.istore X0.here hx rfl (hb hby at_67) rfl (l' := #[.val (.int pa), .val (.int pb), .val (.int pc_), .val (.int pe), .val (.int pf), .val (.int (3 : Int32)), .val (.int (2 : Int32)), .val (.int c0), .val (.int c1), .val (.int c2), .val (.int c3), .val (.int kq), .unset, .unset, .unset, .unset]) rfl k) ?_
      refine ownStep (fun _ k => XS.iload X0.here hx rfl (hb hby at_69) rfl  k) ?_
      refine ownStep (fun _ k => XS.ifYes X0.here hx rfl (pc0 := 71) (pc' := 81) rfl (hb hby at_71) rfl ((if0 _ _).trans (feq (by decide : ¬ (2 : Int32) = (0 : Int32))).2) (by decide) (by decide) k) ?_
      refine ownStep (fun _ k => XS.iload X0.here hx rfl (hb hby at_81) rfl  k) ?_
      show ownGo p.tables e below (s₁.setTop (mkF m 83 #[.val (.int pa), .val (.int pb), .val (.int pc_), .val (.int pe), .val (.int pf), .val (.int (3 : Int32)), .val (.int (2 : Int32)), .val (.int c0), .val (.int c1), .val (.int c2), .val (.int c3), .val (.int kq), .unset, .unset, .unset, .unset] [(.int (2 : Int32))])) _
      refine ownStep (fun _ k => XS.iconst X0.here hx rfl (hb hby at_83) k) ?_
      refine ownStep (fun _ k => XS.icmpYes X0.here hx rfl (pc0 := 84) (pc' := 94) rfl (hb hby at_84) rfl (feq (by decide : ¬ (2 : Int32) = (1 : Int32))).2 (by decide) (by decide) k) ?_
      refine ownStep (fun _ k => XS.iload X0.here hx rfl (hb hby at_94) rfl  k) ?_
      refine ownStep (fun _ k => XS.iconst X0.here hx rfl (hb hby at_96) k) ?_
      refine ownStep (fun _ k => XS.icmpNo X0.here hx rfl (hb hby at_97) rfl (teq (by decide : (2 : Int32) = (2 : Int32))).2 k) ?_
      show ownGo p.tables e below (s₁.setTop (mkF m 100 #[.val (.int pa), .val (.int pb), .val (.int pc_), .val (.int pe), .val (.int pf), .val (.int (3 : Int32)), .val (.int (2 : Int32)), .val (.int c0), .val (.int c1), .val (.int c2), .val (.int c3), .val (.int kq), .unset, .unset, .unset, .unset] [])) _
      refine ownStep (fun _ k => XS.iload X0.here hx rfl (hb hby at_100) rfl  k) ?_
      refine ownStep (fun _ k => XS.istore X0.here hx rfl (hb hby at_102) rfl (l' := #[.val (.int pa), .val (.int pb), .val (.int pc_), .val (.int pe), .val (.int pf), .val (.int (3 : Int32)), .val (.int (2 : Int32)), .val (.int c0), .val (.int c1), .val (.int kq), .val (.int c3), .val (.int kq), .unset, .unset, .unset, .unset]) rfl k) ?_
      refine ownStep (fun _ k => XS.goto X0.here hx rfl (pc0 := 104) (pc' := 111) rfl (hb hby at_104) (by decide) (by decide) k) ?_
      refine ownStep (fun _ k => XS.iload X0.here hx rfl (hb hby at_111) rfl  k) ?_
      refine ownStep (fun _ k => XS.iload X0.here hx rfl (hb hby at_113) rfl  k) ?_
      show ownGo p.tables e below (s₁.setTop (mkF m 115 #[.val (.int pa), .val (.int pb), .val (.int pc_), .val (.int pe), .val (.int pf), .val (.int (3 : Int32)), .val (.int (2 : Int32)), .val (.int c0), .val (.int c1), .val (.int kq), .val (.int c3), .val (.int kq), .unset, .unset, .unset, .unset] [(.int c0), (.int (3 : Int32))])) _
      refine ownStep (fun _ k => XS.iload X0.here hx rfl (hb hby at_115) rfl  k) ?_
      refine ownStep (fun _ k => XS.iload X0.here hx rfl (hb hby at_117) rfl  k) ?_
      refine ownStep (fun _ k => XS.iload X0.here hx rfl (hb hby at_119) rfl  k) ?_
      show ownGo p.tables e below (s₁.setTop (mkF m 121 #[.val (.int pa), .val (.int pb), .val (.int pc_), .val (.int pe), .val (.int pf), .val (.int (3 : Int32)), .val (.int (2 : Int32)), .val (.int c0), .val (.int c1), .val (.int kq), .val (.int c3), .val (.int kq), .unset, .unset, .unset, .unset] [(.int c3), (.int kq), (.int c1), (.int c0), (.int (3 : Int32))])) _
      have Zs142 : n0 ≤ h0.size := Nat.le_trans Z0 KP0.1
      obtain ⟨_, _, ⟨T141, L141, k141, n141⟩, -, X141, ⟨Lc141, hQ141, l141, y141, z141⟩, st141⟩ := Jvm.LawKit.callS X0 hx (y := (⟨"com/example/circuline/circuline/circulation/BarcodesRequiredPinLaw", "make", "(ICCCC)Ljava/lang/String;"⟩ : MethodName)) hown (mvT hZ (hw _ (List.mem_of_getElem? (i := 0) rfl))) (mvT hZ (hw _ (List.mem_of_getElem? (i := 1) rfl))) (mvT hZ (hw _ (List.mem_of_getElem? (i := 2) rfl))) (mvT hZ (hw _ (List.mem_of_getElem? (i := 3) rfl))) (by decide) (backOf (W := 0) (own_mk3 l Z a0 hw [] zc c0 c1 kq c3 h0 n0 Zs142 hOld Scs hzc l_c0 u_c0 l_c1 u_c1 l_kq u_kq l_c3 u_c3) hZ (hw _ (List.mem_of_getElem? (i := 3) rfl)) (hw _ (List.mem_of_getElem? (i := 2) rfl)) (by decide) (by decide)) (g := (mkF m 121 #[.val (.int pa), .val (.int pb), .val (.int pc_), .val (.int pe), .val (.int pf), .val (.int (3 : Int32)), .val (.int (2 : Int32)), .val (.int c0), .val (.int c1), .val (.int kq), .val (.int c3), .val (.int kq), .unset, .unset, .unset, .unset] [(.int c3), (.int kq), (.int c1), (.int c0), (.int (3 : Int32))])) rfl (by rw [hml]; rfl) (argsL := [(.int (3 : Int32)), (.int c0), (.int c1), (.int kq), (.int c3)]) (rest := []) (lenOf own_law_pd0 rfl) rfl (by show 2 * 0 + _ ≤ _; exact Nat.le_of_eq rfl) (hb hby at_121) (fun _ _ => ⟨rfl, e0, (by decide : 0 + 3 ≤ _), (by decide : 0 + 10 ≤ _)⟩)
      dsimp only [Pt.U, Pt.locs, Pt.cells, Pt.slots] at X141 l141 y141 z141 st141 hQ141
      obtain rfl : k141 = 3 := y141
      obtain rfl : n141 = 10 := z141
      obtain ⟨sb_141, tb_141, kb_141, rfl, N141q, R141, P143, P144, P145, P146⟩ := hQ141
      have N141 : Fr n0 L141 := l141 ▸ Fr.app N0 N141q
      refine ownStep (fun _ k => st141 _ k) ?_
      have KP147 : Keep h0 T141.heap [] := KP0.ext R141
      refine ownStep (fun _ k => XS.astore X141.here hx rfl (hb hby at_124) rfl rfl (l' := #[.val (.int pa), .val (.int pb), .val (.int pc_), .val (.int pe), .val (.int pf), .val (.int (3 : Int32)), .val (.int (2 : Int32)), .val (.int c0), .val (.int c1), .val (.int kq), .val (.int c3), .val (.int kq), .val (.ref sb_141), .unset, .unset, .unset]) rfl k) ?_
      refine ownStep (fun _ k => XS.iloadN X141.here hx rfl (hb hby at_126) rfl  k) ?_
      refine ownStep (fun _ k => XS.sipush X141.here hx rfl (hb hby at_127) k) ?_
      refine ownStep (fun _ k => XS.iand X141.here hx rfl (hb hby at_130) rfl k) ?_
      show ownGo p.tables e below (T141.setTop (mkF m 131 #[.val (.int pa), .val (.int pb), .val (.int pc_), .val (.int pe), .val (.int pf), .val (.int (3 : Int32)), .val (.int (2 : Int32)), .val (.int c0), .val (.int c1), .val (.int kq), .val (.int c3), .val (.int kq), .val (.ref sb_141), .unset, .unset, .unset] [(.int (pb &&& (255 : Int32)))])) _
      refine ownStep (fun _ k => XS.i2c X141.here hx rfl (hb hby at_131) rfl k) ?_
      show ownGo p.tables e below (T141.setTop (mkF m 132 #[.val (.int pa), .val (.int pb), .val (.int pc_), .val (.int pe), .val (.int pf), .val (.int (3 : Int32)), .val (.int (2 : Int32)), .val (.int c0), .val (.int c1), .val (.int kq), .val (.int c3), .val (.int kq), .val (.ref sb_141), .unset, .unset, .unset] [(.int ((pb &&& (255 : Int32)).toUInt32.toUInt16.toUInt32.toInt32))])) _
      obtain ⟨f0, h_f0, l_f0, u_f0⟩ : ∃ z, ((pb &&& (255 : Int32)).toUInt32.toUInt16.toUInt32.toInt32) = z ∧ ¬ z < (0 : Int32) ∧ ¬ (255 : Int32) < z := own_char _
      rw [h_f0]
      show ownGo p.tables e below (T141.setTop (mkF m 132 #[.val (.int pa), .val (.int pb), .val (.int pc_), .val (.int pe), .val (.int pf), .val (.int (3 : Int32)), .val (.int (2 : Int32)), .val (.int c0), .val (.int c1), .val (.int kq), .val (.int c3), .val (.int kq), .val (.ref sb_141), .unset, .unset, .unset] [(.int f0)])) _
      have Q148 : Old Z n0 T141.heap := (hOld.ext R141)
      have Zs150 : n0 ≤ T141.heap.size := Nat.le_trans Z0 KP147.1
      obtain ⟨_, _, ⟨T149, L149, k149, n149⟩, -, X149, ⟨Lc149, hQ149, l149, y149, z149⟩, st149⟩ := Jvm.LawKit.callS X141 hx (y := (⟨"java/lang/String", "valueOf", "(C)Ljava/lang/String;"⟩ : MethodName)) hown (mvT hZ (hw _ (List.mem_of_getElem? (i := 34) rfl))) (mvT hZ (hw _ (List.mem_of_getElem? (i := 35) rfl))) (mvT hZ (hw _ (List.mem_of_getElem? (i := 6) rfl))) (mvT hZ (hw _ (List.mem_of_getElem? (i := 36) rfl))) (by decide) (backOf (W := 0) (own_vo l Z a0 hw [] zc f0 T141.heap n0 Zs150 Q148 Scs hzc l_f0 u_f0) hZ (hw _ (List.mem_of_getElem? (i := 36) rfl)) (hw _ (List.mem_of_getElem? (i := 6) rfl)) (by decide) (by decide)) (g := (mkF m 132 #[.val (.int pa), .val (.int pb), .val (.int pc_), .val (.int pe), .val (.int pf), .val (.int (3 : Int32)), .val (.int (2 : Int32)), .val (.int c0), .val (.int c1), .val (.int kq), .val (.int c3), .val (.int kq), .val (.ref sb_141), .unset, .unset, .unset] [(.int f0)])) rfl (by rw [hml]; rfl) (argsL := [(.int f0)]) (rest := []) (lenOf own_law_pd1 rfl) rfl (by show 2 * 0 + _ ≤ _; exact Nat.le_of_eq rfl) (hb hby at_132) (fun _ _ => ⟨rfl, rfl, (by decide : 3 + 2 ≤ _), (by decide : 10 + 5 ≤ _)⟩)
      dsimp only [Pt.U, Pt.locs, Pt.cells, Pt.slots] at X149 l149 y149 z149 st149 hQ149
      obtain rfl : k149 = 5 := y149
      obtain rfl : n149 = 15 := z149
      obtain ⟨sb_149, rfl, N149q, R149, P151⟩ := hQ149
      have N149 : Fr n0 L149 := l149 ▸ Fr.app N141 N149q
      refine ownStep (fun _ k => st149 _ k) ?_
      have KP152 : Keep h0 T149.heap [] := KP147.ext R149
      refine ownStep (fun _ k => XS.astore X149.here hx rfl (hb hby at_135) rfl rfl (l' := #[.val (.int pa), .val (.int pb), .val (.int pc_), .val (.int pe), .val (.int pf), .val (.int (3 : Int32)), .val (.int (2 : Int32)), .val (.int c0), .val (.int c1), .val (.int kq), .val (.int c3), .val (.int kq), .val (.ref sb_141), .val (.ref sb_149), .unset, .unset]) rfl k) ?_
      refine ownStep (fun _ k => XS.iloadN X149.here hx rfl (hb hby at_137) rfl  k) ?_
      refine ownStep (fun _ k => XS.sipush X149.here hx rfl (hb hby at_138) k) ?_
      refine ownStep (fun _ k => XS.iand X149.here hx rfl (hb hby at_141) rfl k) ?_
      show ownGo p.tables e below (T149.setTop (mkF m 142 #[.val (.int pa), .val (.int pb), .val (.int pc_), .val (.int pe), .val (.int pf), .val (.int (3 : Int32)), .val (.int (2 : Int32)), .val (.int c0), .val (.int c1), .val (.int kq), .val (.int c3), .val (.int kq), .val (.ref sb_141), .val (.ref sb_149), .unset, .unset] [(.int (pc_ &&& (255 : Int32)))])) _
      refine ownStep (fun _ k => XS.i2c X149.here hx rfl (hb hby at_142) rfl k) ?_
      show ownGo p.tables e below (T149.setTop (mkF m 143 #[.val (.int pa), .val (.int pb), .val (.int pc_), .val (.int pe), .val (.int pf), .val (.int (3 : Int32)), .val (.int (2 : Int32)), .val (.int c0), .val (.int c1), .val (.int kq), .val (.int c3), .val (.int kq), .val (.ref sb_141), .val (.ref sb_149), .unset, .unset] [(.int ((pc_ &&& (255 : Int32)).toUInt32.toUInt16.toUInt32.toInt32))])) _
      obtain ⟨f1, h_f1, l_f1, u_f1⟩ : ∃ z, ((pc_ &&& (255 : Int32)).toUInt32.toUInt16.toUInt32.toInt32) = z ∧ ¬ z < (0 : Int32) ∧ ¬ (255 : Int32) < z := own_char _
      rw [h_f1]
      show ownGo p.tables e below (T149.setTop (mkF m 143 #[.val (.int pa), .val (.int pb), .val (.int pc_), .val (.int pe), .val (.int pf), .val (.int (3 : Int32)), .val (.int (2 : Int32)), .val (.int c0), .val (.int c1), .val (.int kq), .val (.int c3), .val (.int kq), .val (.ref sb_141), .val (.ref sb_149), .unset, .unset] [(.int f1)])) _
      have Q153 : Old Z n0 T149.heap := (Q148.ext R149)
      have Zs155 : n0 ≤ T149.heap.size := Nat.le_trans Z0 KP152.1
      obtain ⟨_, _, ⟨T154, L154, k154, n154⟩, -, X154, ⟨Lc154, hQ154, l154, y154, z154⟩, st154⟩ := Jvm.LawKit.callS X149 hx (y := (⟨"java/lang/String", "valueOf", "(C)Ljava/lang/String;"⟩ : MethodName)) hown (mvT hZ (hw _ (List.mem_of_getElem? (i := 34) rfl))) (mvT hZ (hw _ (List.mem_of_getElem? (i := 35) rfl))) (mvT hZ (hw _ (List.mem_of_getElem? (i := 6) rfl))) (mvT hZ (hw _ (List.mem_of_getElem? (i := 36) rfl))) (by decide) (backOf (W := 0) (own_vo l Z a0 hw [] zc f1 T149.heap n0 Zs155 Q153 Scs hzc l_f1 u_f1) hZ (hw _ (List.mem_of_getElem? (i := 36) rfl)) (hw _ (List.mem_of_getElem? (i := 6) rfl)) (by decide) (by decide)) (g := (mkF m 143 #[.val (.int pa), .val (.int pb), .val (.int pc_), .val (.int pe), .val (.int pf), .val (.int (3 : Int32)), .val (.int (2 : Int32)), .val (.int c0), .val (.int c1), .val (.int kq), .val (.int c3), .val (.int kq), .val (.ref sb_141), .val (.ref sb_149), .unset, .unset] [(.int f1)])) rfl (by rw [hml]; rfl) (argsL := [(.int f1)]) (rest := []) (lenOf own_law_pd1 rfl) rfl (by show 2 * 0 + _ ≤ _; exact Nat.le_of_eq rfl) (hb hby at_143) (fun _ _ => ⟨rfl, rfl, (by decide : 5 + 2 ≤ _), (by decide : 15 + 5 ≤ _)⟩)
      dsimp only [Pt.U, Pt.locs, Pt.cells, Pt.slots] at X154 l154 y154 z154 st154 hQ154
      obtain rfl : k154 = 7 := y154
      obtain rfl : n154 = 20 := z154
      obtain ⟨sb_154, rfl, N154q, R154, P156⟩ := hQ154
      have N154 : Fr n0 L154 := l154 ▸ Fr.app N149 N154q
      refine ownStep (fun _ k => st154 _ k) ?_
      have KP157 : Keep h0 T154.heap [] := KP152.ext R154
      refine ownStep (fun _ k => XS.astore X154.here hx rfl (hb hby at_146) rfl rfl (l' := #[.val (.int pa), .val (.int pb), .val (.int pc_), .val (.int pe), .val (.int pf), .val (.int (3 : Int32)), .val (.int (2 : Int32)), .val (.int c0), .val (.int c1), .val (.int kq), .val (.int c3), .val (.int kq), .val (.ref sb_141), .val (.ref sb_149), .val (.ref sb_154), .unset]) rfl k) ?_
      refine ownStep (fun _ k => XS.aload X154.here hx rfl (hb hby at_148) rfl rfl k) ?_
      refine ownStep (fun _ k => XS.aload X154.here hx rfl (hb hby at_150) rfl rfl k) ?_
      refine ownStep (fun _ k => XS.aload X154.here hx rfl (hb hby at_152) rfl rfl k) ?_
      show ownGo p.tables e below (T154.setTop (mkF m 154 #[.val (.int pa), .val (.int pb), .val (.int pc_), .val (.int pe), .val (.int pf), .val (.int (3 : Int32)), .val (.int (2 : Int32)), .val (.int c0), .val (.int c1), .val (.int kq), .val (.int c3), .val (.int kq), .val (.ref sb_141), .val (.ref sb_149), .val (.ref sb_154), .unset] [(.ref sb_154), (.ref sb_149), (.ref sb_141)])) _
      have Q158 : Old Z n0 T154.heap := (Q153.ext R154)
      have Q159 : Exa Z T154.heap sb_141 "java/lang/String" := ((P143.ext R149).ext R154)
      have Q160 : Fld Z T154.heap sb_141 "java/lang/String" "coder" "B" (.int (0 : Int32)) := ((P144.ext R149).ext R154)
      have Q161 : Fld Z T154.heap sb_141 "java/lang/String" "value" "[B" (.ref tb_141) := ((P145.ext R149).ext R154)
      have Q162 : Arv Z T154.heap tb_141 kb_141 .byte (3 : Int32) [(.int c0.toInt8.toInt32), (.int c1.toInt8.toInt32), (.int kq.toInt8.toInt32)] (.int (0 : Int32)) := ((P146.ext R149).ext R154)
      have Zs164 : n0 ≤ T154.heap.size := Nat.le_trans Z0 KP157.1
      obtain ⟨_, _, ⟨T163, L163, k163, n163⟩, -, X163, ⟨Lc163, hQ163, l163, y163, z163⟩, st163⟩ := Jvm.LawKit.callS X154 hx (y := (⟨"com/example/circuline/circuline/circulation/Barcodes", "required", "(Ljava/lang/String;Ljava/lang/String;Ljava/lang/String;)Ljava/lang/String;"⟩ : MethodName)) hown (mvT hZ (hw _ (List.mem_of_getElem? (i := 48) rfl))) (mvT hZ (hw _ (List.mem_of_getElem? (i := 49) rfl))) (mvT hZ (hw _ (List.mem_of_getElem? (i := 50) rfl))) (mvT hZ (hw _ (List.mem_of_getElem? (i := 51) rfl))) (by decide) (backOf (W := 0) (own_req3 l Z a0 hw [] zc ci ta clt sb_141 tb_141 kb_141 c0 c1 kq sb_149 sb_154 T154.heap n0 Zs164 Q158 Scs hzc Sci Eci Sca Tab Q159 Q160 Q161 Q162 l_c0 u_c0 l_c1 u_c1 l_kq u_kq (Or.inr (Or.inr kp_kq))) hZ (hw _ (List.mem_of_getElem? (i := 51) rfl)) (hw _ (List.mem_of_getElem? (i := 50) rfl)) (by decide) (by decide)) (g := (mkF m 154 #[.val (.int pa), .val (.int pb), .val (.int pc_), .val (.int pe), .val (.int pf), .val (.int (3 : Int32)), .val (.int (2 : Int32)), .val (.int c0), .val (.int c1), .val (.int kq), .val (.int c3), .val (.int kq), .val (.ref sb_141), .val (.ref sb_149), .val (.ref sb_154), .unset] [(.ref sb_154), (.ref sb_149), (.ref sb_141)])) rfl (by rw [hml]; rfl) (argsL := [(.ref sb_141), (.ref sb_149), (.ref sb_154)]) (rest := []) (lenOf own_law_pd2 rfl) rfl (by show 2 * 0 + _ ≤ _; exact Nat.le_of_eq rfl) (hb hby at_154) (fun _ _ => ⟨rfl, rfl, (by decide : 7 + 0 ≤ _), (by decide : 20 + 0 ≤ _)⟩)
      dsimp only [Pt.U, Pt.locs, Pt.cells, Pt.slots] at X163 l163 y163 z163 st163 hQ163
      obtain rfl : k163 = 7 := y163
      obtain rfl : n163 = 20 := z163
      obtain ⟨rfl, N163q, R163⟩ := hQ163
      have N163 : Fr n0 L163 := l163 ▸ Fr.app N154 N163q
      refine ownStep (fun _ k => st163 _ k) ?_
      refine ownStep (fun _ k => XS.astore X163.here hx rfl (hb hby at_157) rfl rfl (l' := #[.val (.int pa), .val (.int pb), .val (.int pc_), .val (.int pe), .val (.int pf), .val (.int (3 : Int32)), .val (.int (2 : Int32)), .val (.int c0), .val (.int c1), .val (.int kq), .val (.int c3), .val (.int kq), .val (.ref sb_141), .val (.ref sb_149), .val (.ref sb_154), .val (.ref sb_141)]) rfl k) ?_
      refine ownStep (fun _ k => XS.aload X163.here hx rfl (hb hby at_159) rfl rfl k) ?_
      refine ownStep (fun _ k => XS.ifnullNo X163.here hx rfl (hb hby at_161) rfl k) ?_
      refine ownStep (fun _ k => XS.aload X163.here hx rfl (hb hby at_164) rfl rfl k) ?_
      show ownGo p.tables e below (T163.setTop (mkF m 166 #[.val (.int pa), .val (.int pb), .val (.int pc_), .val (.int pe), .val (.int pf), .val (.int (3 : Int32)), .val (.int (2 : Int32)), .val (.int c0), .val (.int c1), .val (.int kq), .val (.int c3), .val (.int kq), .val (.ref sb_141), .val (.ref sb_149), .val (.ref sb_154), .val (.ref sb_141)] [(.ref sb_141)])) _
      have Zs166 : n0 ≤ T154.heap.size := Nat.le_trans Z0 KP157.1
      obtain ⟨cq165, kq165, q165a, q165b, q165c⟩ := isOf hZ R163 Q159
      obtain ⟨_, _, ⟨T165, L165, k165, n165⟩, -, X165, ⟨Lc165, hQ165, l165, y165, z165⟩, st165⟩ := X163.virtualBack hx (y := (⟨"java/lang/String", "length", "()I"⟩ : MethodName)) (z := (⟨"java/lang/String", "length", "()I"⟩ : MethodName)) hown (mvT hZ (hw _ (List.mem_of_getElem? (i := 96) rfl))) (mvT hZ (hw _ (List.mem_of_getElem? (i := 87) rfl))) (notFace_of_selects (args := #[]) (mvT hZ (hw _ (List.mem_of_getElem? (i := 89) rfl)))) (mvT hZ (hw _ (List.mem_of_getElem? (i := 89) rfl))) (mvT hZ (hw _ (List.mem_of_getElem? (i := 88) rfl))) (by decide) (backOf (W := 0) (own_len3 l Z a0 hw [] zc sb_141 tb_141 kb_141 c0 c1 kq T154.heap n0 Zs166 Q158 Scs hzc Q159 Q160 Q161 Q162) hZ (hw _ (List.mem_of_getElem? (i := 90) rfl)) (hw _ (List.mem_of_getElem? (i := 6) rfl)) (by decide) (by decide)) q165a q165c (g := (mkF m 166 #[.val (.int pa), .val (.int pb), .val (.int pc_), .val (.int pe), .val (.int pf), .val (.int (3 : Int32)), .val (.int (2 : Int32)), .val (.int c0), .val (.int c1), .val (.int kq), .val (.int c3), .val (.int kq), .val (.ref sb_141), .val (.ref sb_149), .val (.ref sb_154), .val (.ref sb_141)] [(.ref sb_141)])) rfl (by rw [hml]; rfl) (Steps.refl _) (argsL := []) (rest := []) (lenOf own_law_pd3 rfl) rfl (by show 2 * 0 + _ ≤ _; exact Nat.le_of_eq rfl) (hb hby at_166) (fun _ _ => ⟨rfl, R163, (by decide : 7 + 0 ≤ _), (by decide : 20 + 0 ≤ _)⟩)
      dsimp only [Pt.U, Pt.locs, Pt.cells, Pt.slots] at X165 l165 y165 z165 st165 hQ165
      obtain rfl : k165 = 7 := y165
      obtain rfl : n165 = 20 := z165
      obtain ⟨rfl, N165q, R165⟩ := hQ165
      have N165 : Fr n0 L165 := l165 ▸ Fr.app N163 N165q
      refine ownStep (fun _ k => st165.trans k) ?_
      refine ownStep (fun _ k => XS.iload X165.here hx rfl (hb hby at_169) rfl  k) ?_
      refine ownStep (fun _ k => XS.icmpNo X165.here hx rfl (hb hby at_171) rfl (teq (by decide : (3 : Int32) = (3 : Int32))).2 k) ?_
      refine ownStep (fun _ k => XS.aload X165.here hx rfl (hb hby at_174) rfl rfl k) ?_
      refine ownStep (fun _ k => XS.aload X165.here hx rfl (hb hby at_176) rfl rfl k) ?_
      show ownGo p.tables e below (T165.setTop (mkF m 178 #[.val (.int pa), .val (.int pb), .val (.int pc_), .val (.int pe), .val (.int pf), .val (.int (3 : Int32)), .val (.int (2 : Int32)), .val (.int c0), .val (.int c1), .val (.int kq), .val (.int c3), .val (.int kq), .val (.ref sb_141), .val (.ref sb_149), .val (.ref sb_154), .val (.ref sb_141)] [(.ref sb_141), (.ref sb_141)])) _
      have Zs168 : n0 ≤ T154.heap.size := Nat.le_trans Z0 KP157.1
      obtain ⟨cq167, kq167, q167a, q167b, q167c⟩ := isOf hZ R165 Q159
      obtain ⟨_, _, ⟨T167, L167, k167, n167⟩, -, X167, ⟨Lc167, hQ167, l167, y167, z167⟩, st167⟩ := X165.virtualBack hx (y := (⟨"java/lang/String", "equals", "(Ljava/lang/Object;)Z"⟩ : MethodName)) (z := (⟨"java/lang/String", "equals", "(Ljava/lang/Object;)Z"⟩ : MethodName)) hown (mvT hZ (hw _ (List.mem_of_getElem? (i := 97) rfl))) (mvT hZ (hw _ (List.mem_of_getElem? (i := 98) rfl))) (notFace_of_selects (args := #[]) (mvT hZ (hw _ (List.mem_of_getElem? (i := 100) rfl)))) (mvT hZ (hw _ (List.mem_of_getElem? (i := 100) rfl))) (mvT hZ (hw _ (List.mem_of_getElem? (i := 99) rfl))) (by decide) (backOf (W := 0) (own_eq l Z a0 hw [] sb_141 T154.heap n0 Zs168 ) hZ (hw _ (List.mem_of_getElem? (i := 101) rfl)) (hw _ (List.mem_of_getElem? (i := 6) rfl)) (by decide) (by decide)) q167a q167c (g := (mkF m 178 #[.val (.int pa), .val (.int pb), .val (.int pc_), .val (.int pe), .val (.int pf), .val (.int (3 : Int32)), .val (.int (2 : Int32)), .val (.int c0), .val (.int c1), .val (.int kq), .val (.int c3), .val (.int kq), .val (.ref sb_141), .val (.ref sb_149), .val (.ref sb_154), .val (.ref sb_141)] [(.ref sb_141), (.ref sb_141)])) rfl (by rw [hml]; rfl) (Steps.refl _) (argsL := [(.ref sb_141)]) (rest := []) (lenOf own_law_pd4 rfl) rfl (by show 2 * 0 + _ ≤ _; exact Nat.le_of_eq rfl) (hb hby at_178) (fun _ _ => ⟨rfl, R165, (by decide : 7 + 0 ≤ _), (by decide : 20 + 0 ≤ _)⟩)
      dsimp only [Pt.U, Pt.locs, Pt.cells, Pt.slots] at X167 l167 y167 z167 st167 hQ167
      obtain rfl : k167 = 7 := y167
      obtain rfl : n167 = 20 := z167
      obtain ⟨rfl, N167q, R167⟩ := hQ167
      have N167 : Fr n0 L167 := l167 ▸ Fr.app N165 N167q
      refine ownStep (fun _ k => st167.trans k) ?_
      refine ownStep (fun _ k => XS.ifNo X167.here hx rfl (hb hby at_181) rfl ((if0 _ _).trans (feq (by decide : ¬ (1 : Int32) = (0 : Int32))).1) k) ?_
      refine ownStep (fun _ k => XS.iconst X167.here hx rfl (hb hby at_184) k) ?_
      refine ownStep (fun _ k => XS.goto X167.here hx rfl (pc0 := 185) (pc' := 189) rfl (hb hby at_185) (by decide) (by decide) k) ?_
      show ownGo p.tables e below (T167.setTop (mkF m 189 #[.val (.int pa), .val (.int pb), .val (.int pc_), .val (.int pe), .val (.int pf), .val (.int (3 : Int32)), .val (.int (2 : Int32)), .val (.int c0), .val (.int c1), .val (.int kq), .val (.int c3), .val (.int kq), .val (.ref sb_141), .val (.ref sb_149), .val (.ref sb_154), .val (.ref sb_141)] [(.int (1 : Int32))])) _
      exact ownRet X167 (v := some (.int (1 : Int32))) Bd.notSynchronized (fun h => by rw [Bd.returns] at h; cases h) (fun _ hr => retN X167 hx (t := .boolean) Bd.returns (by simp) (hb hby at_189) hr) (by rw [R167]; exact ⟨rfl, N167, (own_extOf KP157)⟩) (by decide) (by decide)
  · skip
    rw [hn]
    refine ownStep (fun _ k => XS.iconst X0.here hx rfl (hb hby at_3) k) ?_
    refine ownStep (fun _ k => XS.iadd X0.here hx rfl (hb hby at_4) rfl k) ?_
    refine ownStep (fun _ k => XS.istore X0.here hx rfl (hb hby at_5) rfl (l' := #[.val (.int pa), .val (.int pb), .val (.int pc_), .val (.int pe), .val (.int pf), .val (.int (4 : Int32)), .unset, .unset, .unset, .unset, .unset, .unset, .unset, .unset, .unset, .unset]) rfl k) ?_
    refine ownStep (fun _ k => XS.iloadN X0.here hx rfl (hb hby at_7) rfl  k) ?_
    show ownGo p.tables e below (s₁.setTop (mkF m 8 #[.val (.int pa), .val (.int pb), .val (.int pc_), .val (.int pe), .val (.int pf), .val (.int (4 : Int32)), .unset, .unset, .unset, .unset, .unset, .unset, .unset, .unset, .unset, .unset] [(.int pe)])) _
    refine ownStep (fun _ k => XS.iconst X0.here hx rfl (hb hby at_8) k) ?_
    refine ownStep (fun _ k => XS.iushr X0.here hx rfl (hb hby at_9) rfl k) ?_
    refine ownStep (fun _ k => XS.iload X0.here hx rfl (hb hby at_10) rfl  k) ?_
    show ownGo p.tables e below (s₁.setTop (mkF m 12 #[.val (.int pa), .val (.int pb), .val (.int pc_), .val (.int pe), .val (.int pf), .val (.int (4 : Int32)), .unset, .unset, .unset, .unset, .unset, .unset, .unset, .unset, .unset, .unset] [(.int (4 : Int32)), (.int ((pe.toUInt32 >>> ((2 : Int32) &&& 31).toUInt32).toInt32))])) _
    refine ownStep (fun _ k => iremM X0 hx rfl (hb hby at_12) rfl (by decide) k) ?_
    show ownGo p.tables e below (s₁.setTop (mkF m 13 #[.val (.int pa), .val (.int pb), .val (.int pc_), .val (.int pe), .val (.int pf), .val (.int (4 : Int32)), .unset, .unset, .unset, .unset, .unset, .unset, .unset, .unset, .unset, .unset] [(.int (((pe.toUInt32 >>> ((2 : Int32) &&& 31).toUInt32).toInt32) % (4 : Int32)))])) _
    rcases own_rem4 pe with hk | hk | hk | hk
    · skip
      rw [hk]
      refine ownStep (fun _ k => XS.istore X0.here hx rfl (hb hby at_13) rfl (l' := #[.val (.int pa), .val (.int pb), .val (.int pc_), .val (.int pe), .val (.int pf), .val (.int (4 : Int32)), .val (.int (0 : Int32)), .unset, .unset, .unset, .unset, .unset, .unset, .unset, .unset, .unset]) rfl k) ?_
      refine ownStep (fun _ k => XS.iloadN X0.here hx rfl (hb hby at_15) rfl  k) ?_
      refine ownStep (fun _ k => XS.sipush X0.here hx rfl (hb hby at_16) k) ?_
      refine ownStep (fun _ k => XS.iand X0.here hx rfl (hb hby at_19) rfl k) ?_
      show ownGo p.tables e below (s₁.setTop (mkF m 20 #[.val (.int pa), .val (.int pb), .val (.int pc_), .val (.int pe), .val (.int pf), .val (.int (4 : Int32)), .val (.int (0 : Int32)), .unset, .unset, .unset, .unset, .unset, .unset, .unset, .unset, .unset] [(.int (pa &&& (255 : Int32)))])) _
      refine ownStep (fun _ k => XS.i2c X0.here hx rfl (hb hby at_20) rfl k) ?_
      show ownGo p.tables e below (s₁.setTop (mkF m 21 #[.val (.int pa), .val (.int pb), .val (.int pc_), .val (.int pe), .val (.int pf), .val (.int (4 : Int32)), .val (.int (0 : Int32)), .unset, .unset, .unset, .unset, .unset, .unset, .unset, .unset, .unset] [(.int ((pa &&& (255 : Int32)).toUInt32.toUInt16.toUInt32.toInt32))])) _
      obtain ⟨c0, h_c0, l_c0, u_c0⟩ : ∃ z, ((pa &&& (255 : Int32)).toUInt32.toUInt16.toUInt32.toInt32) = z ∧ ¬ z < (0 : Int32) ∧ ¬ (255 : Int32) < z := own_char _
      rw [h_c0]
      refine ownStep (fun _ k => XS.istore X0.here hx rfl (hb hby at_21) rfl (l' := #[.val (.int pa), .val (.int pb), .val (.int pc_), .val (.int pe), .val (.int pf), .val (.int (4 : Int32)), .val (.int (0 : Int32)), .val (.int c0), .unset, .unset, .unset, .unset, .unset, .unset, .unset, .unset]) rfl k) ?_
      refine ownStep (fun _ k => XS.iloadN X0.here hx rfl (hb hby at_23) rfl  k) ?_
      refine ownStep (fun _ k => XS.bipush X0.here hx rfl (hb hby at_24) k) ?_
      refine ownStep (fun _ k => XS.iushr X0.here hx rfl (hb hby at_26) rfl k) ?_
      show ownGo p.tables e below (s₁.setTop (mkF m 27 #[.val (.int pa), .val (.int pb), .val (.int pc_), .val (.int pe), .val (.int pf), .val (.int (4 : Int32)), .val (.int (0 : Int32)), .val (.int c0), .unset, .unset, .unset, .unset, .unset, .unset, .unset, .unset] [(.int ((pa.toUInt32 >>> ((8 : Int32) &&& 31).toUInt32).toInt32))])) _
      refine ownStep (fun _ k => XS.sipush X0.here hx rfl (hb hby at_27) k) ?_
      refine ownStep (fun _ k => XS.iand X0.here hx rfl (hb hby at_30) rfl k) ?_
      refine ownStep (fun _ k => XS.i2c X0.here hx rfl (hb hby at_31) rfl k) ?_
      show ownGo p.tables e below (s₁.setTop (mkF m 32 #[.val (.int pa), .val (.int pb), .val (.int pc_), .val (.int pe), .val (.int pf), .val (.int (4 : Int32)), .val (.int (0 : Int32)), .val (.int c0), .unset, .unset, .unset, .unset, .unset, .unset, .unset, .unset] [(.int ((((pa.toUInt32 >>> ((8 : Int32) &&& 31).toUInt32).toInt32) &&& (255 : Int32)).toUInt32.toUInt16.toUInt32.toInt32))])) _
      obtain ⟨c1, h_c1, l_c1, u_c1⟩ : ∃ z, ((((pa.toUInt32 >>> ((8 : Int32) &&& 31).toUInt32).toInt32) &&& (255 : Int32)).toUInt32.toUInt16.toUInt32.toInt32) = z ∧ ¬ z < (0 : Int32) ∧ ¬ (255 : Int32) < z := own_char _
      rw [h_c1]
      refine ownStep (fun _ k => XS.istore X0.here hx rfl (hb hby at_32) rfl (l' := #[.val (.int pa), .val (.int pb), .val (.int pc_), .val (.int pe), .val (.int pf), .val (.int (4 : Int32)), .val (.int (0 : Int32)), .val (.int c0), .val (.int c1), .unset, .unset, .unset, .unset, .unset, .unset, .unset]) rfl k) ?_
      refine ownStep (fun _ k => XS.iloadN X0.here hx rfl (hb hby at_34) rfl  k) ?_
      refine ownStep (fun _ k => XS.bipush X0.here hx rfl (hb hby at_35) k) ?_
      refine ownStep (fun _ k => XS.iushr X0.here hx rfl (hb hby at_37) rfl k) ?_
      show ownGo p.tables e below (s₁.setTop (mkF m 38 #[.val (.int pa), .val (.int pb), .val (.int pc_), .val (.int pe), .val (.int pf), .val (.int (4 : Int32)), .val (.int (0 : Int32)), .val (.int c0), .val (.int c1), .unset, .unset, .unset, .unset, .unset, .unset, .unset] [(.int ((pa.toUInt32 >>> ((16 : Int32) &&& 31).toUInt32).toInt32))])) _
      refine ownStep (fun _ k => XS.sipush X0.here hx rfl (hb hby at_38) k) ?_
      refine ownStep (fun _ k => XS.iand X0.here hx rfl (hb hby at_41) rfl k) ?_
      refine ownStep (fun _ k => XS.i2c X0.here hx rfl (hb hby at_42) rfl k) ?_
      show ownGo p.tables e below (s₁.setTop (mkF m 43 #[.val (.int pa), .val (.int pb), .val (.int pc_), .val (.int pe), .val (.int pf), .val (.int (4 : Int32)), .val (.int (0 : Int32)), .val (.int c0), .val (.int c1), .unset, .unset, .unset, .unset, .unset, .unset, .unset] [(.int ((((pa.toUInt32 >>> ((16 : Int32) &&& 31).toUInt32).toInt32) &&& (255 : Int32)).toUInt32.toUInt16.toUInt32.toInt32))])) _
      obtain ⟨c2, h_c2, l_c2, u_c2⟩ : ∃ z, ((((pa.toUInt32 >>> ((16 : Int32) &&& 31).toUInt32).toInt32) &&& (255 : Int32)).toUInt32.toUInt16.toUInt32.toInt32) = z ∧ ¬ z < (0 : Int32) ∧ ¬ (255 : Int32) < z := own_char _
      rw [h_c2]
      refine ownStep (fun _ k => XS.istore X0.here hx rfl (hb hby at_43) rfl (l' := #[.val (.int pa), .val (.int pb), .val (.int pc_), .val (.int pe), .val (.int pf), .val (.int (4 : Int32)), .val (.int (0 : Int32)), .val (.int c0), .val (.int c1), .val (.int c2), .unset, .unset, .unset, .unset, .unset, .unset]) rfl k) ?_
      refine ownStep (fun _ k => XS.iloadN X0.here hx rfl (hb hby at_45) rfl  k) ?_
      refine ownStep (fun _ k => XS.bipush X0.here hx rfl (hb hby at_46) k) ?_
      refine ownStep (fun _ k => XS.iushr X0.here hx rfl (hb hby at_48) rfl k) ?_
      show ownGo p.tables e below (s₁.setTop (mkF m 49 #[.val (.int pa), .val (.int pb), .val (.int pc_), .val (.int pe), .val (.int pf), .val (.int (4 : Int32)), .val (.int (0 : Int32)), .val (.int c0), .val (.int c1), .val (.int c2), .unset, .unset, .unset, .unset, .unset, .unset] [(.int ((pa.toUInt32 >>> ((24 : Int32) &&& 31).toUInt32).toInt32))])) _
      refine ownStep (fun _ k => XS.sipush X0.here hx rfl (hb hby at_49) k) ?_
      refine ownStep (fun _ k => XS.iand X0.here hx rfl (hb hby at_52) rfl k) ?_
      refine ownStep (fun _ k => XS.i2c X0.here hx rfl (hb hby at_53) rfl k) ?_
      show ownGo p.tables e below (s₁.setTop (mkF m 54 #[.val (.int pa), .val (.int pb), .val (.int pc_), .val (.int pe), .val (.int pf), .val (.int (4 : Int32)), .val (.int (0 : Int32)), .val (.int c0), .val (.int c1), .val (.int c2), .unset, .unset, .unset, .unset, .unset, .unset] [(.int ((((pa.toUInt32 >>> ((24 : Int32) &&& 31).toUInt32).toInt32) &&& (255 : Int32)).toUInt32.toUInt16.toUInt32.toInt32))])) _
      obtain ⟨c3, h_c3, l_c3, u_c3⟩ : ∃ z, ((((pa.toUInt32 >>> ((24 : Int32) &&& 31).toUInt32).toInt32) &&& (255 : Int32)).toUInt32.toUInt16.toUInt32.toInt32) = z ∧ ¬ z < (0 : Int32) ∧ ¬ (255 : Int32) < z := own_char _
      rw [h_c3]
      refine ownStep (fun _ k => XS.istore X0.here hx rfl (hb hby at_54) rfl (l' := #[.val (.int pa), .val (.int pb), .val (.int pc_), .val (.int pe), .val (.int pf), .val (.int (4 : Int32)), .val (.int (0 : Int32)), .val (.int c0), .val (.int c1), .val (.int c2), .val (.int c3), .unset, .unset, .unset, .unset, .unset]) rfl k) ?_
      refine ownStep (fun _ k => XS.bipush X0.here hx rfl (hb hby at_56) k) ?_
      refine ownStep (fun _ k => XS.iload X0.here hx rfl (hb hby at_58) rfl  k) ?_
      refine ownStep (fun _ k => XS.iconst X0.here hx rfl (hb hby at_60) k) ?_
      show ownGo p.tables e below (s₁.setTop (mkF m 61 #[.val (.int pa), .val (.int pb), .val (.int pc_), .val (.int pe), .val (.int pf), .val (.int (4 : Int32)), .val (.int (0 : Int32)), .val (.int c0), .val (.int c1), .val (.int c2), .val (.int c3), .unset, .unset, .unset, .unset, .unset] [(.int (1 : Int32)), (.int pf), (.int (33 : Int32))])) _
      refine ownStep (fun _ k => XS.iushr X0.here hx rfl (hb hby at_61) rfl k) ?_
      refine ownStep (fun _ k => XS.bipush X0.here hx rfl (hb hby at_62) k) ?_
      show ownGo p.tables e below (s₁.setTop (mkF m 64 #[.val (.int pa), .val (.int pb), .val (.int pc_), .val (.int pe), .val (.int pf), .val (.int (4 : Int32)), .val (.int (0 : Int32)), .val (.int c0), .val (.int c1), .val (.int c2), .val (.int c3), .unset, .unset, .unset, .unset, .unset] [(.int (94 : Int32)), (.int ((pf.toUInt32 >>> ((1 : Int32) &&& 31).toUInt32).toInt32)), (.int (33 : Int32))])) _
      refine ownStep (fun _ k => iremM X0 hx rfl (hb hby at_64) rfl (by decide) k) ?_
      refine ownStep (fun _ k => XS.iadd X0.here hx rfl (hb hby at_65) rfl k) ?_
      refine ownStep (fun _ k => XS.i2c X0.here hx rfl (hb hby at_66) rfl k) ?_
      show ownGo p.tables e below (s₁.setTop (mkF m 67 #[.val (.int pa), .val (.int pb), .val (.int pc_), .val (.int pe), .val (.int pf), .val (.int (4 : Int32)), .val (.int (0 : Int32)), .val (.int c0), .val (.int c1), .val (.int c2), .val (.int c3), .unset, .unset, .unset, .unset, .unset] [(.int (((33 : Int32) + (((pf.toUInt32 >>> ((1 : Int32) &&& 31).toUInt32).toInt32) % (94 : Int32))).toUInt32.toUInt16.toUInt32.toInt32))])) _
      obtain ⟨kq, h_kq, l_kq, u_kq, kp_kq⟩ : ∃ z, (((33 : Int32) + (((pf.toUInt32 >>> ((1 : Int32) &&& 31).toUInt32).toInt32) % (94 : Int32))).toUInt32.toUInt16.toUInt32.toInt32) = z ∧ ¬ z < (0 : Int32) ∧ ¬ (255 : Int32) < z ∧ own_keep z := own_keepv pf
      rw [h_kq]
      refine ownStep (fun _ k => XS.istore X0.here hx rfl (hb hby at_67) rfl (l' := #[.val (.int pa), .val (.int pb), .val (.int pc_), .val (.int pe), .val (.int pf), .val (.int (4 : Int32)), .val (.int (0 : Int32)), .val (.int c0), .val (.int c1), .val (.int c2), .val (.int c3), .val (.int kq), .unset, .unset, .unset, .unset]) rfl k) ?_
      refine ownStep (fun _ k => XS.iload X0.here hx rfl (hb hby at_69) rfl  k) ?_
      refine ownStep (fun _ k => XS.ifNo X0.here hx rfl (hb hby at_71) rfl ((if0 _ _).trans (teq (by decide : (0 : Int32) = (0 : Int32))).2) k) ?_
      refine ownStep (fun _ k => XS.iload X0.here hx rfl (hb hby at_74) rfl  k) ?_
      show ownGo p.tables e below (s₁.setTop (mkF m 76 #[.val (.int pa), .val (.int pb), .val (.int pc_), .val (.int pe), .val (.int pf), .val (.int (4 : Int32)), .val (.int (0 : Int32)), .val (.int c0), .val (.int c1), .val (.int c2), .val (.int c3), .val (.int kq), .unset, .unset, .unset, .unset] [(.int kq)])) _
      refine ownStep (fun _ k => XS.istore X0.here hx rfl (hb hby at_76) rfl (l' := #[.val (.int pa), .val (.int pb), .val (.int pc_), .val (.int pe), .val (.int pf), .val (.int (4 : Int32)), .val (.int (0 : Int32)), .val (.int kq), .val (.int c1), .val (.int c2), .val (.int c3), .val (.int kq), .unset, .unset, .unset, .unset]) rfl k) ?_
      refine ownStep (fun _ k => XS.goto X0.here hx rfl (pc0 := 78) (pc' := 111) rfl (hb hby at_78) (by decide) (by decide) k) ?_
      refine ownStep (fun _ k => XS.iload X0.here hx rfl (hb hby at_111) rfl  k) ?_
      refine ownStep (fun _ k => XS.iload X0.here hx rfl (hb hby at_113) rfl  k) ?_
      refine ownStep (fun _ k => XS.iload X0.here hx rfl (hb hby at_115) rfl  k) ?_
      show ownGo p.tables e below (s₁.setTop (mkF m 117 #[.val (.int pa), .val (.int pb), .val (.int pc_), .val (.int pe), .val (.int pf), .val (.int (4 : Int32)), .val (.int (0 : Int32)), .val (.int kq), .val (.int c1), .val (.int c2), .val (.int c3), .val (.int kq), .unset, .unset, .unset, .unset] [(.int c1), (.int kq), (.int (4 : Int32))])) _
      refine ownStep (fun _ k => XS.iload X0.here hx rfl (hb hby at_117) rfl  k) ?_
      refine ownStep (fun _ k => XS.iload X0.here hx rfl (hb hby at_119) rfl  k) ?_
      show ownGo p.tables e below (s₁.setTop (mkF m 121 #[.val (.int pa), .val (.int pb), .val (.int pc_), .val (.int pe), .val (.int pf), .val (.int (4 : Int32)), .val (.int (0 : Int32)), .val (.int kq), .val (.int c1), .val (.int c2), .val (.int c3), .val (.int kq), .unset, .unset, .unset, .unset] [(.int c3), (.int c2), (.int c1), (.int kq), (.int (4 : Int32))])) _
      have Zs170 : n0 ≤ h0.size := Nat.le_trans Z0 KP0.1
      obtain ⟨_, _, ⟨T169, L169, k169, n169⟩, -, X169, ⟨Lc169, hQ169, l169, y169, z169⟩, st169⟩ := Jvm.LawKit.callS X0 hx (y := (⟨"com/example/circuline/circuline/circulation/BarcodesRequiredPinLaw", "make", "(ICCCC)Ljava/lang/String;"⟩ : MethodName)) hown (mvT hZ (hw _ (List.mem_of_getElem? (i := 0) rfl))) (mvT hZ (hw _ (List.mem_of_getElem? (i := 1) rfl))) (mvT hZ (hw _ (List.mem_of_getElem? (i := 2) rfl))) (mvT hZ (hw _ (List.mem_of_getElem? (i := 3) rfl))) (by decide) (backOf (W := 0) (own_mk4 l Z a0 hw [] zc kq c1 c2 c3 h0 n0 Zs170 hOld Scs hzc l_kq u_kq l_c1 u_c1 l_c2 u_c2 l_c3 u_c3) hZ (hw _ (List.mem_of_getElem? (i := 3) rfl)) (hw _ (List.mem_of_getElem? (i := 2) rfl)) (by decide) (by decide)) (g := (mkF m 121 #[.val (.int pa), .val (.int pb), .val (.int pc_), .val (.int pe), .val (.int pf), .val (.int (4 : Int32)), .val (.int (0 : Int32)), .val (.int kq), .val (.int c1), .val (.int c2), .val (.int c3), .val (.int kq), .unset, .unset, .unset, .unset] [(.int c3), (.int c2), (.int c1), (.int kq), (.int (4 : Int32))])) rfl (by rw [hml]; rfl) (argsL := [(.int (4 : Int32)), (.int kq), (.int c1), (.int c2), (.int c3)]) (rest := []) (lenOf own_law_pd0 rfl) rfl (by show 2 * 0 + _ ≤ _; exact Nat.le_of_eq rfl) (hb hby at_121) (fun _ _ => ⟨rfl, e0, (by decide : 0 + 3 ≤ _), (by decide : 0 + 12 ≤ _)⟩)
      dsimp only [Pt.U, Pt.locs, Pt.cells, Pt.slots] at X169 l169 y169 z169 st169 hQ169
      obtain rfl : k169 = 3 := y169
      obtain rfl : n169 = 12 := z169
      obtain ⟨sb_169, tb_169, kb_169, rfl, N169q, R169, P171, P172, P173, P174⟩ := hQ169
      have N169 : Fr n0 L169 := l169 ▸ Fr.app N0 N169q
      refine ownStep (fun _ k => st169 _ k) ?_
      have KP175 : Keep h0 T169.heap [] := KP0.ext R169
      refine ownStep (fun _ k => XS.astore X169.here hx rfl (hb hby at_124) rfl rfl (l' := #[.val (.int pa), .val (.int pb), .val (.int pc_), .val (.int pe), .val (.int pf), .val (.int (4 : Int32)), .val (.int (0 : Int32)), .val (.int kq), .val (.int c1), .val (.int c2), .val (.int c3), .val (.int kq), .val (.ref sb_169), .unset, .unset, .unset]) rfl k) ?_
      refine ownStep (fun _ k => XS.iloadN X169.here hx rfl (hb hby at_126) rfl  k) ?_
      refine ownStep (fun _ k => XS.sipush X169.here hx rfl (hb hby at_127) k) ?_
      refine ownStep (fun _ k => XS.iand X169.here hx rfl (hb hby at_130) rfl k) ?_
      show ownGo p.tables e below (T169.setTop (mkF m 131 #[.val (.int pa), .val (.int pb), .val (.int pc_), .val (.int pe), .val (.int pf), .val (.int (4 : Int32)), .val (.int (0 : Int32)), .val (.int kq), .val (.int c1), .val (.int c2), .val (.int c3), .val (.int kq), .val (.ref sb_169), .unset, .unset, .unset] [(.int (pb &&& (255 : Int32)))])) _
      refine ownStep (fun _ k => XS.i2c X169.here hx rfl (hb hby at_131) rfl k) ?_
      show ownGo p.tables e below (T169.setTop (mkF m 132 #[.val (.int pa), .val (.int pb), .val (.int pc_), .val (.int pe), .val (.int pf), .val (.int (4 : Int32)), .val (.int (0 : Int32)), .val (.int kq), .val (.int c1), .val (.int c2), .val (.int c3), .val (.int kq), .val (.ref sb_169), .unset, .unset, .unset] [(.int ((pb &&& (255 : Int32)).toUInt32.toUInt16.toUInt32.toInt32))])) _
      obtain ⟨f0, h_f0, l_f0, u_f0⟩ : ∃ z, ((pb &&& (255 : Int32)).toUInt32.toUInt16.toUInt32.toInt32) = z ∧ ¬ z < (0 : Int32) ∧ ¬ (255 : Int32) < z := own_char _
      rw [h_f0]
      show ownGo p.tables e below (T169.setTop (mkF m 132 #[.val (.int pa), .val (.int pb), .val (.int pc_), .val (.int pe), .val (.int pf), .val (.int (4 : Int32)), .val (.int (0 : Int32)), .val (.int kq), .val (.int c1), .val (.int c2), .val (.int c3), .val (.int kq), .val (.ref sb_169), .unset, .unset, .unset] [(.int f0)])) _
      have Q176 : Old Z n0 T169.heap := (hOld.ext R169)
      have Zs178 : n0 ≤ T169.heap.size := Nat.le_trans Z0 KP175.1
      obtain ⟨_, _, ⟨T177, L177, k177, n177⟩, -, X177, ⟨Lc177, hQ177, l177, y177, z177⟩, st177⟩ := Jvm.LawKit.callS X169 hx (y := (⟨"java/lang/String", "valueOf", "(C)Ljava/lang/String;"⟩ : MethodName)) hown (mvT hZ (hw _ (List.mem_of_getElem? (i := 34) rfl))) (mvT hZ (hw _ (List.mem_of_getElem? (i := 35) rfl))) (mvT hZ (hw _ (List.mem_of_getElem? (i := 6) rfl))) (mvT hZ (hw _ (List.mem_of_getElem? (i := 36) rfl))) (by decide) (backOf (W := 0) (own_vo l Z a0 hw [] zc f0 T169.heap n0 Zs178 Q176 Scs hzc l_f0 u_f0) hZ (hw _ (List.mem_of_getElem? (i := 36) rfl)) (hw _ (List.mem_of_getElem? (i := 6) rfl)) (by decide) (by decide)) (g := (mkF m 132 #[.val (.int pa), .val (.int pb), .val (.int pc_), .val (.int pe), .val (.int pf), .val (.int (4 : Int32)), .val (.int (0 : Int32)), .val (.int kq), .val (.int c1), .val (.int c2), .val (.int c3), .val (.int kq), .val (.ref sb_169), .unset, .unset, .unset] [(.int f0)])) rfl (by rw [hml]; rfl) (argsL := [(.int f0)]) (rest := []) (lenOf own_law_pd1 rfl) rfl (by show 2 * 0 + _ ≤ _; exact Nat.le_of_eq rfl) (hb hby at_132) (fun _ _ => ⟨rfl, rfl, (by decide : 3 + 2 ≤ _), (by decide : 12 + 5 ≤ _)⟩)
      dsimp only [Pt.U, Pt.locs, Pt.cells, Pt.slots] at X177 l177 y177 z177 st177 hQ177
      obtain rfl : k177 = 5 := y177
      obtain rfl : n177 = 17 := z177
      obtain ⟨sb_177, rfl, N177q, R177, P179⟩ := hQ177
      have N177 : Fr n0 L177 := l177 ▸ Fr.app N169 N177q
      refine ownStep (fun _ k => st177 _ k) ?_
      have KP180 : Keep h0 T177.heap [] := KP175.ext R177
      refine ownStep (fun _ k => XS.astore X177.here hx rfl (hb hby at_135) rfl rfl (l' := #[.val (.int pa), .val (.int pb), .val (.int pc_), .val (.int pe), .val (.int pf), .val (.int (4 : Int32)), .val (.int (0 : Int32)), .val (.int kq), .val (.int c1), .val (.int c2), .val (.int c3), .val (.int kq), .val (.ref sb_169), .val (.ref sb_177), .unset, .unset]) rfl k) ?_
      refine ownStep (fun _ k => XS.iloadN X177.here hx rfl (hb hby at_137) rfl  k) ?_
      refine ownStep (fun _ k => XS.sipush X177.here hx rfl (hb hby at_138) k) ?_
      refine ownStep (fun _ k => XS.iand X177.here hx rfl (hb hby at_141) rfl k) ?_
      show ownGo p.tables e below (T177.setTop (mkF m 142 #[.val (.int pa), .val (.int pb), .val (.int pc_), .val (.int pe), .val (.int pf), .val (.int (4 : Int32)), .val (.int (0 : Int32)), .val (.int kq), .val (.int c1), .val (.int c2), .val (.int c3), .val (.int kq), .val (.ref sb_169), .val (.ref sb_177), .unset, .unset] [(.int (pc_ &&& (255 : Int32)))])) _
      refine ownStep (fun _ k => XS.i2c X177.here hx rfl (hb hby at_142) rfl k) ?_
      show ownGo p.tables e below (T177.setTop (mkF m 143 #[.val (.int pa), .val (.int pb), .val (.int pc_), .val (.int pe), .val (.int pf), .val (.int (4 : Int32)), .val (.int (0 : Int32)), .val (.int kq), .val (.int c1), .val (.int c2), .val (.int c3), .val (.int kq), .val (.ref sb_169), .val (.ref sb_177), .unset, .unset] [(.int ((pc_ &&& (255 : Int32)).toUInt32.toUInt16.toUInt32.toInt32))])) _
      obtain ⟨f1, h_f1, l_f1, u_f1⟩ : ∃ z, ((pc_ &&& (255 : Int32)).toUInt32.toUInt16.toUInt32.toInt32) = z ∧ ¬ z < (0 : Int32) ∧ ¬ (255 : Int32) < z := own_char _
      rw [h_f1]
      show ownGo p.tables e below (T177.setTop (mkF m 143 #[.val (.int pa), .val (.int pb), .val (.int pc_), .val (.int pe), .val (.int pf), .val (.int (4 : Int32)), .val (.int (0 : Int32)), .val (.int kq), .val (.int c1), .val (.int c2), .val (.int c3), .val (.int kq), .val (.ref sb_169), .val (.ref sb_177), .unset, .unset] [(.int f1)])) _
      have Q181 : Old Z n0 T177.heap := (Q176.ext R177)
      have Zs183 : n0 ≤ T177.heap.size := Nat.le_trans Z0 KP180.1
      obtain ⟨_, _, ⟨T182, L182, k182, n182⟩, -, X182, ⟨Lc182, hQ182, l182, y182, z182⟩, st182⟩ := Jvm.LawKit.callS X177 hx (y := (⟨"java/lang/String", "valueOf", "(C)Ljava/lang/String;"⟩ : MethodName)) hown (mvT hZ (hw _ (List.mem_of_getElem? (i := 34) rfl))) (mvT hZ (hw _ (List.mem_of_getElem? (i := 35) rfl))) (mvT hZ (hw _ (List.mem_of_getElem? (i := 6) rfl))) (mvT hZ (hw _ (List.mem_of_getElem? (i := 36) rfl))) (by decide) (backOf (W := 0) (own_vo l Z a0 hw [] zc f1 T177.heap n0 Zs183 Q181 Scs hzc l_f1 u_f1) hZ (hw _ (List.mem_of_getElem? (i := 36) rfl)) (hw _ (List.mem_of_getElem? (i := 6) rfl)) (by decide) (by decide)) (g := (mkF m 143 #[.val (.int pa), .val (.int pb), .val (.int pc_), .val (.int pe), .val (.int pf), .val (.int (4 : Int32)), .val (.int (0 : Int32)), .val (.int kq), .val (.int c1), .val (.int c2), .val (.int c3), .val (.int kq), .val (.ref sb_169), .val (.ref sb_177), .unset, .unset] [(.int f1)])) rfl (by rw [hml]; rfl) (argsL := [(.int f1)]) (rest := []) (lenOf own_law_pd1 rfl) rfl (by show 2 * 0 + _ ≤ _; exact Nat.le_of_eq rfl) (hb hby at_143) (fun _ _ => ⟨rfl, rfl, (by decide : 5 + 2 ≤ _), (by decide : 17 + 5 ≤ _)⟩)
      dsimp only [Pt.U, Pt.locs, Pt.cells, Pt.slots] at X182 l182 y182 z182 st182 hQ182
      obtain rfl : k182 = 7 := y182
      obtain rfl : n182 = 22 := z182
      obtain ⟨sb_182, rfl, N182q, R182, P184⟩ := hQ182
      have N182 : Fr n0 L182 := l182 ▸ Fr.app N177 N182q
      refine ownStep (fun _ k => st182 _ k) ?_
      have KP185 : Keep h0 T182.heap [] := KP180.ext R182
      refine ownStep (fun _ k => XS.astore X182.here hx rfl (hb hby at_146) rfl rfl (l' := #[.val (.int pa), .val (.int pb), .val (.int pc_), .val (.int pe), .val (.int pf), .val (.int (4 : Int32)), .val (.int (0 : Int32)), .val (.int kq), .val (.int c1), .val (.int c2), .val (.int c3), .val (.int kq), .val (.ref sb_169), .val (.ref sb_177), .val (.ref sb_182), .unset]) rfl k) ?_
      refine ownStep (fun _ k => XS.aload X182.here hx rfl (hb hby at_148) rfl rfl k) ?_
      refine ownStep (fun _ k => XS.aload X182.here hx rfl (hb hby at_150) rfl rfl k) ?_
      refine ownStep (fun _ k => XS.aload X182.here hx rfl (hb hby at_152) rfl rfl k) ?_
      show ownGo p.tables e below (T182.setTop (mkF m 154 #[.val (.int pa), .val (.int pb), .val (.int pc_), .val (.int pe), .val (.int pf), .val (.int (4 : Int32)), .val (.int (0 : Int32)), .val (.int kq), .val (.int c1), .val (.int c2), .val (.int c3), .val (.int kq), .val (.ref sb_169), .val (.ref sb_177), .val (.ref sb_182), .unset] [(.ref sb_182), (.ref sb_177), (.ref sb_169)])) _
      have Q186 : Old Z n0 T182.heap := (Q181.ext R182)
      have Q187 : Exa Z T182.heap sb_169 "java/lang/String" := ((P171.ext R177).ext R182)
      have Q188 : Fld Z T182.heap sb_169 "java/lang/String" "coder" "B" (.int (0 : Int32)) := ((P172.ext R177).ext R182)
      have Q189 : Fld Z T182.heap sb_169 "java/lang/String" "value" "[B" (.ref tb_169) := ((P173.ext R177).ext R182)
      have Q190 : Arv Z T182.heap tb_169 kb_169 .byte (4 : Int32) [(.int kq.toInt8.toInt32), (.int c1.toInt8.toInt32), (.int c2.toInt8.toInt32), (.int c3.toInt8.toInt32)] (.int (0 : Int32)) := ((P174.ext R177).ext R182)
      have Zs192 : n0 ≤ T182.heap.size := Nat.le_trans Z0 KP185.1
      obtain ⟨_, _, ⟨T191, L191, k191, n191⟩, -, X191, ⟨Lc191, hQ191, l191, y191, z191⟩, st191⟩ := Jvm.LawKit.callS X182 hx (y := (⟨"com/example/circuline/circuline/circulation/Barcodes", "required", "(Ljava/lang/String;Ljava/lang/String;Ljava/lang/String;)Ljava/lang/String;"⟩ : MethodName)) hown (mvT hZ (hw _ (List.mem_of_getElem? (i := 48) rfl))) (mvT hZ (hw _ (List.mem_of_getElem? (i := 49) rfl))) (mvT hZ (hw _ (List.mem_of_getElem? (i := 50) rfl))) (mvT hZ (hw _ (List.mem_of_getElem? (i := 51) rfl))) (by decide) (backOf (W := 0) (own_req4 l Z a0 hw [] zc ci ta clt sb_169 tb_169 kb_169 kq c1 c2 c3 sb_177 sb_182 T182.heap n0 Zs192 Q186 Scs hzc Sci Eci Sca Tab Q187 Q188 Q189 Q190 l_kq u_kq l_c1 u_c1 l_c2 u_c2 l_c3 u_c3 (Or.inl kp_kq)) hZ (hw _ (List.mem_of_getElem? (i := 51) rfl)) (hw _ (List.mem_of_getElem? (i := 50) rfl)) (by decide) (by decide)) (g := (mkF m 154 #[.val (.int pa), .val (.int pb), .val (.int pc_), .val (.int pe), .val (.int pf), .val (.int (4 : Int32)), .val (.int (0 : Int32)), .val (.int kq), .val (.int c1), .val (.int c2), .val (.int c3), .val (.int kq), .val (.ref sb_169), .val (.ref sb_177), .val (.ref sb_182), .unset] [(.ref sb_182), (.ref sb_177), (.ref sb_169)])) rfl (by rw [hml]; rfl) (argsL := [(.ref sb_169), (.ref sb_177), (.ref sb_182)]) (rest := []) (lenOf own_law_pd2 rfl) rfl (by show 2 * 0 + _ ≤ _; exact Nat.le_of_eq rfl) (hb hby at_154) (fun _ _ => ⟨rfl, rfl, (by decide : 7 + 0 ≤ _), (by decide : 22 + 0 ≤ _)⟩)
      dsimp only [Pt.U, Pt.locs, Pt.cells, Pt.slots] at X191 l191 y191 z191 st191 hQ191
      obtain rfl : k191 = 7 := y191
      obtain rfl : n191 = 22 := z191
      obtain ⟨rfl, N191q, R191⟩ := hQ191
      have N191 : Fr n0 L191 := l191 ▸ Fr.app N182 N191q
      refine ownStep (fun _ k => st191 _ k) ?_
      refine ownStep (fun _ k => XS.astore X191.here hx rfl (hb hby at_157) rfl rfl (l' := #[.val (.int pa), .val (.int pb), .val (.int pc_), .val (.int pe), .val (.int pf), .val (.int (4 : Int32)), .val (.int (0 : Int32)), .val (.int kq), .val (.int c1), .val (.int c2), .val (.int c3), .val (.int kq), .val (.ref sb_169), .val (.ref sb_177), .val (.ref sb_182), .val (.ref sb_169)]) rfl k) ?_
      refine ownStep (fun _ k => XS.aload X191.here hx rfl (hb hby at_159) rfl rfl k) ?_
      refine ownStep (fun _ k => XS.ifnullNo X191.here hx rfl (hb hby at_161) rfl k) ?_
      refine ownStep (fun _ k => XS.aload X191.here hx rfl (hb hby at_164) rfl rfl k) ?_
      show ownGo p.tables e below (T191.setTop (mkF m 166 #[.val (.int pa), .val (.int pb), .val (.int pc_), .val (.int pe), .val (.int pf), .val (.int (4 : Int32)), .val (.int (0 : Int32)), .val (.int kq), .val (.int c1), .val (.int c2), .val (.int c3), .val (.int kq), .val (.ref sb_169), .val (.ref sb_177), .val (.ref sb_182), .val (.ref sb_169)] [(.ref sb_169)])) _
      have Zs194 : n0 ≤ T182.heap.size := Nat.le_trans Z0 KP185.1
      obtain ⟨cq193, kq193, q193a, q193b, q193c⟩ := isOf hZ R191 Q187
      obtain ⟨_, _, ⟨T193, L193, k193, n193⟩, -, X193, ⟨Lc193, hQ193, l193, y193, z193⟩, st193⟩ := X191.virtualBack hx (y := (⟨"java/lang/String", "length", "()I"⟩ : MethodName)) (z := (⟨"java/lang/String", "length", "()I"⟩ : MethodName)) hown (mvT hZ (hw _ (List.mem_of_getElem? (i := 96) rfl))) (mvT hZ (hw _ (List.mem_of_getElem? (i := 87) rfl))) (notFace_of_selects (args := #[]) (mvT hZ (hw _ (List.mem_of_getElem? (i := 89) rfl)))) (mvT hZ (hw _ (List.mem_of_getElem? (i := 89) rfl))) (mvT hZ (hw _ (List.mem_of_getElem? (i := 88) rfl))) (by decide) (backOf (W := 0) (own_len4 l Z a0 hw [] zc sb_169 tb_169 kb_169 kq c1 c2 c3 T182.heap n0 Zs194 Q186 Scs hzc Q187 Q188 Q189 Q190) hZ (hw _ (List.mem_of_getElem? (i := 90) rfl)) (hw _ (List.mem_of_getElem? (i := 6) rfl)) (by decide) (by decide)) q193a q193c (g := (mkF m 166 #[.val (.int pa), .val (.int pb), .val (.int pc_), .val (.int pe), .val (.int pf), .val (.int (4 : Int32)), .val (.int (0 : Int32)), .val (.int kq), .val (.int c1), .val (.int c2), .val (.int c3), .val (.int kq), .val (.ref sb_169), .val (.ref sb_177), .val (.ref sb_182), .val (.ref sb_169)] [(.ref sb_169)])) rfl (by rw [hml]; rfl) (Steps.refl _) (argsL := []) (rest := []) (lenOf own_law_pd3 rfl) rfl (by show 2 * 0 + _ ≤ _; exact Nat.le_of_eq rfl) (hb hby at_166) (fun _ _ => ⟨rfl, R191, (by decide : 7 + 0 ≤ _), (by decide : 22 + 0 ≤ _)⟩)
      dsimp only [Pt.U, Pt.locs, Pt.cells, Pt.slots] at X193 l193 y193 z193 st193 hQ193
      obtain rfl : k193 = 7 := y193
      obtain rfl : n193 = 22 := z193
      obtain ⟨rfl, N193q, R193⟩ := hQ193
      have N193 : Fr n0 L193 := l193 ▸ Fr.app N191 N193q
      refine ownStep (fun _ k => st193.trans k) ?_
      refine ownStep (fun _ k => XS.iload X193.here hx rfl (hb hby at_169) rfl  k) ?_
      refine ownStep (fun _ k => XS.icmpNo X193.here hx rfl (hb hby at_171) rfl (teq (by decide : (4 : Int32) = (4 : Int32))).2 k) ?_
      refine ownStep (fun _ k => XS.aload X193.here hx rfl (hb hby at_174) rfl rfl k) ?_
      refine ownStep (fun _ k => XS.aload X193.here hx rfl (hb hby at_176) rfl rfl k) ?_
      show ownGo p.tables e below (T193.setTop (mkF m 178 #[.val (.int pa), .val (.int pb), .val (.int pc_), .val (.int pe), .val (.int pf), .val (.int (4 : Int32)), .val (.int (0 : Int32)), .val (.int kq), .val (.int c1), .val (.int c2), .val (.int c3), .val (.int kq), .val (.ref sb_169), .val (.ref sb_177), .val (.ref sb_182), .val (.ref sb_169)] [(.ref sb_169), (.ref sb_169)])) _
      have Zs196 : n0 ≤ T182.heap.size := Nat.le_trans Z0 KP185.1
      obtain ⟨cq195, kq195, q195a, q195b, q195c⟩ := isOf hZ R193 Q187
      obtain ⟨_, _, ⟨T195, L195, k195, n195⟩, -, X195, ⟨Lc195, hQ195, l195, y195, z195⟩, st195⟩ := X193.virtualBack hx (y := (⟨"java/lang/String", "equals", "(Ljava/lang/Object;)Z"⟩ : MethodName)) (z := (⟨"java/lang/String", "equals", "(Ljava/lang/Object;)Z"⟩ : MethodName)) hown (mvT hZ (hw _ (List.mem_of_getElem? (i := 97) rfl))) (mvT hZ (hw _ (List.mem_of_getElem? (i := 98) rfl))) (notFace_of_selects (args := #[]) (mvT hZ (hw _ (List.mem_of_getElem? (i := 100) rfl)))) (mvT hZ (hw _ (List.mem_of_getElem? (i := 100) rfl))) (mvT hZ (hw _ (List.mem_of_getElem? (i := 99) rfl))) (by decide) (backOf (W := 0) (own_eq l Z a0 hw [] sb_169 T182.heap n0 Zs196 ) hZ (hw _ (List.mem_of_getElem? (i := 101) rfl)) (hw _ (List.mem_of_getElem? (i := 6) rfl)) (by decide) (by decide)) q195a q195c (g := (mkF m 178 #[.val (.int pa), .val (.int pb), .val (.int pc_), .val (.int pe), .val (.int pf), .val (.int (4 : Int32)), .val (.int (0 : Int32)), .val (.int kq), .val (.int c1), .val (.int c2), .val (.int c3), .val (.int kq), .val (.ref sb_169), .val (.ref sb_177), .val (.ref sb_182), .val (.ref sb_169)] [(.ref sb_169), (.ref sb_169)])) rfl (by rw [hml]; rfl) (Steps.refl _) (argsL := [(.ref sb_169)]) (rest := []) (lenOf own_law_pd4 rfl) rfl (by show 2 * 0 + _ ≤ _; exact Nat.le_of_eq rfl) (hb hby at_178) (fun _ _ => ⟨rfl, R193, (by decide : 7 + 0 ≤ _), (by decide : 22 + 0 ≤ _)⟩)
      dsimp only [Pt.U, Pt.locs, Pt.cells, Pt.slots] at X195 l195 y195 z195 st195 hQ195
      obtain rfl : k195 = 7 := y195
      obtain rfl : n195 = 22 := z195
      obtain ⟨rfl, N195q, R195⟩ := hQ195
      have N195 : Fr n0 L195 := l195 ▸ Fr.app N193 N195q
      refine ownStep (fun _ k => st195.trans k) ?_
      refine ownStep (fun _ k => XS.ifNo X195.here hx rfl (hb hby at_181) rfl ((if0 _ _).trans (feq (by decide : ¬ (1 : Int32) = (0 : Int32))).1) k) ?_
      refine ownStep (fun _ k => XS.iconst X195.here hx rfl (hb hby at_184) k) ?_
      refine ownStep (fun _ k => XS.goto X195.here hx rfl (pc0 := 185) (pc' := 189) rfl (hb hby at_185) (by decide) (by decide) k) ?_
      show ownGo p.tables e below (T195.setTop (mkF m 189 #[.val (.int pa), .val (.int pb), .val (.int pc_), .val (.int pe), .val (.int pf), .val (.int (4 : Int32)), .val (.int (0 : Int32)), .val (.int kq), .val (.int c1), .val (.int c2), .val (.int c3), .val (.int kq), .val (.ref sb_169), .val (.ref sb_177), .val (.ref sb_182), .val (.ref sb_169)] [(.int (1 : Int32))])) _
      exact ownRet X195 (v := some (.int (1 : Int32))) Bd.notSynchronized (fun h => by rw [Bd.returns] at h; cases h) (fun _ hr => retN X195 hx (t := .boolean) Bd.returns (by simp) (hb hby at_189) hr) (by rw [R195]; exact ⟨rfl, N195, (own_extOf KP185)⟩) (by decide) (by decide)
    · skip
      rw [hk]
      refine ownStep (fun _ k => XS.istore X0.here hx rfl (hb hby at_13) rfl (l' := #[.val (.int pa), .val (.int pb), .val (.int pc_), .val (.int pe), .val (.int pf), .val (.int (4 : Int32)), .val (.int (1 : Int32)), .unset, .unset, .unset, .unset, .unset, .unset, .unset, .unset, .unset]) rfl k) ?_
      refine ownStep (fun _ k => XS.iloadN X0.here hx rfl (hb hby at_15) rfl  k) ?_
      refine ownStep (fun _ k => XS.sipush X0.here hx rfl (hb hby at_16) k) ?_
      refine ownStep (fun _ k => XS.iand X0.here hx rfl (hb hby at_19) rfl k) ?_
      show ownGo p.tables e below (s₁.setTop (mkF m 20 #[.val (.int pa), .val (.int pb), .val (.int pc_), .val (.int pe), .val (.int pf), .val (.int (4 : Int32)), .val (.int (1 : Int32)), .unset, .unset, .unset, .unset, .unset, .unset, .unset, .unset, .unset] [(.int (pa &&& (255 : Int32)))])) _
      refine ownStep (fun _ k => XS.i2c X0.here hx rfl (hb hby at_20) rfl k) ?_
      show ownGo p.tables e below (s₁.setTop (mkF m 21 #[.val (.int pa), .val (.int pb), .val (.int pc_), .val (.int pe), .val (.int pf), .val (.int (4 : Int32)), .val (.int (1 : Int32)), .unset, .unset, .unset, .unset, .unset, .unset, .unset, .unset, .unset] [(.int ((pa &&& (255 : Int32)).toUInt32.toUInt16.toUInt32.toInt32))])) _
      obtain ⟨c0, h_c0, l_c0, u_c0⟩ : ∃ z, ((pa &&& (255 : Int32)).toUInt32.toUInt16.toUInt32.toInt32) = z ∧ ¬ z < (0 : Int32) ∧ ¬ (255 : Int32) < z := own_char _
      rw [h_c0]
      refine ownStep (fun _ k => XS.istore X0.here hx rfl (hb hby at_21) rfl (l' := #[.val (.int pa), .val (.int pb), .val (.int pc_), .val (.int pe), .val (.int pf), .val (.int (4 : Int32)), .val (.int (1 : Int32)), .val (.int c0), .unset, .unset, .unset, .unset, .unset, .unset, .unset, .unset]) rfl k) ?_
      refine ownStep (fun _ k => XS.iloadN X0.here hx rfl (hb hby at_23) rfl  k) ?_
      refine ownStep (fun _ k => XS.bipush X0.here hx rfl (hb hby at_24) k) ?_
      refine ownStep (fun _ k => XS.iushr X0.here hx rfl (hb hby at_26) rfl k) ?_
      show ownGo p.tables e below (s₁.setTop (mkF m 27 #[.val (.int pa), .val (.int pb), .val (.int pc_), .val (.int pe), .val (.int pf), .val (.int (4 : Int32)), .val (.int (1 : Int32)), .val (.int c0), .unset, .unset, .unset, .unset, .unset, .unset, .unset, .unset] [(.int ((pa.toUInt32 >>> ((8 : Int32) &&& 31).toUInt32).toInt32))])) _
      refine ownStep (fun _ k => XS.sipush X0.here hx rfl (hb hby at_27) k) ?_
      refine ownStep (fun _ k => XS.iand X0.here hx rfl (hb hby at_30) rfl k) ?_
      refine ownStep (fun _ k => XS.i2c X0.here hx rfl (hb hby at_31) rfl k) ?_
      show ownGo p.tables e below (s₁.setTop (mkF m 32 #[.val (.int pa), .val (.int pb), .val (.int pc_), .val (.int pe), .val (.int pf), .val (.int (4 : Int32)), .val (.int (1 : Int32)), .val (.int c0), .unset, .unset, .unset, .unset, .unset, .unset, .unset, .unset] [(.int ((((pa.toUInt32 >>> ((8 : Int32) &&& 31).toUInt32).toInt32) &&& (255 : Int32)).toUInt32.toUInt16.toUInt32.toInt32))])) _
      obtain ⟨c1, h_c1, l_c1, u_c1⟩ : ∃ z, ((((pa.toUInt32 >>> ((8 : Int32) &&& 31).toUInt32).toInt32) &&& (255 : Int32)).toUInt32.toUInt16.toUInt32.toInt32) = z ∧ ¬ z < (0 : Int32) ∧ ¬ (255 : Int32) < z := own_char _
      rw [h_c1]
      refine ownStep (fun _ k => XS.istore X0.here hx rfl (hb hby at_32) rfl (l' := #[.val (.int pa), .val (.int pb), .val (.int pc_), .val (.int pe), .val (.int pf), .val (.int (4 : Int32)), .val (.int (1 : Int32)), .val (.int c0), .val (.int c1), .unset, .unset, .unset, .unset, .unset, .unset, .unset]) rfl k) ?_
      refine ownStep (fun _ k => XS.iloadN X0.here hx rfl (hb hby at_34) rfl  k) ?_
      refine ownStep (fun _ k => XS.bipush X0.here hx rfl (hb hby at_35) k) ?_
      refine ownStep (fun _ k => XS.iushr X0.here hx rfl (hb hby at_37) rfl k) ?_
      show ownGo p.tables e below (s₁.setTop (mkF m 38 #[.val (.int pa), .val (.int pb), .val (.int pc_), .val (.int pe), .val (.int pf), .val (.int (4 : Int32)), .val (.int (1 : Int32)), .val (.int c0), .val (.int c1), .unset, .unset, .unset, .unset, .unset, .unset, .unset] [(.int ((pa.toUInt32 >>> ((16 : Int32) &&& 31).toUInt32).toInt32))])) _
      refine ownStep (fun _ k => XS.sipush X0.here hx rfl (hb hby at_38) k) ?_
      refine ownStep (fun _ k => XS.iand X0.here hx rfl (hb hby at_41) rfl k) ?_
      refine ownStep (fun _ k => XS.i2c X0.here hx rfl (hb hby at_42) rfl k) ?_
      show ownGo p.tables e below (s₁.setTop (mkF m 43 #[.val (.int pa), .val (.int pb), .val (.int pc_), .val (.int pe), .val (.int pf), .val (.int (4 : Int32)), .val (.int (1 : Int32)), .val (.int c0), .val (.int c1), .unset, .unset, .unset, .unset, .unset, .unset, .unset] [(.int ((((pa.toUInt32 >>> ((16 : Int32) &&& 31).toUInt32).toInt32) &&& (255 : Int32)).toUInt32.toUInt16.toUInt32.toInt32))])) _
      obtain ⟨c2, h_c2, l_c2, u_c2⟩ : ∃ z, ((((pa.toUInt32 >>> ((16 : Int32) &&& 31).toUInt32).toInt32) &&& (255 : Int32)).toUInt32.toUInt16.toUInt32.toInt32) = z ∧ ¬ z < (0 : Int32) ∧ ¬ (255 : Int32) < z := own_char _
      rw [h_c2]
      refine ownStep (fun _ k => XS.istore X0.here hx rfl (hb hby at_43) rfl (l' := #[.val (.int pa), .val (.int pb), .val (.int pc_), .val (.int pe), .val (.int pf), .val (.int (4 : Int32)), .val (.int (1 : Int32)), .val (.int c0), .val (.int c1), .val (.int c2), .unset, .unset, .unset, .unset, .unset, .unset]) rfl k) ?_
      refine ownStep (fun _ k => XS.iloadN X0.here hx rfl (hb hby at_45) rfl  k) ?_
      refine ownStep (fun _ k => XS.bipush X0.here hx rfl (hb hby at_46) k) ?_
      refine ownStep (fun _ k => XS.iushr X0.here hx rfl (hb hby at_48) rfl k) ?_
      show ownGo p.tables e below (s₁.setTop (mkF m 49 #[.val (.int pa), .val (.int pb), .val (.int pc_), .val (.int pe), .val (.int pf), .val (.int (4 : Int32)), .val (.int (1 : Int32)), .val (.int c0), .val (.int c1), .val (.int c2), .unset, .unset, .unset, .unset, .unset, .unset] [(.int ((pa.toUInt32 >>> ((24 : Int32) &&& 31).toUInt32).toInt32))])) _
      refine ownStep (fun _ k => XS.sipush X0.here hx rfl (hb hby at_49) k) ?_
      refine ownStep (fun _ k => XS.iand X0.here hx rfl (hb hby at_52) rfl k) ?_
      refine ownStep (fun _ k => XS.i2c X0.here hx rfl (hb hby at_53) rfl k) ?_
      show ownGo p.tables e below (s₁.setTop (mkF m 54 #[.val (.int pa), .val (.int pb), .val (.int pc_), .val (.int pe), .val (.int pf), .val (.int (4 : Int32)), .val (.int (1 : Int32)), .val (.int c0), .val (.int c1), .val (.int c2), .unset, .unset, .unset, .unset, .unset, .unset] [(.int ((((pa.toUInt32 >>> ((24 : Int32) &&& 31).toUInt32).toInt32) &&& (255 : Int32)).toUInt32.toUInt16.toUInt32.toInt32))])) _
      obtain ⟨c3, h_c3, l_c3, u_c3⟩ : ∃ z, ((((pa.toUInt32 >>> ((24 : Int32) &&& 31).toUInt32).toInt32) &&& (255 : Int32)).toUInt32.toUInt16.toUInt32.toInt32) = z ∧ ¬ z < (0 : Int32) ∧ ¬ (255 : Int32) < z := own_char _
      rw [h_c3]
      refine ownStep (fun _ k => XS.istore X0.here hx rfl (hb hby at_54) rfl (l' := #[.val (.int pa), .val (.int pb), .val (.int pc_), .val (.int pe), .val (.int pf), .val (.int (4 : Int32)), .val (.int (1 : Int32)), .val (.int c0), .val (.int c1), .val (.int c2), .val (.int c3), .unset, .unset, .unset, .unset, .unset]) rfl k) ?_
      refine ownStep (fun _ k => XS.bipush X0.here hx rfl (hb hby at_56) k) ?_
      refine ownStep (fun _ k => XS.iload X0.here hx rfl (hb hby at_58) rfl  k) ?_
      refine ownStep (fun _ k => XS.iconst X0.here hx rfl (hb hby at_60) k) ?_
      show ownGo p.tables e below (s₁.setTop (mkF m 61 #[.val (.int pa), .val (.int pb), .val (.int pc_), .val (.int pe), .val (.int pf), .val (.int (4 : Int32)), .val (.int (1 : Int32)), .val (.int c0), .val (.int c1), .val (.int c2), .val (.int c3), .unset, .unset, .unset, .unset, .unset] [(.int (1 : Int32)), (.int pf), (.int (33 : Int32))])) _
      refine ownStep (fun _ k => XS.iushr X0.here hx rfl (hb hby at_61) rfl k) ?_
      refine ownStep (fun _ k => XS.bipush X0.here hx rfl (hb hby at_62) k) ?_
      show ownGo p.tables e below (s₁.setTop (mkF m 64 #[.val (.int pa), .val (.int pb), .val (.int pc_), .val (.int pe), .val (.int pf), .val (.int (4 : Int32)), .val (.int (1 : Int32)), .val (.int c0), .val (.int c1), .val (.int c2), .val (.int c3), .unset, .unset, .unset, .unset, .unset] [(.int (94 : Int32)), (.int ((pf.toUInt32 >>> ((1 : Int32) &&& 31).toUInt32).toInt32)), (.int (33 : Int32))])) _
      refine ownStep (fun _ k => iremM X0 hx rfl (hb hby at_64) rfl (by decide) k) ?_
      refine ownStep (fun _ k => XS.iadd X0.here hx rfl (hb hby at_65) rfl k) ?_
      refine ownStep (fun _ k => XS.i2c X0.here hx rfl (hb hby at_66) rfl k) ?_
      show ownGo p.tables e below (s₁.setTop (mkF m 67 #[.val (.int pa), .val (.int pb), .val (.int pc_), .val (.int pe), .val (.int pf), .val (.int (4 : Int32)), .val (.int (1 : Int32)), .val (.int c0), .val (.int c1), .val (.int c2), .val (.int c3), .unset, .unset, .unset, .unset, .unset] [(.int (((33 : Int32) + (((pf.toUInt32 >>> ((1 : Int32) &&& 31).toUInt32).toInt32) % (94 : Int32))).toUInt32.toUInt16.toUInt32.toInt32))])) _
      obtain ⟨kq, h_kq, l_kq, u_kq, kp_kq⟩ : ∃ z, (((33 : Int32) + (((pf.toUInt32 >>> ((1 : Int32) &&& 31).toUInt32).toInt32) % (94 : Int32))).toUInt32.toUInt16.toUInt32.toInt32) = z ∧ ¬ z < (0 : Int32) ∧ ¬ (255 : Int32) < z ∧ own_keep z := own_keepv pf
      rw [h_kq]
      refine ownStep (fun _ k => XS.istore X0.here hx rfl (hb hby at_67) rfl (l' := #[.val (.int pa), .val (.int pb), .val (.int pc_), .val (.int pe), .val (.int pf), .val (.int (4 : Int32)), .val (.int (1 : Int32)), .val (.int c0), .val (.int c1), .val (.int c2), .val (.int c3), .val (.int kq), .unset, .unset, .unset, .unset]) rfl k) ?_
      refine ownStep (fun _ k => XS.iload X0.here hx rfl (hb hby at_69) rfl  k) ?_
      refine ownStep (fun _ k => XS.ifYes X0.here hx rfl (pc0 := 71) (pc' := 81) rfl (hb hby at_71) rfl ((if0 _ _).trans (feq (by decide : ¬ (1 : Int32) = (0 : Int32))).2) (by decide) (by decide) k) ?_
      refine ownStep (fun _ k => XS.iload X0.here hx rfl (hb hby at_81) rfl  k) ?_
      show ownGo p.tables e below (s₁.setTop (mkF m 83 #[.val (.int pa), .val (.int pb), .val (.int pc_), .val (.int pe), .val (.int pf), .val (.int (4 : Int32)), .val (.int (1 : Int32)), .val (.int c0), .val (.int c1), .val (.int c2), .val (.int c3), .val (.int kq), .unset, .unset, .unset, .unset] [(.int (1 : Int32))])) _
      refine ownStep (fun _ k => XS.iconst X0.here hx rfl (hb hby at_83) k) ?_
      refine ownStep (fun _ k => XS.icmpNo X0.here hx rfl (hb hby at_84) rfl (teq (by decide : (1 : Int32) = (1 : Int32))).2 k) ?_
      refine ownStep (fun _ k => XS.iload X0.here hx rfl (hb hby at_87) rfl  k) ?_
      refine ownStep (fun _ k => XS.istore X0.here hx rfl (hb hby at_89) rfl (l' := #[.val (.int pa), .val (.int pb), .val (.int pc_), .val (.int pe), .val (.int pf), .val (.int (4 : Int32)), .val (.int (1 : Int32)), .val (.int c0), .val (.int kq), .val (.int c2), .val (.int c3), .val (.int kq), .unset, .unset, .unset, .unset]) rfl k) ?_
      refine ownStep (fun _ k => XS.goto X0.here hx rfl (pc0 := 91) (pc' := 111) rfl (hb hby at_91) (by decide) (by decide) k) ?_
      show ownGo p.tables e below (s₁.setTop (mkF m 111 #[.val (.int pa), .val (.int pb), .val (.int pc_), .val (.int pe), .val (.int pf), .val (.int (4 : Int32)), .val (.int (1 : Int32)), .val (.int c0), .val (.int kq), .val (.int c2), .val (.int c3), .val (.int kq), .unset, .unset, .unset, .unset] [])) _
      refine ownStep (fun _ k => XS.iload X0.here hx rfl (hb hby at_111) rfl  k) ?_
      refine ownStep (fun _ k => XS.iload X0.here hx rfl (hb hby at_113) rfl  k) ?_
      refine ownStep (fun _ k => XS.iload X0.here hx rfl (hb hby at_115) rfl  k) ?_
      refine ownStep (fun _ k => XS.iload X0.here hx rfl (hb hby at_117) rfl  k) ?_
      refine ownStep (fun _ k => XS.iload X0.here hx rfl (hb hby at_119) rfl  k) ?_
      show ownGo p.tables e below (s₁.setTop (mkF m 121 #[.val (.int pa), .val (.int pb), .val (.int pc_), .val (.int pe), .val (.int pf), .val (.int (4 : Int32)), .val (.int (1 : Int32)), .val (.int c0), .val (.int kq), .val (.int c2), .val (.int c3), .val (.int kq), .unset, .unset, .unset, .unset] [(.int c3), (.int c2), (.int kq), (.int c0), (.int (4 : Int32))])) _
      have Zs198 : n0 ≤ h0.size := Nat.le_trans Z0 KP0.1
      obtain ⟨_, _, ⟨T197, L197, k197, n197⟩, -, X197, ⟨Lc197, hQ197, l197, y197, z197⟩, st197⟩ := Jvm.LawKit.callS X0 hx (y := (⟨"com/example/circuline/circuline/circulation/BarcodesRequiredPinLaw", "make", "(ICCCC)Ljava/lang/String;"⟩ : MethodName)) hown (mvT hZ (hw _ (List.mem_of_getElem? (i := 0) rfl))) (mvT hZ (hw _ (List.mem_of_getElem? (i := 1) rfl))) (mvT hZ (hw _ (List.mem_of_getElem? (i := 2) rfl))) (mvT hZ (hw _ (List.mem_of_getElem? (i := 3) rfl))) (by decide) (backOf (W := 0) (own_mk4 l Z a0 hw [] zc c0 kq c2 c3 h0 n0 Zs198 hOld Scs hzc l_c0 u_c0 l_kq u_kq l_c2 u_c2 l_c3 u_c3) hZ (hw _ (List.mem_of_getElem? (i := 3) rfl)) (hw _ (List.mem_of_getElem? (i := 2) rfl)) (by decide) (by decide)) (g := (mkF m 121 #[.val (.int pa), .val (.int pb), .val (.int pc_), .val (.int pe), .val (.int pf), .val (.int (4 : Int32)), .val (.int (1 : Int32)), .val (.int c0), .val (.int kq), .val (.int c2), .val (.int c3), .val (.int kq), .unset, .unset, .unset, .unset] [(.int c3), (.int c2), (.int kq), (.int c0), (.int (4 : Int32))])) rfl (by rw [hml]; rfl) (argsL := [(.int (4 : Int32)), (.int c0), (.int kq), (.int c2), (.int c3)]) (rest := []) (lenOf own_law_pd0 rfl) rfl (by show 2 * 0 + _ ≤ _; exact Nat.le_of_eq rfl) (hb hby at_121) (fun _ _ => ⟨rfl, e0, (by decide : 0 + 3 ≤ _), (by decide : 0 + 12 ≤ _)⟩)
      dsimp only [Pt.U, Pt.locs, Pt.cells, Pt.slots] at X197 l197 y197 z197 st197 hQ197
      obtain rfl : k197 = 3 := y197
      obtain rfl : n197 = 12 := z197
      obtain ⟨sb_197, tb_197, kb_197, rfl, N197q, R197, P199, P200, P201, P202⟩ := hQ197
      have N197 : Fr n0 L197 := l197 ▸ Fr.app N0 N197q
      refine ownStep (fun _ k => st197 _ k) ?_
      have KP203 : Keep h0 T197.heap [] := KP0.ext R197
      refine ownStep (fun _ k => XS.astore X197.here hx rfl (hb hby at_124) rfl rfl (l' := #[.val (.int pa), .val (.int pb), .val (.int pc_), .val (.int pe), .val (.int pf), .val (.int (4 : Int32)), .val (.int (1 : Int32)), .val (.int c0), .val (.int kq), .val (.int c2), .val (.int c3), .val (.int kq), .val (.ref sb_197), .unset, .unset, .unset]) rfl k) ?_
      refine ownStep (fun _ k => XS.iloadN X197.here hx rfl (hb hby at_126) rfl  k) ?_
      refine ownStep (fun _ k => XS.sipush X197.here hx rfl (hb hby at_127) k) ?_
      refine ownStep (fun _ k => XS.iand X197.here hx rfl (hb hby at_130) rfl k) ?_
      show ownGo p.tables e below (T197.setTop (mkF m 131 #[.val (.int pa), .val (.int pb), .val (.int pc_), .val (.int pe), .val (.int pf), .val (.int (4 : Int32)), .val (.int (1 : Int32)), .val (.int c0), .val (.int kq), .val (.int c2), .val (.int c3), .val (.int kq), .val (.ref sb_197), .unset, .unset, .unset] [(.int (pb &&& (255 : Int32)))])) _
      refine ownStep (fun _ k => XS.i2c X197.here hx rfl (hb hby at_131) rfl k) ?_
      show ownGo p.tables e below (T197.setTop (mkF m 132 #[.val (.int pa), .val (.int pb), .val (.int pc_), .val (.int pe), .val (.int pf), .val (.int (4 : Int32)), .val (.int (1 : Int32)), .val (.int c0), .val (.int kq), .val (.int c2), .val (.int c3), .val (.int kq), .val (.ref sb_197), .unset, .unset, .unset] [(.int ((pb &&& (255 : Int32)).toUInt32.toUInt16.toUInt32.toInt32))])) _
      obtain ⟨f0, h_f0, l_f0, u_f0⟩ : ∃ z, ((pb &&& (255 : Int32)).toUInt32.toUInt16.toUInt32.toInt32) = z ∧ ¬ z < (0 : Int32) ∧ ¬ (255 : Int32) < z := own_char _
      rw [h_f0]
      show ownGo p.tables e below (T197.setTop (mkF m 132 #[.val (.int pa), .val (.int pb), .val (.int pc_), .val (.int pe), .val (.int pf), .val (.int (4 : Int32)), .val (.int (1 : Int32)), .val (.int c0), .val (.int kq), .val (.int c2), .val (.int c3), .val (.int kq), .val (.ref sb_197), .unset, .unset, .unset] [(.int f0)])) _
      have Q204 : Old Z n0 T197.heap := (hOld.ext R197)
      have Zs206 : n0 ≤ T197.heap.size := Nat.le_trans Z0 KP203.1
      obtain ⟨_, _, ⟨T205, L205, k205, n205⟩, -, X205, ⟨Lc205, hQ205, l205, y205, z205⟩, st205⟩ := Jvm.LawKit.callS X197 hx (y := (⟨"java/lang/String", "valueOf", "(C)Ljava/lang/String;"⟩ : MethodName)) hown (mvT hZ (hw _ (List.mem_of_getElem? (i := 34) rfl))) (mvT hZ (hw _ (List.mem_of_getElem? (i := 35) rfl))) (mvT hZ (hw _ (List.mem_of_getElem? (i := 6) rfl))) (mvT hZ (hw _ (List.mem_of_getElem? (i := 36) rfl))) (by decide) (backOf (W := 0) (own_vo l Z a0 hw [] zc f0 T197.heap n0 Zs206 Q204 Scs hzc l_f0 u_f0) hZ (hw _ (List.mem_of_getElem? (i := 36) rfl)) (hw _ (List.mem_of_getElem? (i := 6) rfl)) (by decide) (by decide)) (g := (mkF m 132 #[.val (.int pa), .val (.int pb), .val (.int pc_), .val (.int pe), .val (.int pf), .val (.int (4 : Int32)), .val (.int (1 : Int32)), .val (.int c0), .val (.int kq), .val (.int c2), .val (.int c3), .val (.int kq), .val (.ref sb_197), .unset, .unset, .unset] [(.int f0)])) rfl (by rw [hml]; rfl) (argsL := [(.int f0)]) (rest := []) (lenOf own_law_pd1 rfl) rfl (by show 2 * 0 + _ ≤ _; exact Nat.le_of_eq rfl) (hb hby at_132) (fun _ _ => ⟨rfl, rfl, (by decide : 3 + 2 ≤ _), (by decide : 12 + 5 ≤ _)⟩)
      dsimp only [Pt.U, Pt.locs, Pt.cells, Pt.slots] at X205 l205 y205 z205 st205 hQ205
      obtain rfl : k205 = 5 := y205
      obtain rfl : n205 = 17 := z205
      obtain ⟨sb_205, rfl, N205q, R205, P207⟩ := hQ205
      have N205 : Fr n0 L205 := l205 ▸ Fr.app N197 N205q
      refine ownStep (fun _ k => st205 _ k) ?_
      have KP208 : Keep h0 T205.heap [] := KP203.ext R205
      refine ownStep (fun _ k => XS.astore X205.here hx rfl (hb hby at_135) rfl rfl (l' := #[.val (.int pa), .val (.int pb), .val (.int pc_), .val (.int pe), .val (.int pf), .val (.int (4 : Int32)), .val (.int (1 : Int32)), .val (.int c0), .val (.int kq), .val (.int c2), .val (.int c3), .val (.int kq), .val (.ref sb_197), .val (.ref sb_205), .unset, .unset]) rfl k) ?_
      refine ownStep (fun _ k => XS.iloadN X205.here hx rfl (hb hby at_137) rfl  k) ?_
      refine ownStep (fun _ k => XS.sipush X205.here hx rfl (hb hby at_138) k) ?_
      refine ownStep (fun _ k => XS.iand X205.here hx rfl (hb hby at_141) rfl k) ?_
      show ownGo p.tables e below (T205.setTop (mkF m 142 #[.val (.int pa), .val (.int pb), .val (.int pc_), .val (.int pe), .val (.int pf), .val (.int (4 : Int32)), .val (.int (1 : Int32)), .val (.int c0), .val (.int kq), .val (.int c2), .val (.int c3), .val (.int kq), .val (.ref sb_197), .val (.ref sb_205), .unset, .unset] [(.int (pc_ &&& (255 : Int32)))])) _
      refine ownStep (fun _ k => XS.i2c X205.here hx rfl (hb hby at_142) rfl k) ?_
      show ownGo p.tables e below (T205.setTop (mkF m 143 #[.val (.int pa), .val (.int pb), .val (.int pc_), .val (.int pe), .val (.int pf), .val (.int (4 : Int32)), .val (.int (1 : Int32)), .val (.int c0), .val (.int kq), .val (.int c2), .val (.int c3), .val (.int kq), .val (.ref sb_197), .val (.ref sb_205), .unset, .unset] [(.int ((pc_ &&& (255 : Int32)).toUInt32.toUInt16.toUInt32.toInt32))])) _
      obtain ⟨f1, h_f1, l_f1, u_f1⟩ : ∃ z, ((pc_ &&& (255 : Int32)).toUInt32.toUInt16.toUInt32.toInt32) = z ∧ ¬ z < (0 : Int32) ∧ ¬ (255 : Int32) < z := own_char _
      rw [h_f1]
      show ownGo p.tables e below (T205.setTop (mkF m 143 #[.val (.int pa), .val (.int pb), .val (.int pc_), .val (.int pe), .val (.int pf), .val (.int (4 : Int32)), .val (.int (1 : Int32)), .val (.int c0), .val (.int kq), .val (.int c2), .val (.int c3), .val (.int kq), .val (.ref sb_197), .val (.ref sb_205), .unset, .unset] [(.int f1)])) _
      have Q209 : Old Z n0 T205.heap := (Q204.ext R205)
      have Zs211 : n0 ≤ T205.heap.size := Nat.le_trans Z0 KP208.1
      obtain ⟨_, _, ⟨T210, L210, k210, n210⟩, -, X210, ⟨Lc210, hQ210, l210, y210, z210⟩, st210⟩ := Jvm.LawKit.callS X205 hx (y := (⟨"java/lang/String", "valueOf", "(C)Ljava/lang/String;"⟩ : MethodName)) hown (mvT hZ (hw _ (List.mem_of_getElem? (i := 34) rfl))) (mvT hZ (hw _ (List.mem_of_getElem? (i := 35) rfl))) (mvT hZ (hw _ (List.mem_of_getElem? (i := 6) rfl))) (mvT hZ (hw _ (List.mem_of_getElem? (i := 36) rfl))) (by decide) (backOf (W := 0) (own_vo l Z a0 hw [] zc f1 T205.heap n0 Zs211 Q209 Scs hzc l_f1 u_f1) hZ (hw _ (List.mem_of_getElem? (i := 36) rfl)) (hw _ (List.mem_of_getElem? (i := 6) rfl)) (by decide) (by decide)) (g := (mkF m 143 #[.val (.int pa), .val (.int pb), .val (.int pc_), .val (.int pe), .val (.int pf), .val (.int (4 : Int32)), .val (.int (1 : Int32)), .val (.int c0), .val (.int kq), .val (.int c2), .val (.int c3), .val (.int kq), .val (.ref sb_197), .val (.ref sb_205), .unset, .unset] [(.int f1)])) rfl (by rw [hml]; rfl) (argsL := [(.int f1)]) (rest := []) (lenOf own_law_pd1 rfl) rfl (by show 2 * 0 + _ ≤ _; exact Nat.le_of_eq rfl) (hb hby at_143) (fun _ _ => ⟨rfl, rfl, (by decide : 5 + 2 ≤ _), (by decide : 17 + 5 ≤ _)⟩)
      dsimp only [Pt.U, Pt.locs, Pt.cells, Pt.slots] at X210 l210 y210 z210 st210 hQ210
      obtain rfl : k210 = 7 := y210
      obtain rfl : n210 = 22 := z210
      obtain ⟨sb_210, rfl, N210q, R210, P212⟩ := hQ210
      have N210 : Fr n0 L210 := l210 ▸ Fr.app N205 N210q
      refine ownStep (fun _ k => st210 _ k) ?_
      have KP213 : Keep h0 T210.heap [] := KP208.ext R210
      refine ownStep (fun _ k => XS.astore X210.here hx rfl (hb hby at_146) rfl rfl (l' := #[.val (.int pa), .val (.int pb), .val (.int pc_), .val (.int pe), .val (.int pf), .val (.int (4 : Int32)), .val (.int (1 : Int32)), .val (.int c0), .val (.int kq), .val (.int c2), .val (.int c3), .val (.int kq), .val (.ref sb_197), .val (.ref sb_205), .val (.ref sb_210), .unset]) rfl k) ?_
      refine ownStep (fun _ k => XS.aload X210.here hx rfl (hb hby at_148) rfl rfl k) ?_
      refine ownStep (fun _ k => XS.aload X210.here hx rfl (hb hby at_150) rfl rfl k) ?_
      refine ownStep (fun _ k => XS.aload X210.here hx rfl (hb hby at_152) rfl rfl k) ?_
      show ownGo p.tables e below (T210.setTop (mkF m 154 #[.val (.int pa), .val (.int pb), .val (.int pc_), .val (.int pe), .val (.int pf), .val (.int (4 : Int32)), .val (.int (1 : Int32)), .val (.int c0), .val (.int kq), .val (.int c2), .val (.int c3), .val (.int kq), .val (.ref sb_197), .val (.ref sb_205), .val (.ref sb_210), .unset] [(.ref sb_210), (.ref sb_205), (.ref sb_197)])) _
      have Q214 : Old Z n0 T210.heap := (Q209.ext R210)
      have Q215 : Exa Z T210.heap sb_197 "java/lang/String" := ((P199.ext R205).ext R210)
      have Q216 : Fld Z T210.heap sb_197 "java/lang/String" "coder" "B" (.int (0 : Int32)) := ((P200.ext R205).ext R210)
      have Q217 : Fld Z T210.heap sb_197 "java/lang/String" "value" "[B" (.ref tb_197) := ((P201.ext R205).ext R210)
      have Q218 : Arv Z T210.heap tb_197 kb_197 .byte (4 : Int32) [(.int c0.toInt8.toInt32), (.int kq.toInt8.toInt32), (.int c2.toInt8.toInt32), (.int c3.toInt8.toInt32)] (.int (0 : Int32)) := ((P202.ext R205).ext R210)
      have Zs220 : n0 ≤ T210.heap.size := Nat.le_trans Z0 KP213.1
      obtain ⟨_, _, ⟨T219, L219, k219, n219⟩, -, X219, ⟨Lc219, hQ219, l219, y219, z219⟩, st219⟩ := Jvm.LawKit.callS X210 hx (y := (⟨"com/example/circuline/circuline/circulation/Barcodes", "required", "(Ljava/lang/String;Ljava/lang/String;Ljava/lang/String;)Ljava/lang/String;"⟩ : MethodName)) hown (mvT hZ (hw _ (List.mem_of_getElem? (i := 48) rfl))) (mvT hZ (hw _ (List.mem_of_getElem? (i := 49) rfl))) (mvT hZ (hw _ (List.mem_of_getElem? (i := 50) rfl))) (mvT hZ (hw _ (List.mem_of_getElem? (i := 51) rfl))) (by decide) (backOf (W := 0) (own_req4 l Z a0 hw [] zc ci ta clt sb_197 tb_197 kb_197 c0 kq c2 c3 sb_205 sb_210 T210.heap n0 Zs220 Q214 Scs hzc Sci Eci Sca Tab Q215 Q216 Q217 Q218 l_c0 u_c0 l_kq u_kq l_c2 u_c2 l_c3 u_c3 (Or.inr (Or.inl kp_kq))) hZ (hw _ (List.mem_of_getElem? (i := 51) rfl)) (hw _ (List.mem_of_getElem? (i := 50) rfl)) (by decide) (by decide)) (g := (mkF m 154 #[.val (.int pa), .val (.int pb), .val (.int pc_), .val (.int pe), .val (.int pf), .val (.int (4 : Int32)), .val (.int (1 : Int32)), .val (.int c0), .val (.int kq), .val (.int c2), .val (.int c3), .val (.int kq), .val (.ref sb_197), .val (.ref sb_205), .val (.ref sb_210), .unset] [(.ref sb_210), (.ref sb_205), (.ref sb_197)])) rfl (by rw [hml]; rfl) (argsL := [(.ref sb_197), (.ref sb_205), (.ref sb_210)]) (rest := []) (lenOf own_law_pd2 rfl) rfl (by show 2 * 0 + _ ≤ _; exact Nat.le_of_eq rfl) (hb hby at_154) (fun _ _ => ⟨rfl, rfl, (by decide : 7 + 0 ≤ _), (by decide : 22 + 0 ≤ _)⟩)
      dsimp only [Pt.U, Pt.locs, Pt.cells, Pt.slots] at X219 l219 y219 z219 st219 hQ219
      obtain rfl : k219 = 7 := y219
      obtain rfl : n219 = 22 := z219
      obtain ⟨rfl, N219q, R219⟩ := hQ219
      have N219 : Fr n0 L219 := l219 ▸ Fr.app N210 N219q
      refine ownStep (fun _ k => st219 _ k) ?_
      refine ownStep (fun _ k => XS.astore X219.here hx rfl (hb hby at_157) rfl rfl (l' := #[.val (.int pa), .val (.int pb), .val (.int pc_), .val (.int pe), .val (.int pf), .val (.int (4 : Int32)), .val (.int (1 : Int32)), .val (.int c0), .val (.int kq), .val (.int c2), .val (.int c3), .val (.int kq), .val (.ref sb_197), .val (.ref sb_205), .val (.ref sb_210), .val (.ref sb_197)]) rfl k) ?_
      refine ownStep (fun _ k => XS.aload X219.here hx rfl (hb hby at_159) rfl rfl k) ?_
      refine ownStep (fun _ k => XS.ifnullNo X219.here hx rfl (hb hby at_161) rfl k) ?_
      refine ownStep (fun _ k => XS.aload X219.here hx rfl (hb hby at_164) rfl rfl k) ?_
      show ownGo p.tables e below (T219.setTop (mkF m 166 #[.val (.int pa), .val (.int pb), .val (.int pc_), .val (.int pe), .val (.int pf), .val (.int (4 : Int32)), .val (.int (1 : Int32)), .val (.int c0), .val (.int kq), .val (.int c2), .val (.int c3), .val (.int kq), .val (.ref sb_197), .val (.ref sb_205), .val (.ref sb_210), .val (.ref sb_197)] [(.ref sb_197)])) _
      have Zs222 : n0 ≤ T210.heap.size := Nat.le_trans Z0 KP213.1
      obtain ⟨cq221, kq221, q221a, q221b, q221c⟩ := isOf hZ R219 Q215
      obtain ⟨_, _, ⟨T221, L221, k221, n221⟩, -, X221, ⟨Lc221, hQ221, l221, y221, z221⟩, st221⟩ := X219.virtualBack hx (y := (⟨"java/lang/String", "length", "()I"⟩ : MethodName)) (z := (⟨"java/lang/String", "length", "()I"⟩ : MethodName)) hown (mvT hZ (hw _ (List.mem_of_getElem? (i := 96) rfl))) (mvT hZ (hw _ (List.mem_of_getElem? (i := 87) rfl))) (notFace_of_selects (args := #[]) (mvT hZ (hw _ (List.mem_of_getElem? (i := 89) rfl)))) (mvT hZ (hw _ (List.mem_of_getElem? (i := 89) rfl))) (mvT hZ (hw _ (List.mem_of_getElem? (i := 88) rfl))) (by decide) (backOf (W := 0) (own_len4 l Z a0 hw [] zc sb_197 tb_197 kb_197 c0 kq c2 c3 T210.heap n0 Zs222 Q214 Scs hzc Q215 Q216 Q217 Q218) hZ (hw _ (List.mem_of_getElem? (i := 90) rfl)) (hw _ (List.mem_of_getElem? (i := 6) rfl)) (by decide) (by decide)) q221a q221c (g := (mkF m 166 #[.val (.int pa), .val (.int pb), .val (.int pc_), .val (.int pe), .val (.int pf), .val (.int (4 : Int32)), .val (.int (1 : Int32)), .val (.int c0), .val (.int kq), .val (.int c2), .val (.int c3), .val (.int kq), .val (.ref sb_197), .val (.ref sb_205), .val (.ref sb_210), .val (.ref sb_197)] [(.ref sb_197)])) rfl (by rw [hml]; rfl) (Steps.refl _) (argsL := []) (rest := []) (lenOf own_law_pd3 rfl) rfl (by show 2 * 0 + _ ≤ _; exact Nat.le_of_eq rfl) (hb hby at_166) (fun _ _ => ⟨rfl, R219, (by decide : 7 + 0 ≤ _), (by decide : 22 + 0 ≤ _)⟩)
      dsimp only [Pt.U, Pt.locs, Pt.cells, Pt.slots] at X221 l221 y221 z221 st221 hQ221
      obtain rfl : k221 = 7 := y221
      obtain rfl : n221 = 22 := z221
      obtain ⟨rfl, N221q, R221⟩ := hQ221
      have N221 : Fr n0 L221 := l221 ▸ Fr.app N219 N221q
      refine ownStep (fun _ k => st221.trans k) ?_
      refine ownStep (fun _ k => XS.iload X221.here hx rfl (hb hby at_169) rfl  k) ?_
      refine ownStep (fun _ k => XS.icmpNo X221.here hx rfl (hb hby at_171) rfl (teq (by decide : (4 : Int32) = (4 : Int32))).2 k) ?_
      refine ownStep (fun _ k => XS.aload X221.here hx rfl (hb hby at_174) rfl rfl k) ?_
      refine ownStep (fun _ k => XS.aload X221.here hx rfl (hb hby at_176) rfl rfl k) ?_
      show ownGo p.tables e below (T221.setTop (mkF m 178 #[.val (.int pa), .val (.int pb), .val (.int pc_), .val (.int pe), .val (.int pf), .val (.int (4 : Int32)), .val (.int (1 : Int32)), .val (.int c0), .val (.int kq), .val (.int c2), .val (.int c3), .val (.int kq), .val (.ref sb_197), .val (.ref sb_205), .val (.ref sb_210), .val (.ref sb_197)] [(.ref sb_197), (.ref sb_197)])) _
      have Zs224 : n0 ≤ T210.heap.size := Nat.le_trans Z0 KP213.1
      obtain ⟨cq223, kq223, q223a, q223b, q223c⟩ := isOf hZ R221 Q215
      obtain ⟨_, _, ⟨T223, L223, k223, n223⟩, -, X223, ⟨Lc223, hQ223, l223, y223, z223⟩, st223⟩ := X221.virtualBack hx (y := (⟨"java/lang/String", "equals", "(Ljava/lang/Object;)Z"⟩ : MethodName)) (z := (⟨"java/lang/String", "equals", "(Ljava/lang/Object;)Z"⟩ : MethodName)) hown (mvT hZ (hw _ (List.mem_of_getElem? (i := 97) rfl))) (mvT hZ (hw _ (List.mem_of_getElem? (i := 98) rfl))) (notFace_of_selects (args := #[]) (mvT hZ (hw _ (List.mem_of_getElem? (i := 100) rfl)))) (mvT hZ (hw _ (List.mem_of_getElem? (i := 100) rfl))) (mvT hZ (hw _ (List.mem_of_getElem? (i := 99) rfl))) (by decide) (backOf (W := 0) (own_eq l Z a0 hw [] sb_197 T210.heap n0 Zs224 ) hZ (hw _ (List.mem_of_getElem? (i := 101) rfl)) (hw _ (List.mem_of_getElem? (i := 6) rfl)) (by decide) (by decide)) q223a q223c (g := (mkF m 178 #[.val (.int pa), .val (.int pb), .val (.int pc_), .val (.int pe), .val (.int pf), .val (.int (4 : Int32)), .val (.int (1 : Int32)), .val (.int c0), .val (.int kq), .val (.int c2), .val (.int c3), .val (.int kq), .val (.ref sb_197), .val (.ref sb_205), .val (.ref sb_210), .val (.ref sb_197)] [(.ref sb_197), (.ref sb_197)])) rfl (by rw [hml]; rfl) (Steps.refl _) (argsL := [(.ref sb_197)]) (rest := []) (lenOf own_law_pd4 rfl) rfl (by show 2 * 0 + _ ≤ _; exact Nat.le_of_eq rfl) (hb hby at_178) (fun _ _ => ⟨rfl, R221, (by decide : 7 + 0 ≤ _), (by decide : 22 + 0 ≤ _)⟩)
      dsimp only [Pt.U, Pt.locs, Pt.cells, Pt.slots] at X223 l223 y223 z223 st223 hQ223
      obtain rfl : k223 = 7 := y223
      obtain rfl : n223 = 22 := z223
      obtain ⟨rfl, N223q, R223⟩ := hQ223
      have N223 : Fr n0 L223 := l223 ▸ Fr.app N221 N223q
      refine ownStep (fun _ k => st223.trans k) ?_
      refine ownStep (fun _ k => XS.ifNo X223.here hx rfl (hb hby at_181) rfl ((if0 _ _).trans (feq (by decide : ¬ (1 : Int32) = (0 : Int32))).1) k) ?_
      refine ownStep (fun _ k => XS.iconst X223.here hx rfl (hb hby at_184) k) ?_
      refine ownStep (fun _ k => XS.goto X223.here hx rfl (pc0 := 185) (pc' := 189) rfl (hb hby at_185) (by decide) (by decide) k) ?_
      show ownGo p.tables e below (T223.setTop (mkF m 189 #[.val (.int pa), .val (.int pb), .val (.int pc_), .val (.int pe), .val (.int pf), .val (.int (4 : Int32)), .val (.int (1 : Int32)), .val (.int c0), .val (.int kq), .val (.int c2), .val (.int c3), .val (.int kq), .val (.ref sb_197), .val (.ref sb_205), .val (.ref sb_210), .val (.ref sb_197)] [(.int (1 : Int32))])) _
      exact ownRet X223 (v := some (.int (1 : Int32))) Bd.notSynchronized (fun h => by rw [Bd.returns] at h; cases h) (fun _ hr => retN X223 hx (t := .boolean) Bd.returns (by simp) (hb hby at_189) hr) (by rw [R223]; exact ⟨rfl, N223, (own_extOf KP213)⟩) (by decide) (by decide)
    · skip
      rw [hk]
      refine ownStep (fun _ k => XS.istore X0.here hx rfl (hb hby at_13) rfl (l' := #[.val (.int pa), .val (.int pb), .val (.int pc_), .val (.int pe), .val (.int pf), .val (.int (4 : Int32)), .val (.int (2 : Int32)), .unset, .unset, .unset, .unset, .unset, .unset, .unset, .unset, .unset]) rfl k) ?_
      refine ownStep (fun _ k => XS.iloadN X0.here hx rfl (hb hby at_15) rfl  k) ?_
      refine ownStep (fun _ k => XS.sipush X0.here hx rfl (hb hby at_16) k) ?_
      refine ownStep (fun _ k => XS.iand X0.here hx rfl (hb hby at_19) rfl k) ?_
      show ownGo p.tables e below (s₁.setTop (mkF m 20 #[.val (.int pa), .val (.int pb), .val (.int pc_), .val (.int pe), .val (.int pf), .val (.int (4 : Int32)), .val (.int (2 : Int32)), .unset, .unset, .unset, .unset, .unset, .unset, .unset, .unset, .unset] [(.int (pa &&& (255 : Int32)))])) _
      refine ownStep (fun _ k => XS.i2c X0.here hx rfl (hb hby at_20) rfl k) ?_
      show ownGo p.tables e below (s₁.setTop (mkF m 21 #[.val (.int pa), .val (.int pb), .val (.int pc_), .val (.int pe), .val (.int pf), .val (.int (4 : Int32)), .val (.int (2 : Int32)), .unset, .unset, .unset, .unset, .unset, .unset, .unset, .unset, .unset] [(.int ((pa &&& (255 : Int32)).toUInt32.toUInt16.toUInt32.toInt32))])) _
      obtain ⟨c0, h_c0, l_c0, u_c0⟩ : ∃ z, ((pa &&& (255 : Int32)).toUInt32.toUInt16.toUInt32.toInt32) = z ∧ ¬ z < (0 : Int32) ∧ ¬ (255 : Int32) < z := own_char _
      rw [h_c0]
      refine ownStep (fun _ k => XS.istore X0.here hx rfl (hb hby at_21) rfl (l' := #[.val (.int pa), .val (.int pb), .val (.int pc_), .val (.int pe), .val (.int pf), .val (.int (4 : Int32)), .val (.int (2 : Int32)), .val (.int c0), .unset, .unset, .unset, .unset, .unset, .unset, .unset, .unset]) rfl k) ?_
      refine ownStep (fun _ k => XS.iloadN X0.here hx rfl (hb hby at_23) rfl  k) ?_
      refine ownStep (fun _ k => XS.bipush X0.here hx rfl (hb hby at_24) k) ?_
      refine ownStep (fun _ k => XS.iushr X0.here hx rfl (hb hby at_26) rfl k) ?_
      show ownGo p.tables e below (s₁.setTop (mkF m 27 #[.val (.int pa), .val (.int pb), .val (.int pc_), .val (.int pe), .val (.int pf), .val (.int (4 : Int32)), .val (.int (2 : Int32)), .val (.int c0), .unset, .unset, .unset, .unset, .unset, .unset, .unset, .unset] [(.int ((pa.toUInt32 >>> ((8 : Int32) &&& 31).toUInt32).toInt32))])) _
      refine ownStep (fun _ k => XS.sipush X0.here hx rfl (hb hby at_27) k) ?_
      refine ownStep (fun _ k => XS.iand X0.here hx rfl (hb hby at_30) rfl k) ?_
      refine ownStep (fun _ k => XS.i2c X0.here hx rfl (hb hby at_31) rfl k) ?_
      show ownGo p.tables e below (s₁.setTop (mkF m 32 #[.val (.int pa), .val (.int pb), .val (.int pc_), .val (.int pe), .val (.int pf), .val (.int (4 : Int32)), .val (.int (2 : Int32)), .val (.int c0), .unset, .unset, .unset, .unset, .unset, .unset, .unset, .unset] [(.int ((((pa.toUInt32 >>> ((8 : Int32) &&& 31).toUInt32).toInt32) &&& (255 : Int32)).toUInt32.toUInt16.toUInt32.toInt32))])) _
      obtain ⟨c1, h_c1, l_c1, u_c1⟩ : ∃ z, ((((pa.toUInt32 >>> ((8 : Int32) &&& 31).toUInt32).toInt32) &&& (255 : Int32)).toUInt32.toUInt16.toUInt32.toInt32) = z ∧ ¬ z < (0 : Int32) ∧ ¬ (255 : Int32) < z := own_char _
      rw [h_c1]
      refine ownStep (fun _ k => XS.istore X0.here hx rfl (hb hby at_32) rfl (l' := #[.val (.int pa), .val (.int pb), .val (.int pc_), .val (.int pe), .val (.int pf), .val (.int (4 : Int32)), .val (.int (2 : Int32)), .val (.int c0), .val (.int c1), .unset, .unset, .unset, .unset, .unset, .unset, .unset]) rfl k) ?_
      refine ownStep (fun _ k => XS.iloadN X0.here hx rfl (hb hby at_34) rfl  k) ?_
      refine ownStep (fun _ k => XS.bipush X0.here hx rfl (hb hby at_35) k) ?_
      refine ownStep (fun _ k => XS.iushr X0.here hx rfl (hb hby at_37) rfl k) ?_
      show ownGo p.tables e below (s₁.setTop (mkF m 38 #[.val (.int pa), .val (.int pb), .val (.int pc_), .val (.int pe), .val (.int pf), .val (.int (4 : Int32)), .val (.int (2 : Int32)), .val (.int c0), .val (.int c1), .unset, .unset, .unset, .unset, .unset, .unset, .unset] [(.int ((pa.toUInt32 >>> ((16 : Int32) &&& 31).toUInt32).toInt32))])) _
      refine ownStep (fun _ k => XS.sipush X0.here hx rfl (hb hby at_38) k) ?_
      refine ownStep (fun _ k => XS.iand X0.here hx rfl (hb hby at_41) rfl k) ?_
      refine ownStep (fun _ k => XS.i2c X0.here hx rfl (hb hby at_42) rfl k) ?_
      show ownGo p.tables e below (s₁.setTop (mkF m 43 #[.val (.int pa), .val (.int pb), .val (.int pc_), .val (.int pe), .val (.int pf), .val (.int (4 : Int32)), .val (.int (2 : Int32)), .val (.int c0), .val (.int c1), .unset, .unset, .unset, .unset, .unset, .unset, .unset] [(.int ((((pa.toUInt32 >>> ((16 : Int32) &&& 31).toUInt32).toInt32) &&& (255 : Int32)).toUInt32.toUInt16.toUInt32.toInt32))])) _
      obtain ⟨c2, h_c2, l_c2, u_c2⟩ : ∃ z, ((((pa.toUInt32 >>> ((16 : Int32) &&& 31).toUInt32).toInt32) &&& (255 : Int32)).toUInt32.toUInt16.toUInt32.toInt32) = z ∧ ¬ z < (0 : Int32) ∧ ¬ (255 : Int32) < z := own_char _
      rw [h_c2]
      refine ownStep (fun _ k => XS.istore X0.here hx rfl (hb hby at_43) rfl (l' := #[.val (.int pa), .val (.int pb), .val (.int pc_), .val (.int pe), .val (.int pf), .val (.int (4 : Int32)), .val (.int (2 : Int32)), .val (.int c0), .val (.int c1), .val (.int c2), .unset, .unset, .unset, .unset, .unset, .unset]) rfl k) ?_
      refine ownStep (fun _ k => XS.iloadN X0.here hx rfl (hb hby at_45) rfl  k) ?_
      refine ownStep (fun _ k => XS.bipush X0.here hx rfl (hb hby at_46) k) ?_
      refine ownStep (fun _ k => XS.iushr X0.here hx rfl (hb hby at_48) rfl k) ?_
      show ownGo p.tables e below (s₁.setTop (mkF m 49 #[.val (.int pa), .val (.int pb), .val (.int pc_), .val (.int pe), .val (.int pf), .val (.int (4 : Int32)), .val (.int (2 : Int32)), .val (.int c0), .val (.int c1), .val (.int c2), .unset, .unset, .unset, .unset, .unset, .unset] [(.int ((pa.toUInt32 >>> ((24 : Int32) &&& 31).toUInt32).toInt32))])) _
      refine ownStep (fun _ k => XS.sipush X0.here hx rfl (hb hby at_49) k) ?_
      refine ownStep (fun _ k => XS.iand X0.here hx rfl (hb hby at_52) rfl k) ?_
      refine ownStep (fun _ k => XS.i2c X0.here hx rfl (hb hby at_53) rfl k) ?_
      show ownGo p.tables e below (s₁.setTop (mkF m 54 #[.val (.int pa), .val (.int pb), .val (.int pc_), .val (.int pe), .val (.int pf), .val (.int (4 : Int32)), .val (.int (2 : Int32)), .val (.int c0), .val (.int c1), .val (.int c2), .unset, .unset, .unset, .unset, .unset, .unset] [(.int ((((pa.toUInt32 >>> ((24 : Int32) &&& 31).toUInt32).toInt32) &&& (255 : Int32)).toUInt32.toUInt16.toUInt32.toInt32))])) _
      obtain ⟨c3, h_c3, l_c3, u_c3⟩ : ∃ z, ((((pa.toUInt32 >>> ((24 : Int32) &&& 31).toUInt32).toInt32) &&& (255 : Int32)).toUInt32.toUInt16.toUInt32.toInt32) = z ∧ ¬ z < (0 : Int32) ∧ ¬ (255 : Int32) < z := own_char _
      rw [h_c3]
      refine ownStep (fun _ k => XS.istore X0.here hx rfl (hb hby at_54) rfl (l' := #[.val (.int pa), .val (.int pb), .val (.int pc_), .val (.int pe), .val (.int pf), .val (.int (4 : Int32)), .val (.int (2 : Int32)), .val (.int c0), .val (.int c1), .val (.int c2), .val (.int c3), .unset, .unset, .unset, .unset, .unset]) rfl k) ?_
      refine ownStep (fun _ k => XS.bipush X0.here hx rfl (hb hby at_56) k) ?_
      refine ownStep (fun _ k => XS.iload X0.here hx rfl (hb hby at_58) rfl  k) ?_
      refine ownStep (fun _ k => XS.iconst X0.here hx rfl (hb hby at_60) k) ?_
      show ownGo p.tables e below (s₁.setTop (mkF m 61 #[.val (.int pa), .val (.int pb), .val (.int pc_), .val (.int pe), .val (.int pf), .val (.int (4 : Int32)), .val (.int (2 : Int32)), .val (.int c0), .val (.int c1), .val (.int c2), .val (.int c3), .unset, .unset, .unset, .unset, .unset] [(.int (1 : Int32)), (.int pf), (.int (33 : Int32))])) _
      refine ownStep (fun _ k => XS.iushr X0.here hx rfl (hb hby at_61) rfl k) ?_
      refine ownStep (fun _ k => XS.bipush X0.here hx rfl (hb hby at_62) k) ?_
      show ownGo p.tables e below (s₁.setTop (mkF m 64 #[.val (.int pa), .val (.int pb), .val (.int pc_), .val (.int pe), .val (.int pf), .val (.int (4 : Int32)), .val (.int (2 : Int32)), .val (.int c0), .val (.int c1), .val (.int c2), .val (.int c3), .unset, .unset, .unset, .unset, .unset] [(.int (94 : Int32)), (.int ((pf.toUInt32 >>> ((1 : Int32) &&& 31).toUInt32).toInt32)), (.int (33 : Int32))])) _
      refine ownStep (fun _ k => iremM X0 hx rfl (hb hby at_64) rfl (by decide) k) ?_
      refine ownStep (fun _ k => XS.iadd X0.here hx rfl (hb hby at_65) rfl k) ?_
      refine ownStep (fun _ k => XS.i2c X0.here hx rfl (hb hby at_66) rfl k) ?_
      show ownGo p.tables e below (s₁.setTop (mkF m 67 #[.val (.int pa), .val (.int pb), .val (.int pc_), .val (.int pe), .val (.int pf), .val (.int (4 : Int32)), .val (.int (2 : Int32)), .val (.int c0), .val (.int c1), .val (.int c2), .val (.int c3), .unset, .unset, .unset, .unset, .unset] [(.int (((33 : Int32) + (((pf.toUInt32 >>> ((1 : Int32) &&& 31).toUInt32).toInt32) % (94 : Int32))).toUInt32.toUInt16.toUInt32.toInt32))])) _
      obtain ⟨kq, h_kq, l_kq, u_kq, kp_kq⟩ : ∃ z, (((33 : Int32) + (((pf.toUInt32 >>> ((1 : Int32) &&& 31).toUInt32).toInt32) % (94 : Int32))).toUInt32.toUInt16.toUInt32.toInt32) = z ∧ ¬ z < (0 : Int32) ∧ ¬ (255 : Int32) < z ∧ own_keep z := own_keepv pf
      rw [h_kq]
      refine ownStep (fun _ k => XS.istore X0.here hx rfl (hb hby at_67) rfl (l' := #[.val (.int pa), .val (.int pb), .val (.int pc_), .val (.int pe), .val (.int pf), .val (.int (4 : Int32)), .val (.int (2 : Int32)), .val (.int c0), .val (.int c1), .val (.int c2), .val (.int c3), .val (.int kq), .unset, .unset, .unset, .unset]) rfl k) ?_
      refine ownStep (fun _ k => XS.iload X0.here hx rfl (hb hby at_69) rfl  k) ?_
      refine ownStep (fun _ k => XS.ifYes X0.here hx rfl (pc0 := 71) (pc' := 81) rfl (hb hby at_71) rfl ((if0 _ _).trans (feq (by decide : ¬ (2 : Int32) = (0 : Int32))).2) (by decide) (by decide) k) ?_
      refine ownStep (fun _ k => XS.iload X0.here hx rfl (hb hby at_81) rfl  k) ?_
      show ownGo p.tables e below (s₁.setTop (mkF m 83 #[.val (.int pa), .val (.int pb), .val (.int pc_), .val (.int pe), .val (.int pf), .val (.int (4 : Int32)), .val (.int (2 : Int32)), .val (.int c0), .val (.int c1), .val (.int c2), .val (.int c3), .val (.int kq), .unset, .unset, .unset, .unset] [(.int (2 : Int32))])) _
      refine ownStep (fun _ k => XS.iconst X0.here hx rfl (hb hby at_83) k) ?_
      refine ownStep (fun _ k => XS.icmpYes X0.here hx rfl (pc0 := 84) (pc' := 94) rfl (hb hby at_84) rfl (feq (by decide : ¬ (2 : Int32) = (1 : Int32))).2 (by decide) (by decide) k) ?_
      refine ownStep (fun _ k => XS.iload X0.here hx rfl (hb hby at_94) rfl  k) ?_
      refine ownStep (fun _ k => XS.iconst X0.here hx rfl (hb hby at_96) k) ?_
      refine ownStep (fun _ k => XS.icmpNo X0.here hx rfl (hb hby at_97) rfl (teq (by decide : (2 : Int32) = (2 : Int32))).2 k) ?_
      show ownGo p.tables e below (s₁.setTop (mkF m 100 #[.val (.int pa), .val (.int pb), .val (.int pc_), .val (.int pe), .val (.int pf), .val (.int (4 : Int32)), .val (.int (2 : Int32)), .val (.int c0), .val (.int c1), .val (.int c2), .val (.int c3), .val (.int kq), .unset, .unset, .unset, .unset] [])) _
      refine ownStep (fun _ k => XS.iload X0.here hx rfl (hb hby at_100) rfl  k) ?_
      refine ownStep (fun _ k => XS.istore X0.here hx rfl (hb hby at_102) rfl (l' := #[.val (.int pa), .val (.int pb), .val (.int pc_), .val (.int pe), .val (.int pf), .val (.int (4 : Int32)), .val (.int (2 : Int32)), .val (.int c0), .val (.int c1), .val (.int kq), .val (.int c3), .val (.int kq), .unset, .unset, .unset, .unset]) rfl k) ?_
      refine ownStep (fun _ k => XS.goto X0.here hx rfl (pc0 := 104) (pc' := 111) rfl (hb hby at_104) (by decide) (by decide) k) ?_
      refine ownStep (fun _ k => XS.iload X0.here hx rfl (hb hby at_111) rfl  k) ?_
      refine ownStep (fun _ k => XS.iload X0.here hx rfl (hb hby at_113) rfl  k) ?_
      show ownGo p.tables e below (s₁.setTop (mkF m 115 #[.val (.int pa), .val (.int pb), .val (.int pc_), .val (.int pe), .val (.int pf), .val (.int (4 : Int32)), .val (.int (2 : Int32)), .val (.int c0), .val (.int c1), .val (.int kq), .val (.int c3), .val (.int kq), .unset, .unset, .unset, .unset] [(.int c0), (.int (4 : Int32))])) _
      refine ownStep (fun _ k => XS.iload X0.here hx rfl (hb hby at_115) rfl  k) ?_
      refine ownStep (fun _ k => XS.iload X0.here hx rfl (hb hby at_117) rfl  k) ?_
      refine ownStep (fun _ k => XS.iload X0.here hx rfl (hb hby at_119) rfl  k) ?_
      show ownGo p.tables e below (s₁.setTop (mkF m 121 #[.val (.int pa), .val (.int pb), .val (.int pc_), .val (.int pe), .val (.int pf), .val (.int (4 : Int32)), .val (.int (2 : Int32)), .val (.int c0), .val (.int c1), .val (.int kq), .val (.int c3), .val (.int kq), .unset, .unset, .unset, .unset] [(.int c3), (.int kq), (.int c1), (.int c0), (.int (4 : Int32))])) _
      have Zs226 : n0 ≤ h0.size := Nat.le_trans Z0 KP0.1
      obtain ⟨_, _, ⟨T225, L225, k225, n225⟩, -, X225, ⟨Lc225, hQ225, l225, y225, z225⟩, st225⟩ := Jvm.LawKit.callS X0 hx (y := (⟨"com/example/circuline/circuline/circulation/BarcodesRequiredPinLaw", "make", "(ICCCC)Ljava/lang/String;"⟩ : MethodName)) hown (mvT hZ (hw _ (List.mem_of_getElem? (i := 0) rfl))) (mvT hZ (hw _ (List.mem_of_getElem? (i := 1) rfl))) (mvT hZ (hw _ (List.mem_of_getElem? (i := 2) rfl))) (mvT hZ (hw _ (List.mem_of_getElem? (i := 3) rfl))) (by decide) (backOf (W := 0) (own_mk4 l Z a0 hw [] zc c0 c1 kq c3 h0 n0 Zs226 hOld Scs hzc l_c0 u_c0 l_c1 u_c1 l_kq u_kq l_c3 u_c3) hZ (hw _ (List.mem_of_getElem? (i := 3) rfl)) (hw _ (List.mem_of_getElem? (i := 2) rfl)) (by decide) (by decide)) (g := (mkF m 121 #[.val (.int pa), .val (.int pb), .val (.int pc_), .val (.int pe), .val (.int pf), .val (.int (4 : Int32)), .val (.int (2 : Int32)), .val (.int c0), .val (.int c1), .val (.int kq), .val (.int c3), .val (.int kq), .unset, .unset, .unset, .unset] [(.int c3), (.int kq), (.int c1), (.int c0), (.int (4 : Int32))])) rfl (by rw [hml]; rfl) (argsL := [(.int (4 : Int32)), (.int c0), (.int c1), (.int kq), (.int c3)]) (rest := []) (lenOf own_law_pd0 rfl) rfl (by show 2 * 0 + _ ≤ _; exact Nat.le_of_eq rfl) (hb hby at_121) (fun _ _ => ⟨rfl, e0, (by decide : 0 + 3 ≤ _), (by decide : 0 + 12 ≤ _)⟩)
      dsimp only [Pt.U, Pt.locs, Pt.cells, Pt.slots] at X225 l225 y225 z225 st225 hQ225
      obtain rfl : k225 = 3 := y225
      obtain rfl : n225 = 12 := z225
      obtain ⟨sb_225, tb_225, kb_225, rfl, N225q, R225, P227, P228, P229, P230⟩ := hQ225
      have N225 : Fr n0 L225 := l225 ▸ Fr.app N0 N225q
      refine ownStep (fun _ k => st225 _ k) ?_
      have KP231 : Keep h0 T225.heap [] := KP0.ext R225
      refine ownStep (fun _ k => XS.astore X225.here hx rfl (hb hby at_124) rfl rfl (l' := #[.val (.int pa), .val (.int pb), .val (.int pc_), .val (.int pe), .val (.int pf), .val (.int (4 : Int32)), .val (.int (2 : Int32)), .val (.int c0), .val (.int c1), .val (.int kq), .val (.int c3), .val (.int kq), .val (.ref sb_225), .unset, .unset, .unset]) rfl k) ?_
      refine ownStep (fun _ k => XS.iloadN X225.here hx rfl (hb hby at_126) rfl  k) ?_
      refine ownStep (fun _ k => XS.sipush X225.here hx rfl (hb hby at_127) k) ?_
      refine ownStep (fun _ k => XS.iand X225.here hx rfl (hb hby at_130) rfl k) ?_
      show ownGo p.tables e below (T225.setTop (mkF m 131 #[.val (.int pa), .val (.int pb), .val (.int pc_), .val (.int pe), .val (.int pf), .val (.int (4 : Int32)), .val (.int (2 : Int32)), .val (.int c0), .val (.int c1), .val (.int kq), .val (.int c3), .val (.int kq), .val (.ref sb_225), .unset, .unset, .unset] [(.int (pb &&& (255 : Int32)))])) _
      refine ownStep (fun _ k => XS.i2c X225.here hx rfl (hb hby at_131) rfl k) ?_
      show ownGo p.tables e below (T225.setTop (mkF m 132 #[.val (.int pa), .val (.int pb), .val (.int pc_), .val (.int pe), .val (.int pf), .val (.int (4 : Int32)), .val (.int (2 : Int32)), .val (.int c0), .val (.int c1), .val (.int kq), .val (.int c3), .val (.int kq), .val (.ref sb_225), .unset, .unset, .unset] [(.int ((pb &&& (255 : Int32)).toUInt32.toUInt16.toUInt32.toInt32))])) _
      obtain ⟨f0, h_f0, l_f0, u_f0⟩ : ∃ z, ((pb &&& (255 : Int32)).toUInt32.toUInt16.toUInt32.toInt32) = z ∧ ¬ z < (0 : Int32) ∧ ¬ (255 : Int32) < z := own_char _
      rw [h_f0]
      show ownGo p.tables e below (T225.setTop (mkF m 132 #[.val (.int pa), .val (.int pb), .val (.int pc_), .val (.int pe), .val (.int pf), .val (.int (4 : Int32)), .val (.int (2 : Int32)), .val (.int c0), .val (.int c1), .val (.int kq), .val (.int c3), .val (.int kq), .val (.ref sb_225), .unset, .unset, .unset] [(.int f0)])) _
      have Q232 : Old Z n0 T225.heap := (hOld.ext R225)
      have Zs234 : n0 ≤ T225.heap.size := Nat.le_trans Z0 KP231.1
      obtain ⟨_, _, ⟨T233, L233, k233, n233⟩, -, X233, ⟨Lc233, hQ233, l233, y233, z233⟩, st233⟩ := Jvm.LawKit.callS X225 hx (y := (⟨"java/lang/String", "valueOf", "(C)Ljava/lang/String;"⟩ : MethodName)) hown (mvT hZ (hw _ (List.mem_of_getElem? (i := 34) rfl))) (mvT hZ (hw _ (List.mem_of_getElem? (i := 35) rfl))) (mvT hZ (hw _ (List.mem_of_getElem? (i := 6) rfl))) (mvT hZ (hw _ (List.mem_of_getElem? (i := 36) rfl))) (by decide) (backOf (W := 0) (own_vo l Z a0 hw [] zc f0 T225.heap n0 Zs234 Q232 Scs hzc l_f0 u_f0) hZ (hw _ (List.mem_of_getElem? (i := 36) rfl)) (hw _ (List.mem_of_getElem? (i := 6) rfl)) (by decide) (by decide)) (g := (mkF m 132 #[.val (.int pa), .val (.int pb), .val (.int pc_), .val (.int pe), .val (.int pf), .val (.int (4 : Int32)), .val (.int (2 : Int32)), .val (.int c0), .val (.int c1), .val (.int kq), .val (.int c3), .val (.int kq), .val (.ref sb_225), .unset, .unset, .unset] [(.int f0)])) rfl (by rw [hml]; rfl) (argsL := [(.int f0)]) (rest := []) (lenOf own_law_pd1 rfl) rfl (by show 2 * 0 + _ ≤ _; exact Nat.le_of_eq rfl) (hb hby at_132) (fun _ _ => ⟨rfl, rfl, (by decide : 3 + 2 ≤ _), (by decide : 12 + 5 ≤ _)⟩)
      dsimp only [Pt.U, Pt.locs, Pt.cells, Pt.slots] at X233 l233 y233 z233 st233 hQ233
      obtain rfl : k233 = 5 := y233
      obtain rfl : n233 = 17 := z233
      obtain ⟨sb_233, rfl, N233q, R233, P235⟩ := hQ233
      have N233 : Fr n0 L233 := l233 ▸ Fr.app N225 N233q
      refine ownStep (fun _ k => st233 _ k) ?_
      have KP236 : Keep h0 T233.heap [] := KP231.ext R233
      refine ownStep (fun _ k => XS.astore X233.here hx rfl (hb hby at_135) rfl rfl (l' := #[.val (.int pa), .val (.int pb), .val (.int pc_), .val (.int pe), .val (.int pf), .val (.int (4 : Int32)), .val (.int (2 : Int32)), .val (.int c0), .val (.int c1), .val (.int kq), .val (.int c3), .val (.int kq), .val (.ref sb_225), .val (.ref sb_233), .unset, .unset]) rfl k) ?_
      refine ownStep (fun _ k => XS.iloadN X233.here hx rfl (hb hby at_137) rfl  k) ?_
      refine ownStep (fun _ k => XS.sipush X233.here hx rfl (hb hby at_138) k) ?_
      refine ownStep (fun _ k => XS.iand X233.here hx rfl (hb hby at_141) rfl k) ?_
      show ownGo p.tables e below (T233.setTop (mkF m 142 #[.val (.int pa), .val (.int pb), .val (.int pc_), .val (.int pe), .val (.int pf), .val (.int (4 : Int32)), .val (.int (2 : Int32)), .val (.int c0), .val (.int c1), .val (.int kq), .val (.int c3), .val (.int kq), .val (.ref sb_225), .val (.ref sb_233), .unset, .unset] [(.int (pc_ &&& (255 : Int32)))])) _
      refine ownStep (fun _ k => XS.i2c X233.here hx rfl (hb hby at_142) rfl k) ?_
      show ownGo p.tables e below (T233.setTop (mkF m 143 #[.val (.int pa), .val (.int pb), .val (.int pc_), .val (.int pe), .val (.int pf), .val (.int (4 : Int32)), .val (.int (2 : Int32)), .val (.int c0), .val (.int c1), .val (.int kq), .val (.int c3), .val (.int kq), .val (.ref sb_225), .val (.ref sb_233), .unset, .unset] [(.int ((pc_ &&& (255 : Int32)).toUInt32.toUInt16.toUInt32.toInt32))])) _
      obtain ⟨f1, h_f1, l_f1, u_f1⟩ : ∃ z, ((pc_ &&& (255 : Int32)).toUInt32.toUInt16.toUInt32.toInt32) = z ∧ ¬ z < (0 : Int32) ∧ ¬ (255 : Int32) < z := own_char _
      rw [h_f1]
      show ownGo p.tables e below (T233.setTop (mkF m 143 #[.val (.int pa), .val (.int pb), .val (.int pc_), .val (.int pe), .val (.int pf), .val (.int (4 : Int32)), .val (.int (2 : Int32)), .val (.int c0), .val (.int c1), .val (.int kq), .val (.int c3), .val (.int kq), .val (.ref sb_225), .val (.ref sb_233), .unset, .unset] [(.int f1)])) _
      have Q237 : Old Z n0 T233.heap := (Q232.ext R233)
      have Zs239 : n0 ≤ T233.heap.size := Nat.le_trans Z0 KP236.1
      obtain ⟨_, _, ⟨T238, L238, k238, n238⟩, -, X238, ⟨Lc238, hQ238, l238, y238, z238⟩, st238⟩ := Jvm.LawKit.callS X233 hx (y := (⟨"java/lang/String", "valueOf", "(C)Ljava/lang/String;"⟩ : MethodName)) hown (mvT hZ (hw _ (List.mem_of_getElem? (i := 34) rfl))) (mvT hZ (hw _ (List.mem_of_getElem? (i := 35) rfl))) (mvT hZ (hw _ (List.mem_of_getElem? (i := 6) rfl))) (mvT hZ (hw _ (List.mem_of_getElem? (i := 36) rfl))) (by decide) (backOf (W := 0) (own_vo l Z a0 hw [] zc f1 T233.heap n0 Zs239 Q237 Scs hzc l_f1 u_f1) hZ (hw _ (List.mem_of_getElem? (i := 36) rfl)) (hw _ (List.mem_of_getElem? (i := 6) rfl)) (by decide) (by decide)) (g := (mkF m 143 #[.val (.int pa), .val (.int pb), .val (.int pc_), .val (.int pe), .val (.int pf), .val (.int (4 : Int32)), .val (.int (2 : Int32)), .val (.int c0), .val (.int c1), .val (.int kq), .val (.int c3), .val (.int kq), .val (.ref sb_225), .val (.ref sb_233), .unset, .unset] [(.int f1)])) rfl (by rw [hml]; rfl) (argsL := [(.int f1)]) (rest := []) (lenOf own_law_pd1 rfl) rfl (by show 2 * 0 + _ ≤ _; exact Nat.le_of_eq rfl) (hb hby at_143) (fun _ _ => ⟨rfl, rfl, (by decide : 5 + 2 ≤ _), (by decide : 17 + 5 ≤ _)⟩)
      dsimp only [Pt.U, Pt.locs, Pt.cells, Pt.slots] at X238 l238 y238 z238 st238 hQ238
      obtain rfl : k238 = 7 := y238
      obtain rfl : n238 = 22 := z238
      obtain ⟨sb_238, rfl, N238q, R238, P240⟩ := hQ238
      have N238 : Fr n0 L238 := l238 ▸ Fr.app N233 N238q
      refine ownStep (fun _ k => st238 _ k) ?_
      have KP241 : Keep h0 T238.heap [] := KP236.ext R238
      refine ownStep (fun _ k => XS.astore X238.here hx rfl (hb hby at_146) rfl rfl (l' := #[.val (.int pa), .val (.int pb), .val (.int pc_), .val (.int pe), .val (.int pf), .val (.int (4 : Int32)), .val (.int (2 : Int32)), .val (.int c0), .val (.int c1), .val (.int kq), .val (.int c3), .val (.int kq), .val (.ref sb_225), .val (.ref sb_233), .val (.ref sb_238), .unset]) rfl k) ?_
      refine ownStep (fun _ k => XS.aload X238.here hx rfl (hb hby at_148) rfl rfl k) ?_
      refine ownStep (fun _ k => XS.aload X238.here hx rfl (hb hby at_150) rfl rfl k) ?_
      refine ownStep (fun _ k => XS.aload X238.here hx rfl (hb hby at_152) rfl rfl k) ?_
      show ownGo p.tables e below (T238.setTop (mkF m 154 #[.val (.int pa), .val (.int pb), .val (.int pc_), .val (.int pe), .val (.int pf), .val (.int (4 : Int32)), .val (.int (2 : Int32)), .val (.int c0), .val (.int c1), .val (.int kq), .val (.int c3), .val (.int kq), .val (.ref sb_225), .val (.ref sb_233), .val (.ref sb_238), .unset] [(.ref sb_238), (.ref sb_233), (.ref sb_225)])) _
      have Q242 : Old Z n0 T238.heap := (Q237.ext R238)
      have Q243 : Exa Z T238.heap sb_225 "java/lang/String" := ((P227.ext R233).ext R238)
      have Q244 : Fld Z T238.heap sb_225 "java/lang/String" "coder" "B" (.int (0 : Int32)) := ((P228.ext R233).ext R238)
      have Q245 : Fld Z T238.heap sb_225 "java/lang/String" "value" "[B" (.ref tb_225) := ((P229.ext R233).ext R238)
      have Q246 : Arv Z T238.heap tb_225 kb_225 .byte (4 : Int32) [(.int c0.toInt8.toInt32), (.int c1.toInt8.toInt32), (.int kq.toInt8.toInt32), (.int c3.toInt8.toInt32)] (.int (0 : Int32)) := ((P230.ext R233).ext R238)
      have Zs248 : n0 ≤ T238.heap.size := Nat.le_trans Z0 KP241.1
      obtain ⟨_, _, ⟨T247, L247, k247, n247⟩, -, X247, ⟨Lc247, hQ247, l247, y247, z247⟩, st247⟩ := Jvm.LawKit.callS X238 hx (y := (⟨"com/example/circuline/circuline/circulation/Barcodes", "required", "(Ljava/lang/String;Ljava/lang/String;Ljava/lang/String;)Ljava/lang/String;"⟩ : MethodName)) hown (mvT hZ (hw _ (List.mem_of_getElem? (i := 48) rfl))) (mvT hZ (hw _ (List.mem_of_getElem? (i := 49) rfl))) (mvT hZ (hw _ (List.mem_of_getElem? (i := 50) rfl))) (mvT hZ (hw _ (List.mem_of_getElem? (i := 51) rfl))) (by decide) (backOf (W := 0) (own_req4 l Z a0 hw [] zc ci ta clt sb_225 tb_225 kb_225 c0 c1 kq c3 sb_233 sb_238 T238.heap n0 Zs248 Q242 Scs hzc Sci Eci Sca Tab Q243 Q244 Q245 Q246 l_c0 u_c0 l_c1 u_c1 l_kq u_kq l_c3 u_c3 (Or.inr (Or.inr (Or.inl kp_kq)))) hZ (hw _ (List.mem_of_getElem? (i := 51) rfl)) (hw _ (List.mem_of_getElem? (i := 50) rfl)) (by decide) (by decide)) (g := (mkF m 154 #[.val (.int pa), .val (.int pb), .val (.int pc_), .val (.int pe), .val (.int pf), .val (.int (4 : Int32)), .val (.int (2 : Int32)), .val (.int c0), .val (.int c1), .val (.int kq), .val (.int c3), .val (.int kq), .val (.ref sb_225), .val (.ref sb_233), .val (.ref sb_238), .unset] [(.ref sb_238), (.ref sb_233), (.ref sb_225)])) rfl (by rw [hml]; rfl) (argsL := [(.ref sb_225), (.ref sb_233), (.ref sb_238)]) (rest := []) (lenOf own_law_pd2 rfl) rfl (by show 2 * 0 + _ ≤ _; exact Nat.le_of_eq rfl) (hb hby at_154) (fun _ _ => ⟨rfl, rfl, (by decide : 7 + 0 ≤ _), (by decide : 22 + 0 ≤ _)⟩)
      dsimp only [Pt.U, Pt.locs, Pt.cells, Pt.slots] at X247 l247 y247 z247 st247 hQ247
      obtain rfl : k247 = 7 := y247
      obtain rfl : n247 = 22 := z247
      obtain ⟨rfl, N247q, R247⟩ := hQ247
      have N247 : Fr n0 L247 := l247 ▸ Fr.app N238 N247q
      refine ownStep (fun _ k => st247 _ k) ?_
      refine ownStep (fun _ k => XS.astore X247.here hx rfl (hb hby at_157) rfl rfl (l' := #[.val (.int pa), .val (.int pb), .val (.int pc_), .val (.int pe), .val (.int pf), .val (.int (4 : Int32)), .val (.int (2 : Int32)), .val (.int c0), .val (.int c1), .val (.int kq), .val (.int c3), .val (.int kq), .val (.ref sb_225), .val (.ref sb_233), .val (.ref sb_238), .val (.ref sb_225)]) rfl k) ?_
      refine ownStep (fun _ k => XS.aload X247.here hx rfl (hb hby at_159) rfl rfl k) ?_
      refine ownStep (fun _ k => XS.ifnullNo X247.here hx rfl (hb hby at_161) rfl k) ?_
      refine ownStep (fun _ k => XS.aload X247.here hx rfl (hb hby at_164) rfl rfl k) ?_
      show ownGo p.tables e below (T247.setTop (mkF m 166 #[.val (.int pa), .val (.int pb), .val (.int pc_), .val (.int pe), .val (.int pf), .val (.int (4 : Int32)), .val (.int (2 : Int32)), .val (.int c0), .val (.int c1), .val (.int kq), .val (.int c3), .val (.int kq), .val (.ref sb_225), .val (.ref sb_233), .val (.ref sb_238), .val (.ref sb_225)] [(.ref sb_225)])) _
      have Zs250 : n0 ≤ T238.heap.size := Nat.le_trans Z0 KP241.1
      obtain ⟨cq249, kq249, q249a, q249b, q249c⟩ := isOf hZ R247 Q243
      obtain ⟨_, _, ⟨T249, L249, k249, n249⟩, -, X249, ⟨Lc249, hQ249, l249, y249, z249⟩, st249⟩ := X247.virtualBack hx (y := (⟨"java/lang/String", "length", "()I"⟩ : MethodName)) (z := (⟨"java/lang/String", "length", "()I"⟩ : MethodName)) hown (mvT hZ (hw _ (List.mem_of_getElem? (i := 96) rfl))) (mvT hZ (hw _ (List.mem_of_getElem? (i := 87) rfl))) (notFace_of_selects (args := #[]) (mvT hZ (hw _ (List.mem_of_getElem? (i := 89) rfl)))) (mvT hZ (hw _ (List.mem_of_getElem? (i := 89) rfl))) (mvT hZ (hw _ (List.mem_of_getElem? (i := 88) rfl))) (by decide) (backOf (W := 0) (own_len4 l Z a0 hw [] zc sb_225 tb_225 kb_225 c0 c1 kq c3 T238.heap n0 Zs250 Q242 Scs hzc Q243 Q244 Q245 Q246) hZ (hw _ (List.mem_of_getElem? (i := 90) rfl)) (hw _ (List.mem_of_getElem? (i := 6) rfl)) (by decide) (by decide)) q249a q249c (g := (mkF m 166 #[.val (.int pa), .val (.int pb), .val (.int pc_), .val (.int pe), .val (.int pf), .val (.int (4 : Int32)), .val (.int (2 : Int32)), .val (.int c0), .val (.int c1), .val (.int kq), .val (.int c3), .val (.int kq), .val (.ref sb_225), .val (.ref sb_233), .val (.ref sb_238), .val (.ref sb_225)] [(.ref sb_225)])) rfl (by rw [hml]; rfl) (Steps.refl _) (argsL := []) (rest := []) (lenOf own_law_pd3 rfl) rfl (by show 2 * 0 + _ ≤ _; exact Nat.le_of_eq rfl) (hb hby at_166) (fun _ _ => ⟨rfl, R247, (by decide : 7 + 0 ≤ _), (by decide : 22 + 0 ≤ _)⟩)
      dsimp only [Pt.U, Pt.locs, Pt.cells, Pt.slots] at X249 l249 y249 z249 st249 hQ249
      obtain rfl : k249 = 7 := y249
      obtain rfl : n249 = 22 := z249
      obtain ⟨rfl, N249q, R249⟩ := hQ249
      have N249 : Fr n0 L249 := l249 ▸ Fr.app N247 N249q
      refine ownStep (fun _ k => st249.trans k) ?_
      refine ownStep (fun _ k => XS.iload X249.here hx rfl (hb hby at_169) rfl  k) ?_
      refine ownStep (fun _ k => XS.icmpNo X249.here hx rfl (hb hby at_171) rfl (teq (by decide : (4 : Int32) = (4 : Int32))).2 k) ?_
      refine ownStep (fun _ k => XS.aload X249.here hx rfl (hb hby at_174) rfl rfl k) ?_
      refine ownStep (fun _ k => XS.aload X249.here hx rfl (hb hby at_176) rfl rfl k) ?_
      show ownGo p.tables e below (T249.setTop (mkF m 178 #[.val (.int pa), .val (.int pb), .val (.int pc_), .val (.int pe), .val (.int pf), .val (.int (4 : Int32)), .val (.int (2 : Int32)), .val (.int c0), .val (.int c1), .val (.int kq), .val (.int c3), .val (.int kq), .val (.ref sb_225), .val (.ref sb_233), .val (.ref sb_238), .val (.ref sb_225)] [(.ref sb_225), (.ref sb_225)])) _
      have Zs252 : n0 ≤ T238.heap.size := Nat.le_trans Z0 KP241.1
      obtain ⟨cq251, kq251, q251a, q251b, q251c⟩ := isOf hZ R249 Q243
      obtain ⟨_, _, ⟨T251, L251, k251, n251⟩, -, X251, ⟨Lc251, hQ251, l251, y251, z251⟩, st251⟩ := X249.virtualBack hx (y := (⟨"java/lang/String", "equals", "(Ljava/lang/Object;)Z"⟩ : MethodName)) (z := (⟨"java/lang/String", "equals", "(Ljava/lang/Object;)Z"⟩ : MethodName)) hown (mvT hZ (hw _ (List.mem_of_getElem? (i := 97) rfl))) (mvT hZ (hw _ (List.mem_of_getElem? (i := 98) rfl))) (notFace_of_selects (args := #[]) (mvT hZ (hw _ (List.mem_of_getElem? (i := 100) rfl)))) (mvT hZ (hw _ (List.mem_of_getElem? (i := 100) rfl))) (mvT hZ (hw _ (List.mem_of_getElem? (i := 99) rfl))) (by decide) (backOf (W := 0) (own_eq l Z a0 hw [] sb_225 T238.heap n0 Zs252 ) hZ (hw _ (List.mem_of_getElem? (i := 101) rfl)) (hw _ (List.mem_of_getElem? (i := 6) rfl)) (by decide) (by decide)) q251a q251c (g := (mkF m 178 #[.val (.int pa), .val (.int pb), .val (.int pc_), .val (.int pe), .val (.int pf), .val (.int (4 : Int32)), .val (.int (2 : Int32)), .val (.int c0), .val (.int c1), .val (.int kq), .val (.int c3), .val (.int kq), .val (.ref sb_225), .val (.ref sb_233), .val (.ref sb_238), .val (.ref sb_225)] [(.ref sb_225), (.ref sb_225)])) rfl (by rw [hml]; rfl) (Steps.refl _) (argsL := [(.ref sb_225)]) (rest := []) (lenOf own_law_pd4 rfl) rfl (by show 2 * 0 + _ ≤ _; exact Nat.le_of_eq rfl) (hb hby at_178) (fun _ _ => ⟨rfl, R249, (by decide : 7 + 0 ≤ _), (by decide : 22 + 0 ≤ _)⟩)
      dsimp only [Pt.U, Pt.locs, Pt.cells, Pt.slots] at X251 l251 y251 z251 st251 hQ251
      obtain rfl : k251 = 7 := y251
      obtain rfl : n251 = 22 := z251
      obtain ⟨rfl, N251q, R251⟩ := hQ251
      have N251 : Fr n0 L251 := l251 ▸ Fr.app N249 N251q
      refine ownStep (fun _ k => st251.trans k) ?_
      refine ownStep (fun _ k => XS.ifNo X251.here hx rfl (hb hby at_181) rfl ((if0 _ _).trans (feq (by decide : ¬ (1 : Int32) = (0 : Int32))).1) k) ?_
      refine ownStep (fun _ k => XS.iconst X251.here hx rfl (hb hby at_184) k) ?_
      refine ownStep (fun _ k => XS.goto X251.here hx rfl (pc0 := 185) (pc' := 189) rfl (hb hby at_185) (by decide) (by decide) k) ?_
      show ownGo p.tables e below (T251.setTop (mkF m 189 #[.val (.int pa), .val (.int pb), .val (.int pc_), .val (.int pe), .val (.int pf), .val (.int (4 : Int32)), .val (.int (2 : Int32)), .val (.int c0), .val (.int c1), .val (.int kq), .val (.int c3), .val (.int kq), .val (.ref sb_225), .val (.ref sb_233), .val (.ref sb_238), .val (.ref sb_225)] [(.int (1 : Int32))])) _
      exact ownRet X251 (v := some (.int (1 : Int32))) Bd.notSynchronized (fun h => by rw [Bd.returns] at h; cases h) (fun _ hr => retN X251 hx (t := .boolean) Bd.returns (by simp) (hb hby at_189) hr) (by rw [R251]; exact ⟨rfl, N251, (own_extOf KP241)⟩) (by decide) (by decide)
    · skip
      rw [hk]
      refine ownStep (fun _ k => XS.istore X0.here hx rfl (hb hby at_13) rfl (l' := #[.val (.int pa), .val (.int pb), .val (.int pc_), .val (.int pe), .val (.int pf), .val (.int (4 : Int32)), .val (.int (3 : Int32)), .unset, .unset, .unset, .unset, .unset, .unset, .unset, .unset, .unset]) rfl k) ?_
      refine ownStep (fun _ k => XS.iloadN X0.here hx rfl (hb hby at_15) rfl  k) ?_
      refine ownStep (fun _ k => XS.sipush X0.here hx rfl (hb hby at_16) k) ?_
      refine ownStep (fun _ k => XS.iand X0.here hx rfl (hb hby at_19) rfl k) ?_
      show ownGo p.tables e below (s₁.setTop (mkF m 20 #[.val (.int pa), .val (.int pb), .val (.int pc_), .val (.int pe), .val (.int pf), .val (.int (4 : Int32)), .val (.int (3 : Int32)), .unset, .unset, .unset, .unset, .unset, .unset, .unset, .unset, .unset] [(.int (pa &&& (255 : Int32)))])) _
      refine ownStep (fun _ k => XS.i2c X0.here hx rfl (hb hby at_20) rfl k) ?_
      show ownGo p.tables e below (s₁.setTop (mkF m 21 #[.val (.int pa), .val (.int pb), .val (.int pc_), .val (.int pe), .val (.int pf), .val (.int (4 : Int32)), .val (.int (3 : Int32)), .unset, .unset, .unset, .unset, .unset, .unset, .unset, .unset, .unset] [(.int ((pa &&& (255 : Int32)).toUInt32.toUInt16.toUInt32.toInt32))])) _
      obtain ⟨c0, h_c0, l_c0, u_c0⟩ : ∃ z, ((pa &&& (255 : Int32)).toUInt32.toUInt16.toUInt32.toInt32) = z ∧ ¬ z < (0 : Int32) ∧ ¬ (255 : Int32) < z := own_char _
      rw [h_c0]
      refine ownStep (fun _ k => XS.istore X0.here hx rfl (hb hby at_21) rfl (l' := #[.val (.int pa), .val (.int pb), .val (.int pc_), .val (.int pe), .val (.int pf), .val (.int (4 : Int32)), .val (.int (3 : Int32)), .val (.int c0), .unset, .unset, .unset, .unset, .unset, .unset, .unset, .unset]) rfl k) ?_
      refine ownStep (fun _ k => XS.iloadN X0.here hx rfl (hb hby at_23) rfl  k) ?_
      refine ownStep (fun _ k => XS.bipush X0.here hx rfl (hb hby at_24) k) ?_
      refine ownStep (fun _ k => XS.iushr X0.here hx rfl (hb hby at_26) rfl k) ?_
      show ownGo p.tables e below (s₁.setTop (mkF m 27 #[.val (.int pa), .val (.int pb), .val (.int pc_), .val (.int pe), .val (.int pf), .val (.int (4 : Int32)), .val (.int (3 : Int32)), .val (.int c0), .unset, .unset, .unset, .unset, .unset, .unset, .unset, .unset] [(.int ((pa.toUInt32 >>> ((8 : Int32) &&& 31).toUInt32).toInt32))])) _
      refine ownStep (fun _ k => XS.sipush X0.here hx rfl (hb hby at_27) k) ?_
      refine ownStep (fun _ k => XS.iand X0.here hx rfl (hb hby at_30) rfl k) ?_
      refine ownStep (fun _ k => XS.i2c X0.here hx rfl (hb hby at_31) rfl k) ?_
      show ownGo p.tables e below (s₁.setTop (mkF m 32 #[.val (.int pa), .val (.int pb), .val (.int pc_), .val (.int pe), .val (.int pf), .val (.int (4 : Int32)), .val (.int (3 : Int32)), .val (.int c0), .unset, .unset, .unset, .unset, .unset, .unset, .unset, .unset] [(.int ((((pa.toUInt32 >>> ((8 : Int32) &&& 31).toUInt32).toInt32) &&& (255 : Int32)).toUInt32.toUInt16.toUInt32.toInt32))])) _
      obtain ⟨c1, h_c1, l_c1, u_c1⟩ : ∃ z, ((((pa.toUInt32 >>> ((8 : Int32) &&& 31).toUInt32).toInt32) &&& (255 : Int32)).toUInt32.toUInt16.toUInt32.toInt32) = z ∧ ¬ z < (0 : Int32) ∧ ¬ (255 : Int32) < z := own_char _
      rw [h_c1]
      refine ownStep (fun _ k => XS.istore X0.here hx rfl (hb hby at_32) rfl (l' := #[.val (.int pa), .val (.int pb), .val (.int pc_), .val (.int pe), .val (.int pf), .val (.int (4 : Int32)), .val (.int (3 : Int32)), .val (.int c0), .val (.int c1), .unset, .unset, .unset, .unset, .unset, .unset, .unset]) rfl k) ?_
      refine ownStep (fun _ k => XS.iloadN X0.here hx rfl (hb hby at_34) rfl  k) ?_
      refine ownStep (fun _ k => XS.bipush X0.here hx rfl (hb hby at_35) k) ?_
      refine ownStep (fun _ k => XS.iushr X0.here hx rfl (hb hby at_37) rfl k) ?_
      show ownGo p.tables e below (s₁.setTop (mkF m 38 #[.val (.int pa), .val (.int pb), .val (.int pc_), .val (.int pe), .val (.int pf), .val (.int (4 : Int32)), .val (.int (3 : Int32)), .val (.int c0), .val (.int c1), .unset, .unset, .unset, .unset, .unset, .unset, .unset] [(.int ((pa.toUInt32 >>> ((16 : Int32) &&& 31).toUInt32).toInt32))])) _
      refine ownStep (fun _ k => XS.sipush X0.here hx rfl (hb hby at_38) k) ?_
      refine ownStep (fun _ k => XS.iand X0.here hx rfl (hb hby at_41) rfl k) ?_
      refine ownStep (fun _ k => XS.i2c X0.here hx rfl (hb hby at_42) rfl k) ?_
      show ownGo p.tables e below (s₁.setTop (mkF m 43 #[.val (.int pa), .val (.int pb), .val (.int pc_), .val (.int pe), .val (.int pf), .val (.int (4 : Int32)), .val (.int (3 : Int32)), .val (.int c0), .val (.int c1), .unset, .unset, .unset, .unset, .unset, .unset, .unset] [(.int ((((pa.toUInt32 >>> ((16 : Int32) &&& 31).toUInt32).toInt32) &&& (255 : Int32)).toUInt32.toUInt16.toUInt32.toInt32))])) _
      obtain ⟨c2, h_c2, l_c2, u_c2⟩ : ∃ z, ((((pa.toUInt32 >>> ((16 : Int32) &&& 31).toUInt32).toInt32) &&& (255 : Int32)).toUInt32.toUInt16.toUInt32.toInt32) = z ∧ ¬ z < (0 : Int32) ∧ ¬ (255 : Int32) < z := own_char _
      rw [h_c2]
      refine ownStep (fun _ k => XS.istore X0.here hx rfl (hb hby at_43) rfl (l' := #[.val (.int pa), .val (.int pb), .val (.int pc_), .val (.int pe), .val (.int pf), .val (.int (4 : Int32)), .val (.int (3 : Int32)), .val (.int c0), .val (.int c1), .val (.int c2), .unset, .unset, .unset, .unset, .unset, .unset]) rfl k) ?_
      refine ownStep (fun _ k => XS.iloadN X0.here hx rfl (hb hby at_45) rfl  k) ?_
      refine ownStep (fun _ k => XS.bipush X0.here hx rfl (hb hby at_46) k) ?_
      refine ownStep (fun _ k => XS.iushr X0.here hx rfl (hb hby at_48) rfl k) ?_
      show ownGo p.tables e below (s₁.setTop (mkF m 49 #[.val (.int pa), .val (.int pb), .val (.int pc_), .val (.int pe), .val (.int pf), .val (.int (4 : Int32)), .val (.int (3 : Int32)), .val (.int c0), .val (.int c1), .val (.int c2), .unset, .unset, .unset, .unset, .unset, .unset] [(.int ((pa.toUInt32 >>> ((24 : Int32) &&& 31).toUInt32).toInt32))])) _
      refine ownStep (fun _ k => XS.sipush X0.here hx rfl (hb hby at_49) k) ?_
      refine ownStep (fun _ k => XS.iand X0.here hx rfl (hb hby at_52) rfl k) ?_
      refine ownStep (fun _ k => XS.i2c X0.here hx rfl (hb hby at_53) rfl k) ?_
      show ownGo p.tables e below (s₁.setTop (mkF m 54 #[.val (.int pa), .val (.int pb), .val (.int pc_), .val (.int pe), .val (.int pf), .val (.int (4 : Int32)), .val (.int (3 : Int32)), .val (.int c0), .val (.int c1), .val (.int c2), .unset, .unset, .unset, .unset, .unset, .unset] [(.int ((((pa.toUInt32 >>> ((24 : Int32) &&& 31).toUInt32).toInt32) &&& (255 : Int32)).toUInt32.toUInt16.toUInt32.toInt32))])) _
      obtain ⟨c3, h_c3, l_c3, u_c3⟩ : ∃ z, ((((pa.toUInt32 >>> ((24 : Int32) &&& 31).toUInt32).toInt32) &&& (255 : Int32)).toUInt32.toUInt16.toUInt32.toInt32) = z ∧ ¬ z < (0 : Int32) ∧ ¬ (255 : Int32) < z := own_char _
      rw [h_c3]
      refine ownStep (fun _ k => XS.istore X0.here hx rfl (hb hby at_54) rfl (l' := #[.val (.int pa), .val (.int pb), .val (.int pc_), .val (.int pe), .val (.int pf), .val (.int (4 : Int32)), .val (.int (3 : Int32)), .val (.int c0), .val (.int c1), .val (.int c2), .val (.int c3), .unset, .unset, .unset, .unset, .unset]) rfl k) ?_
      refine ownStep (fun _ k => XS.bipush X0.here hx rfl (hb hby at_56) k) ?_
      refine ownStep (fun _ k => XS.iload X0.here hx rfl (hb hby at_58) rfl  k) ?_
      refine ownStep (fun _ k => XS.iconst X0.here hx rfl (hb hby at_60) k) ?_
      show ownGo p.tables e below (s₁.setTop (mkF m 61 #[.val (.int pa), .val (.int pb), .val (.int pc_), .val (.int pe), .val (.int pf), .val (.int (4 : Int32)), .val (.int (3 : Int32)), .val (.int c0), .val (.int c1), .val (.int c2), .val (.int c3), .unset, .unset, .unset, .unset, .unset] [(.int (1 : Int32)), (.int pf), (.int (33 : Int32))])) _
      refine ownStep (fun _ k => XS.iushr X0.here hx rfl (hb hby at_61) rfl k) ?_
      refine ownStep (fun _ k => XS.bipush X0.here hx rfl (hb hby at_62) k) ?_
      show ownGo p.tables e below (s₁.setTop (mkF m 64 #[.val (.int pa), .val (.int pb), .val (.int pc_), .val (.int pe), .val (.int pf), .val (.int (4 : Int32)), .val (.int (3 : Int32)), .val (.int c0), .val (.int c1), .val (.int c2), .val (.int c3), .unset, .unset, .unset, .unset, .unset] [(.int (94 : Int32)), (.int ((pf.toUInt32 >>> ((1 : Int32) &&& 31).toUInt32).toInt32)), (.int (33 : Int32))])) _
      refine ownStep (fun _ k => iremM X0 hx rfl (hb hby at_64) rfl (by decide) k) ?_
      refine ownStep (fun _ k => XS.iadd X0.here hx rfl (hb hby at_65) rfl k) ?_
      refine ownStep (fun _ k => XS.i2c X0.here hx rfl (hb hby at_66) rfl k) ?_
      show ownGo p.tables e below (s₁.setTop (mkF m 67 #[.val (.int pa), .val (.int pb), .val (.int pc_), .val (.int pe), .val (.int pf), .val (.int (4 : Int32)), .val (.int (3 : Int32)), .val (.int c0), .val (.int c1), .val (.int c2), .val (.int c3), .unset, .unset, .unset, .unset, .unset] [(.int (((33 : Int32) + (((pf.toUInt32 >>> ((1 : Int32) &&& 31).toUInt32).toInt32) % (94 : Int32))).toUInt32.toUInt16.toUInt32.toInt32))])) _
      obtain ⟨kq, h_kq, l_kq, u_kq, kp_kq⟩ : ∃ z, (((33 : Int32) + (((pf.toUInt32 >>> ((1 : Int32) &&& 31).toUInt32).toInt32) % (94 : Int32))).toUInt32.toUInt16.toUInt32.toInt32) = z ∧ ¬ z < (0 : Int32) ∧ ¬ (255 : Int32) < z ∧ own_keep z := own_keepv pf
      rw [h_kq]
      refine ownStep (fun _ k => XS.istore X0.here hx rfl (hb hby at_67) rfl (l' := #[.val (.int pa), .val (.int pb), .val (.int pc_), .val (.int pe), .val (.int pf), .val (.int (4 : Int32)), .val (.int (3 : Int32)), .val (.int c0), .val (.int c1), .val (.int c2), .val (.int c3), .val (.int kq), .unset, .unset, .unset, .unset]) rfl k) ?_
      refine ownStep (fun _ k => XS.iload X0.here hx rfl (hb hby at_69) rfl  k) ?_
      refine ownStep (fun _ k => XS.ifYes X0.here hx rfl (pc0 := 71) (pc' := 81) rfl (hb hby at_71) rfl ((if0 _ _).trans (feq (by decide : ¬ (3 : Int32) = (0 : Int32))).2) (by decide) (by decide) k) ?_
      refine ownStep (fun _ k => XS.iload X0.here hx rfl (hb hby at_81) rfl  k) ?_
      show ownGo p.tables e below (s₁.setTop (mkF m 83 #[.val (.int pa), .val (.int pb), .val (.int pc_), .val (.int pe), .val (.int pf), .val (.int (4 : Int32)), .val (.int (3 : Int32)), .val (.int c0), .val (.int c1), .val (.int c2), .val (.int c3), .val (.int kq), .unset, .unset, .unset, .unset] [(.int (3 : Int32))])) _
      refine ownStep (fun _ k => XS.iconst X0.here hx rfl (hb hby at_83) k) ?_
      refine ownStep (fun _ k => XS.icmpYes X0.here hx rfl (pc0 := 84) (pc' := 94) rfl (hb hby at_84) rfl (feq (by decide : ¬ (3 : Int32) = (1 : Int32))).2 (by decide) (by decide) k) ?_
      refine ownStep (fun _ k => XS.iload X0.here hx rfl (hb hby at_94) rfl  k) ?_
      refine ownStep (fun _ k => XS.iconst X0.here hx rfl (hb hby at_96) k) ?_
      refine ownStep (fun _ k => XS.icmpYes X0.here hx rfl (pc0 := 97) (pc' := 107) rfl (hb hby at_97) rfl (feq (by decide : ¬ (3 : Int32) = (2 : Int32))).2 (by decide) (by decide) k) ?_
      show ownGo p.tables e below (s₁.setTop (mkF m 107 #[.val (.int pa), .val (.int pb), .val (.int pc_), .val (.int pe), .val (.int pf), .val (.int (4 : Int32)), .val (.int (3 : Int32)), .val (.int c0), .val (.int c1), .val (.int c2), .val (.int c3), .val (.int kq), .unset, .unset, .unset, .unset] [])) _
      refine ownStep (fun _ k => XS.iload X0.here hx rfl (hb hby at_107) rfl  k) ?_
      refine ownStep (fun _ k => XS.istore X0.here hx rfl (hb hby at_109) rfl (l' := #[.val (.int pa), .val (.int pb), .val (.int pc_), .val (.int pe), .val (.int pf), .val (.int (4 : Int32)), .val (.int (3 : Int32)), .val (.int c0), .val (.int c1), .val (.int c2), .val (.int kq), .val (.int kq), .unset, .unset, .unset, .unset]) rfl k) ?_
      refine ownStep (fun _ k => XS.iload X0.here hx rfl (hb hby at_111) rfl  k) ?_
      refine ownStep (fun _ k => XS.iload X0.here hx rfl (hb hby at_113) rfl  k) ?_
      refine ownStep (fun _ k => XS.iload X0.here hx rfl (hb hby at_115) rfl  k) ?_
      show ownGo p.tables e below (s₁.setTop (mkF m 117 #[.val (.int pa), .val (.int pb), .val (.int pc_), .val (.int pe), .val (.int pf), .val (.int (4 : Int32)), .val (.int (3 : Int32)), .val (.int c0), .val (.int c1), .val (.int c2), .val (.int kq), .val (.int kq), .unset, .unset, .unset, .unset] [(.int c1), (.int c0), (.int (4 : Int32))])) _
      refine ownStep (fun _ k => XS.iload X0.here hx rfl (hb hby at_117) rfl  k) ?_
      refine ownStep (fun _ k => XS.iload X0.here hx rfl (hb hby at_119) rfl  k) ?_
      show ownGo p.tables e below (s₁.setTop (mkF m 121 #[.val (.int pa), .val (.int pb), .val (.int pc_), .val (.int pe), .val (.int pf), .val (.int (4 : Int32)), .val (.int (3 : Int32)), .val (.int c0), .val (.int c1), .val (.int c2), .val (.int kq), .val (.int kq), .unset, .unset, .unset, .unset] [(.int kq), (.int c2), (.int c1), (.int c0), (.int (4 : Int32))])) _
      have Zs254 : n0 ≤ h0.size := Nat.le_trans Z0 KP0.1
      obtain ⟨_, _, ⟨T253, L253, k253, n253⟩, -, X253, ⟨Lc253, hQ253, l253, y253, z253⟩, st253⟩ := Jvm.LawKit.callS X0 hx (y := (⟨"com/example/circuline/circuline/circulation/BarcodesRequiredPinLaw", "make", "(ICCCC)Ljava/lang/String;"⟩ : MethodName)) hown (mvT hZ (hw _ (List.mem_of_getElem? (i := 0) rfl))) (mvT hZ (hw _ (List.mem_of_getElem? (i := 1) rfl))) (mvT hZ (hw _ (List.mem_of_getElem? (i := 2) rfl))) (mvT hZ (hw _ (List.mem_of_getElem? (i := 3) rfl))) (by decide) (backOf (W := 0) (own_mk4 l Z a0 hw [] zc c0 c1 c2 kq h0 n0 Zs254 hOld Scs hzc l_c0 u_c0 l_c1 u_c1 l_c2 u_c2 l_kq u_kq) hZ (hw _ (List.mem_of_getElem? (i := 3) rfl)) (hw _ (List.mem_of_getElem? (i := 2) rfl)) (by decide) (by decide)) (g := (mkF m 121 #[.val (.int pa), .val (.int pb), .val (.int pc_), .val (.int pe), .val (.int pf), .val (.int (4 : Int32)), .val (.int (3 : Int32)), .val (.int c0), .val (.int c1), .val (.int c2), .val (.int kq), .val (.int kq), .unset, .unset, .unset, .unset] [(.int kq), (.int c2), (.int c1), (.int c0), (.int (4 : Int32))])) rfl (by rw [hml]; rfl) (argsL := [(.int (4 : Int32)), (.int c0), (.int c1), (.int c2), (.int kq)]) (rest := []) (lenOf own_law_pd0 rfl) rfl (by show 2 * 0 + _ ≤ _; exact Nat.le_of_eq rfl) (hb hby at_121) (fun _ _ => ⟨rfl, e0, (by decide : 0 + 3 ≤ _), (by decide : 0 + 12 ≤ _)⟩)
      dsimp only [Pt.U, Pt.locs, Pt.cells, Pt.slots] at X253 l253 y253 z253 st253 hQ253
      obtain rfl : k253 = 3 := y253
      obtain rfl : n253 = 12 := z253
      obtain ⟨sb_253, tb_253, kb_253, rfl, N253q, R253, P255, P256, P257, P258⟩ := hQ253
      have N253 : Fr n0 L253 := l253 ▸ Fr.app N0 N253q
      refine ownStep (fun _ k => st253 _ k) ?_
      have KP259 : Keep h0 T253.heap [] := KP0.ext R253
      refine ownStep (fun _ k => XS.astore X253.here hx rfl (hb hby at_124) rfl rfl (l' := #[.val (.int pa), .val (.int pb), .val (.int pc_), .val (.int pe), .val (.int pf), .val (.int (4 : Int32)), .val (.int (3 : Int32)), .val (.int c0), .val (.int c1), .val (.int c2), .val (.int kq), .val (.int kq), .val (.ref sb_253), .unset, .unset, .unset]) rfl k) ?_
      refine ownStep (fun _ k => XS.iloadN X253.here hx rfl (hb hby at_126) rfl  k) ?_
      refine ownStep (fun _ k => XS.sipush X253.here hx rfl (hb hby at_127) k) ?_
      refine ownStep (fun _ k => XS.iand X253.here hx rfl (hb hby at_130) rfl k) ?_
      show ownGo p.tables e below (T253.setTop (mkF m 131 #[.val (.int pa), .val (.int pb), .val (.int pc_), .val (.int pe), .val (.int pf), .val (.int (4 : Int32)), .val (.int (3 : Int32)), .val (.int c0), .val (.int c1), .val (.int c2), .val (.int kq), .val (.int kq), .val (.ref sb_253), .unset, .unset, .unset] [(.int (pb &&& (255 : Int32)))])) _
      refine ownStep (fun _ k => XS.i2c X253.here hx rfl (hb hby at_131) rfl k) ?_
      show ownGo p.tables e below (T253.setTop (mkF m 132 #[.val (.int pa), .val (.int pb), .val (.int pc_), .val (.int pe), .val (.int pf), .val (.int (4 : Int32)), .val (.int (3 : Int32)), .val (.int c0), .val (.int c1), .val (.int c2), .val (.int kq), .val (.int kq), .val (.ref sb_253), .unset, .unset, .unset] [(.int ((pb &&& (255 : Int32)).toUInt32.toUInt16.toUInt32.toInt32))])) _
      obtain ⟨f0, h_f0, l_f0, u_f0⟩ : ∃ z, ((pb &&& (255 : Int32)).toUInt32.toUInt16.toUInt32.toInt32) = z ∧ ¬ z < (0 : Int32) ∧ ¬ (255 : Int32) < z := own_char _
      rw [h_f0]
      show ownGo p.tables e below (T253.setTop (mkF m 132 #[.val (.int pa), .val (.int pb), .val (.int pc_), .val (.int pe), .val (.int pf), .val (.int (4 : Int32)), .val (.int (3 : Int32)), .val (.int c0), .val (.int c1), .val (.int c2), .val (.int kq), .val (.int kq), .val (.ref sb_253), .unset, .unset, .unset] [(.int f0)])) _
      have Q260 : Old Z n0 T253.heap := (hOld.ext R253)
      have Zs262 : n0 ≤ T253.heap.size := Nat.le_trans Z0 KP259.1
      obtain ⟨_, _, ⟨T261, L261, k261, n261⟩, -, X261, ⟨Lc261, hQ261, l261, y261, z261⟩, st261⟩ := Jvm.LawKit.callS X253 hx (y := (⟨"java/lang/String", "valueOf", "(C)Ljava/lang/String;"⟩ : MethodName)) hown (mvT hZ (hw _ (List.mem_of_getElem? (i := 34) rfl))) (mvT hZ (hw _ (List.mem_of_getElem? (i := 35) rfl))) (mvT hZ (hw _ (List.mem_of_getElem? (i := 6) rfl))) (mvT hZ (hw _ (List.mem_of_getElem? (i := 36) rfl))) (by decide) (backOf (W := 0) (own_vo l Z a0 hw [] zc f0 T253.heap n0 Zs262 Q260 Scs hzc l_f0 u_f0) hZ (hw _ (List.mem_of_getElem? (i := 36) rfl)) (hw _ (List.mem_of_getElem? (i := 6) rfl)) (by decide) (by decide)) (g := (mkF m 132 #[.val (.int pa), .val (.int pb), .val (.int pc_), .val (.int pe), .val (.int pf), .val (.int (4 : Int32)), .val (.int (3 : Int32)), .val (.int c0), .val (.int c1), .val (.int c2), .val (.int kq), .val (.int kq), .val (.ref sb_253), .unset, .unset, .unset] [(.int f0)])) rfl (by rw [hml]; rfl) (argsL := [(.int f0)]) (rest := []) (lenOf own_law_pd1 rfl) rfl (by show 2 * 0 + _ ≤ _; exact Nat.le_of_eq rfl) (hb hby at_132) (fun _ _ => ⟨rfl, rfl, (by decide : 3 + 2 ≤ _), (by decide : 12 + 5 ≤ _)⟩)
      dsimp only [Pt.U, Pt.locs, Pt.cells, Pt.slots] at X261 l261 y261 z261 st261 hQ261
      obtain rfl : k261 = 5 := y261
      obtain rfl : n261 = 17 := z261
      obtain ⟨sb_261, rfl, N261q, R261, P263⟩ := hQ261
      have N261 : Fr n0 L261 := l261 ▸ Fr.app N253 N261q
      refine ownStep (fun _ k => st261 _ k) ?_
      have KP264 : Keep h0 T261.heap [] := KP259.ext R261
      refine ownStep (fun _ k => XS.astore X261.here hx rfl (hb hby at_135) rfl rfl (l' := #[.val (.int pa), .val (.int pb), .val (.int pc_), .val (.int pe), .val (.int pf), .val (.int (4 : Int32)), .val (.int (3 : Int32)), .val (.int c0), .val (.int c1), .val (.int c2), .val (.int kq), .val (.int kq), .val (.ref sb_253), .val (.ref sb_261), .unset, .unset]) rfl k) ?_
      refine ownStep (fun _ k => XS.iloadN X261.here hx rfl (hb hby at_137) rfl  k) ?_
      refine ownStep (fun _ k => XS.sipush X261.here hx rfl (hb hby at_138) k) ?_
      refine ownStep (fun _ k => XS.iand X261.here hx rfl (hb hby at_141) rfl k) ?_
      show ownGo p.tables e below (T261.setTop (mkF m 142 #[.val (.int pa), .val (.int pb), .val (.int pc_), .val (.int pe), .val (.int pf), .val (.int (4 : Int32)), .val (.int (3 : Int32)), .val (.int c0), .val (.int c1), .val (.int c2), .val (.int kq), .val (.int kq), .val (.ref sb_253), .val (.ref sb_261), .unset, .unset] [(.int (pc_ &&& (255 : Int32)))])) _
      refine ownStep (fun _ k => XS.i2c X261.here hx rfl (hb hby at_142) rfl k) ?_
      show ownGo p.tables e below (T261.setTop (mkF m 143 #[.val (.int pa), .val (.int pb), .val (.int pc_), .val (.int pe), .val (.int pf), .val (.int (4 : Int32)), .val (.int (3 : Int32)), .val (.int c0), .val (.int c1), .val (.int c2), .val (.int kq), .val (.int kq), .val (.ref sb_253), .val (.ref sb_261), .unset, .unset] [(.int ((pc_ &&& (255 : Int32)).toUInt32.toUInt16.toUInt32.toInt32))])) _
      obtain ⟨f1, h_f1, l_f1, u_f1⟩ : ∃ z, ((pc_ &&& (255 : Int32)).toUInt32.toUInt16.toUInt32.toInt32) = z ∧ ¬ z < (0 : Int32) ∧ ¬ (255 : Int32) < z := own_char _
      rw [h_f1]
      show ownGo p.tables e below (T261.setTop (mkF m 143 #[.val (.int pa), .val (.int pb), .val (.int pc_), .val (.int pe), .val (.int pf), .val (.int (4 : Int32)), .val (.int (3 : Int32)), .val (.int c0), .val (.int c1), .val (.int c2), .val (.int kq), .val (.int kq), .val (.ref sb_253), .val (.ref sb_261), .unset, .unset] [(.int f1)])) _
      have Q265 : Old Z n0 T261.heap := (Q260.ext R261)
      have Zs267 : n0 ≤ T261.heap.size := Nat.le_trans Z0 KP264.1
      obtain ⟨_, _, ⟨T266, L266, k266, n266⟩, -, X266, ⟨Lc266, hQ266, l266, y266, z266⟩, st266⟩ := Jvm.LawKit.callS X261 hx (y := (⟨"java/lang/String", "valueOf", "(C)Ljava/lang/String;"⟩ : MethodName)) hown (mvT hZ (hw _ (List.mem_of_getElem? (i := 34) rfl))) (mvT hZ (hw _ (List.mem_of_getElem? (i := 35) rfl))) (mvT hZ (hw _ (List.mem_of_getElem? (i := 6) rfl))) (mvT hZ (hw _ (List.mem_of_getElem? (i := 36) rfl))) (by decide) (backOf (W := 0) (own_vo l Z a0 hw [] zc f1 T261.heap n0 Zs267 Q265 Scs hzc l_f1 u_f1) hZ (hw _ (List.mem_of_getElem? (i := 36) rfl)) (hw _ (List.mem_of_getElem? (i := 6) rfl)) (by decide) (by decide)) (g := (mkF m 143 #[.val (.int pa), .val (.int pb), .val (.int pc_), .val (.int pe), .val (.int pf), .val (.int (4 : Int32)), .val (.int (3 : Int32)), .val (.int c0), .val (.int c1), .val (.int c2), .val (.int kq), .val (.int kq), .val (.ref sb_253), .val (.ref sb_261), .unset, .unset] [(.int f1)])) rfl (by rw [hml]; rfl) (argsL := [(.int f1)]) (rest := []) (lenOf own_law_pd1 rfl) rfl (by show 2 * 0 + _ ≤ _; exact Nat.le_of_eq rfl) (hb hby at_143) (fun _ _ => ⟨rfl, rfl, (by decide : 5 + 2 ≤ _), (by decide : 17 + 5 ≤ _)⟩)
      dsimp only [Pt.U, Pt.locs, Pt.cells, Pt.slots] at X266 l266 y266 z266 st266 hQ266
      obtain rfl : k266 = 7 := y266
      obtain rfl : n266 = 22 := z266
      obtain ⟨sb_266, rfl, N266q, R266, P268⟩ := hQ266
      have N266 : Fr n0 L266 := l266 ▸ Fr.app N261 N266q
      refine ownStep (fun _ k => st266 _ k) ?_
      have KP269 : Keep h0 T266.heap [] := KP264.ext R266
      refine ownStep (fun _ k => XS.astore X266.here hx rfl (hb hby at_146) rfl rfl (l' := #[.val (.int pa), .val (.int pb), .val (.int pc_), .val (.int pe), .val (.int pf), .val (.int (4 : Int32)), .val (.int (3 : Int32)), .val (.int c0), .val (.int c1), .val (.int c2), .val (.int kq), .val (.int kq), .val (.ref sb_253), .val (.ref sb_261), .val (.ref sb_266), .unset]) rfl k) ?_
      refine ownStep (fun _ k => XS.aload X266.here hx rfl (hb hby at_148) rfl rfl k) ?_
      refine ownStep (fun _ k => XS.aload X266.here hx rfl (hb hby at_150) rfl rfl k) ?_
      refine ownStep (fun _ k => XS.aload X266.here hx rfl (hb hby at_152) rfl rfl k) ?_
      show ownGo p.tables e below (T266.setTop (mkF m 154 #[.val (.int pa), .val (.int pb), .val (.int pc_), .val (.int pe), .val (.int pf), .val (.int (4 : Int32)), .val (.int (3 : Int32)), .val (.int c0), .val (.int c1), .val (.int c2), .val (.int kq), .val (.int kq), .val (.ref sb_253), .val (.ref sb_261), .val (.ref sb_266), .unset] [(.ref sb_266), (.ref sb_261), (.ref sb_253)])) _
      have Q270 : Old Z n0 T266.heap := (Q265.ext R266)
      have Q271 : Exa Z T266.heap sb_253 "java/lang/String" := ((P255.ext R261).ext R266)
      have Q272 : Fld Z T266.heap sb_253 "java/lang/String" "coder" "B" (.int (0 : Int32)) := ((P256.ext R261).ext R266)
      have Q273 : Fld Z T266.heap sb_253 "java/lang/String" "value" "[B" (.ref tb_253) := ((P257.ext R261).ext R266)
      have Q274 : Arv Z T266.heap tb_253 kb_253 .byte (4 : Int32) [(.int c0.toInt8.toInt32), (.int c1.toInt8.toInt32), (.int c2.toInt8.toInt32), (.int kq.toInt8.toInt32)] (.int (0 : Int32)) := ((P258.ext R261).ext R266)
      have Zs276 : n0 ≤ T266.heap.size := Nat.le_trans Z0 KP269.1
      obtain ⟨_, _, ⟨T275, L275, k275, n275⟩, -, X275, ⟨Lc275, hQ275, l275, y275, z275⟩, st275⟩ := Jvm.LawKit.callS X266 hx (y := (⟨"com/example/circuline/circuline/circulation/Barcodes", "required", "(Ljava/lang/String;Ljava/lang/String;Ljava/lang/String;)Ljava/lang/String;"⟩ : MethodName)) hown (mvT hZ (hw _ (List.mem_of_getElem? (i := 48) rfl))) (mvT hZ (hw _ (List.mem_of_getElem? (i := 49) rfl))) (mvT hZ (hw _ (List.mem_of_getElem? (i := 50) rfl))) (mvT hZ (hw _ (List.mem_of_getElem? (i := 51) rfl))) (by decide) (backOf (W := 0) (own_req4 l Z a0 hw [] zc ci ta clt sb_253 tb_253 kb_253 c0 c1 c2 kq sb_261 sb_266 T266.heap n0 Zs276 Q270 Scs hzc Sci Eci Sca Tab Q271 Q272 Q273 Q274 l_c0 u_c0 l_c1 u_c1 l_c2 u_c2 l_kq u_kq (Or.inr (Or.inr (Or.inr kp_kq)))) hZ (hw _ (List.mem_of_getElem? (i := 51) rfl)) (hw _ (List.mem_of_getElem? (i := 50) rfl)) (by decide) (by decide)) (g := (mkF m 154 #[.val (.int pa), .val (.int pb), .val (.int pc_), .val (.int pe), .val (.int pf), .val (.int (4 : Int32)), .val (.int (3 : Int32)), .val (.int c0), .val (.int c1), .val (.int c2), .val (.int kq), .val (.int kq), .val (.ref sb_253), .val (.ref sb_261), .val (.ref sb_266), .unset] [(.ref sb_266), (.ref sb_261), (.ref sb_253)])) rfl (by rw [hml]; rfl) (argsL := [(.ref sb_253), (.ref sb_261), (.ref sb_266)]) (rest := []) (lenOf own_law_pd2 rfl) rfl (by show 2 * 0 + _ ≤ _; exact Nat.le_of_eq rfl) (hb hby at_154) (fun _ _ => ⟨rfl, rfl, (by decide : 7 + 0 ≤ _), (by decide : 22 + 0 ≤ _)⟩)
      dsimp only [Pt.U, Pt.locs, Pt.cells, Pt.slots] at X275 l275 y275 z275 st275 hQ275
      obtain rfl : k275 = 7 := y275
      obtain rfl : n275 = 22 := z275
      obtain ⟨rfl, N275q, R275⟩ := hQ275
      have N275 : Fr n0 L275 := l275 ▸ Fr.app N266 N275q
      refine ownStep (fun _ k => st275 _ k) ?_
      refine ownStep (fun _ k => XS.astore X275.here hx rfl (hb hby at_157) rfl rfl (l' := #[.val (.int pa), .val (.int pb), .val (.int pc_), .val (.int pe), .val (.int pf), .val (.int (4 : Int32)), .val (.int (3 : Int32)), .val (.int c0), .val (.int c1), .val (.int c2), .val (.int kq), .val (.int kq), .val (.ref sb_253), .val (.ref sb_261), .val (.ref sb_266), .val (.ref sb_253)]) rfl k) ?_
      refine ownStep (fun _ k => XS.aload X275.here hx rfl (hb hby at_159) rfl rfl k) ?_
      refine ownStep (fun _ k => XS.ifnullNo X275.here hx rfl (hb hby at_161) rfl k) ?_
      refine ownStep (fun _ k => XS.aload X275.here hx rfl (hb hby at_164) rfl rfl k) ?_
      show ownGo p.tables e below (T275.setTop (mkF m 166 #[.val (.int pa), .val (.int pb), .val (.int pc_), .val (.int pe), .val (.int pf), .val (.int (4 : Int32)), .val (.int (3 : Int32)), .val (.int c0), .val (.int c1), .val (.int c2), .val (.int kq), .val (.int kq), .val (.ref sb_253), .val (.ref sb_261), .val (.ref sb_266), .val (.ref sb_253)] [(.ref sb_253)])) _
      have Zs278 : n0 ≤ T266.heap.size := Nat.le_trans Z0 KP269.1
      obtain ⟨cq277, kq277, q277a, q277b, q277c⟩ := isOf hZ R275 Q271
      obtain ⟨_, _, ⟨T277, L277, k277, n277⟩, -, X277, ⟨Lc277, hQ277, l277, y277, z277⟩, st277⟩ := X275.virtualBack hx (y := (⟨"java/lang/String", "length", "()I"⟩ : MethodName)) (z := (⟨"java/lang/String", "length", "()I"⟩ : MethodName)) hown (mvT hZ (hw _ (List.mem_of_getElem? (i := 96) rfl))) (mvT hZ (hw _ (List.mem_of_getElem? (i := 87) rfl))) (notFace_of_selects (args := #[]) (mvT hZ (hw _ (List.mem_of_getElem? (i := 89) rfl)))) (mvT hZ (hw _ (List.mem_of_getElem? (i := 89) rfl))) (mvT hZ (hw _ (List.mem_of_getElem? (i := 88) rfl))) (by decide) (backOf (W := 0) (own_len4 l Z a0 hw [] zc sb_253 tb_253 kb_253 c0 c1 c2 kq T266.heap n0 Zs278 Q270 Scs hzc Q271 Q272 Q273 Q274) hZ (hw _ (List.mem_of_getElem? (i := 90) rfl)) (hw _ (List.mem_of_getElem? (i := 6) rfl)) (by decide) (by decide)) q277a q277c (g := (mkF m 166 #[.val (.int pa), .val (.int pb), .val (.int pc_), .val (.int pe), .val (.int pf), .val (.int (4 : Int32)), .val (.int (3 : Int32)), .val (.int c0), .val (.int c1), .val (.int c2), .val (.int kq), .val (.int kq), .val (.ref sb_253), .val (.ref sb_261), .val (.ref sb_266), .val (.ref sb_253)] [(.ref sb_253)])) rfl (by rw [hml]; rfl) (Steps.refl _) (argsL := []) (rest := []) (lenOf own_law_pd3 rfl) rfl (by show 2 * 0 + _ ≤ _; exact Nat.le_of_eq rfl) (hb hby at_166) (fun _ _ => ⟨rfl, R275, (by decide : 7 + 0 ≤ _), (by decide : 22 + 0 ≤ _)⟩)
      dsimp only [Pt.U, Pt.locs, Pt.cells, Pt.slots] at X277 l277 y277 z277 st277 hQ277
      obtain rfl : k277 = 7 := y277
      obtain rfl : n277 = 22 := z277
      obtain ⟨rfl, N277q, R277⟩ := hQ277
      have N277 : Fr n0 L277 := l277 ▸ Fr.app N275 N277q
      refine ownStep (fun _ k => st277.trans k) ?_
      refine ownStep (fun _ k => XS.iload X277.here hx rfl (hb hby at_169) rfl  k) ?_
      refine ownStep (fun _ k => XS.icmpNo X277.here hx rfl (hb hby at_171) rfl (teq (by decide : (4 : Int32) = (4 : Int32))).2 k) ?_
      refine ownStep (fun _ k => XS.aload X277.here hx rfl (hb hby at_174) rfl rfl k) ?_
      refine ownStep (fun _ k => XS.aload X277.here hx rfl (hb hby at_176) rfl rfl k) ?_
      show ownGo p.tables e below (T277.setTop (mkF m 178 #[.val (.int pa), .val (.int pb), .val (.int pc_), .val (.int pe), .val (.int pf), .val (.int (4 : Int32)), .val (.int (3 : Int32)), .val (.int c0), .val (.int c1), .val (.int c2), .val (.int kq), .val (.int kq), .val (.ref sb_253), .val (.ref sb_261), .val (.ref sb_266), .val (.ref sb_253)] [(.ref sb_253), (.ref sb_253)])) _
      have Zs280 : n0 ≤ T266.heap.size := Nat.le_trans Z0 KP269.1
      obtain ⟨cq279, kq279, q279a, q279b, q279c⟩ := isOf hZ R277 Q271
      obtain ⟨_, _, ⟨T279, L279, k279, n279⟩, -, X279, ⟨Lc279, hQ279, l279, y279, z279⟩, st279⟩ := X277.virtualBack hx (y := (⟨"java/lang/String", "equals", "(Ljava/lang/Object;)Z"⟩ : MethodName)) (z := (⟨"java/lang/String", "equals", "(Ljava/lang/Object;)Z"⟩ : MethodName)) hown (mvT hZ (hw _ (List.mem_of_getElem? (i := 97) rfl))) (mvT hZ (hw _ (List.mem_of_getElem? (i := 98) rfl))) (notFace_of_selects (args := #[]) (mvT hZ (hw _ (List.mem_of_getElem? (i := 100) rfl)))) (mvT hZ (hw _ (List.mem_of_getElem? (i := 100) rfl))) (mvT hZ (hw _ (List.mem_of_getElem? (i := 99) rfl))) (by decide) (backOf (W := 0) (own_eq l Z a0 hw [] sb_253 T266.heap n0 Zs280 ) hZ (hw _ (List.mem_of_getElem? (i := 101) rfl)) (hw _ (List.mem_of_getElem? (i := 6) rfl)) (by decide) (by decide)) q279a q279c (g := (mkF m 178 #[.val (.int pa), .val (.int pb), .val (.int pc_), .val (.int pe), .val (.int pf), .val (.int (4 : Int32)), .val (.int (3 : Int32)), .val (.int c0), .val (.int c1), .val (.int c2), .val (.int kq), .val (.int kq), .val (.ref sb_253), .val (.ref sb_261), .val (.ref sb_266), .val (.ref sb_253)] [(.ref sb_253), (.ref sb_253)])) rfl (by rw [hml]; rfl) (Steps.refl _) (argsL := [(.ref sb_253)]) (rest := []) (lenOf own_law_pd4 rfl) rfl (by show 2 * 0 + _ ≤ _; exact Nat.le_of_eq rfl) (hb hby at_178) (fun _ _ => ⟨rfl, R277, (by decide : 7 + 0 ≤ _), (by decide : 22 + 0 ≤ _)⟩)
      dsimp only [Pt.U, Pt.locs, Pt.cells, Pt.slots] at X279 l279 y279 z279 st279 hQ279
      obtain rfl : k279 = 7 := y279
      obtain rfl : n279 = 22 := z279
      obtain ⟨rfl, N279q, R279⟩ := hQ279
      have N279 : Fr n0 L279 := l279 ▸ Fr.app N277 N279q
      refine ownStep (fun _ k => st279.trans k) ?_
      refine ownStep (fun _ k => XS.ifNo X279.here hx rfl (hb hby at_181) rfl ((if0 _ _).trans (feq (by decide : ¬ (1 : Int32) = (0 : Int32))).1) k) ?_
      refine ownStep (fun _ k => XS.iconst X279.here hx rfl (hb hby at_184) k) ?_
      refine ownStep (fun _ k => XS.goto X279.here hx rfl (pc0 := 185) (pc' := 189) rfl (hb hby at_185) (by decide) (by decide) k) ?_
      show ownGo p.tables e below (T279.setTop (mkF m 189 #[.val (.int pa), .val (.int pb), .val (.int pc_), .val (.int pe), .val (.int pf), .val (.int (4 : Int32)), .val (.int (3 : Int32)), .val (.int c0), .val (.int c1), .val (.int c2), .val (.int kq), .val (.int kq), .val (.ref sb_253), .val (.ref sb_261), .val (.ref sb_266), .val (.ref sb_253)] [(.int (1 : Int32))])) _
      exact ownRet X279 (v := some (.int (1 : Int32))) Bd.notSynchronized (fun h => by rw [Bd.returns] at h; cases h) (fun _ hr => retN X279 hx (t := .boolean) Bd.returns (by simp) (hb hby at_189) hr) (by rw [R279]; exact ⟨rfl, N279, (own_extOf KP269)⟩) (by decide) (by decide)
set_option maxRecDepth 65536 in
set_option maxHeartbeats 40000000 in
theorem comes_1 {Post : Tables → Env → Array Value → State → Outcome → State → Prop} (hpost : ∀ tb e args s v u, (limb_1_1.after args s (.returned v) u = true ∧ limb_1_2.after args s (.returned v) u = true ∧ True) → FrameEnd s (.returned v) u (Jvm.fieldLocs frame_1_writes args s ++ Jvm.arrayLocs frame_1_arrays args s ++ Jvm.staticLocs frame_1_statics s) 24 128 → Post tb e args s (.returned v) u) :
    ArmFor flags0 classFile x code maxLocals ret World_1 tables_1 room_1 Calls_1 rest_1 Pre_1 Post := by
  intro l hfl _ _ p e ha hc hk s m args below hf hA hF happ hP
  obtain ⟨hcalls, hrest, hpre⟩ := hP
  obtain ⟨-, -, -, hnamed, -, -, -, hat⟩ := (Spec.applies_iff hf).mp happ
  obtain ⟨hg, hn⟩ := and_e (Cond.before_iff.mp (show (Jvm.Cond.and given_1 narrow_1).before args s = true from hpre))
  obtain ⟨g1, g2⟩ := and_e hg
  obtain ⟨g3, g4⟩ := and_e g2
  obtain ⟨g5, g6⟩ := and_e g4
  obtain ⟨g7, g8⟩ := and_e g6
  obtain ⟨g9, g10⟩ := and_e g8
  obtain ⟨w0, w1, w2, w3, w4, rfl⟩ : ∃ w0 w1 w2 w3 w4 : Value, args = #[w0, w1, w2, w3, w4] := by
    have hs : args.size = 5 := by simpa [Cond.value, given_1] using g1
    obtain ⟨L⟩ := args
    match L, hs with
    | [w0, w1, w2, w3, w4], _ => exact ⟨w0, w1, w2, w3, w4, rfl⟩
  have hw := fun d (hd : d ∈ tables_1) => atoms_spec (ws := Jvm.Cond.code x code maxLocals ret :: tables_1) hat d (List.mem_cons_of_mem _ hd)
  have hfit : Fit s := fun {y c} hc i hi => by
    obtain ⟨ha, rfl⟩ := Array.getElem?_eq_some_iff.mp hc
    have q := List.all_eq_true.mp ((Array.all_eq_true_iff_forall_mem.mp hF) _ (Array.getElem_mem ha)) i (List.mem_range.mpr hi)
    simpa [Array.getElem?_eq_getElem hi] using q
  obtain ⟨hsets, hown0⟩ := atoms_of _ (rest_1_c_eq ▸ (show rest_1_c.before _ s = true from hrest))
  have hr0 := Cond.before_iff.mp hown0
  obtain ⟨i0, ei0⟩ := is_v g3
  obtain rfl : w0 = (.int i0) := Option.some.inj ei0
  obtain ⟨i1, ei1⟩ := is_v g5
  obtain rfl : w1 = (.int i1) := Option.some.inj ei1
  obtain ⟨i2, ei2⟩ := is_v g7
  obtain rfl : w2 = (.int i2) := Option.some.inj ei2
  obtain ⟨i3, ei3⟩ := is_v g9
  obtain rfl : w3 = (.int i3) := Option.some.inj ei3
  obtain ⟨i4, ei4⟩ := is_v g10
  obtain rfl : w4 = (.int i4) := Option.some.inj ei4
  obtain ⟨zc, ev_cs⟩ := is_v (Cond.before_iff.mp (hsets _ (List.mem_of_getElem? (i := 1) rfl)))
  have S_cs := Sta.start ev_cs (Or.inl (hsets _ (List.mem_of_getElem? (i := 0) rfl)))
  have hzc : ¬ zc = (0 : Int32) := gotF (Cond.eq_ints ev_cs rfl) (not_v (Cond.before_iff.mp (hsets _ (List.mem_of_getElem? (i := 2) rfl))))
  obtain ⟨ci, ev_ci⟩ := exa_v (Cond.before_iff.mp (hsets _ (List.mem_of_getElem? (i := 11) rfl)))
  have E_ci := Exa.start ev_ci (Cond.before_iff.mp (hsets _ (List.mem_of_getElem? (i := 11) rfl)))
  have S_ci := Sta.start ev_ci (Or.inl (hsets _ (List.mem_of_getElem? (i := 10) rfl)))
  obtain ⟨ta, ev_ta⟩ := arr_v (Cond.before_iff.mp (hsets _ (List.mem_of_getElem? (i := 14) rfl)))
  have S_ta := Sta.start ev_ta (Or.inl (hsets _ (List.mem_of_getElem? (i := 13) rfl)))
  obtain ⟨clt, A_ta⟩ := Arr.start ev_ta (Cond.before_iff.mp (hsets _ (List.mem_of_getElem? (i := 14) rfl)))
  have L_ta := own_len0 (own_eqI (Cond.before_iff.mp (hsets _ (List.mem_of_getElem? (i := 16) rfl)))) ev_ta A_ta
  obtain ⟨nt, hnt, Sc_ta⟩ := Scr.start hfit A_ta L_ta.1
  obtain rfl : nt = (256 : Int32) := hnt.trans L_ta.2
  have K33 : ¬ (atv clt (33 : Int32) &&& (28672 : Int32)) = (16384 : Int32) := by rw [atv_of (elem_in (own_eqI (Cond.before_iff.mp (hsets _ (List.mem_of_getElem? (i := 50) rfl)))) ev_ta rfl A_ta.1).2]; decide
  have K34 : ¬ (atv clt (34 : Int32) &&& (28672 : Int32)) = (16384 : Int32) := by rw [atv_of (elem_in (own_eqI (Cond.before_iff.mp (hsets _ (List.mem_of_getElem? (i := 51) rfl)))) ev_ta rfl A_ta.1).2]; decide
  have K35 : ¬ (atv clt (35 : Int32) &&& (28672 : Int32)) = (16384 : Int32) := by rw [atv_of (elem_in (own_eqI (Cond.before_iff.mp (hsets _ (List.mem_of_getElem? (i := 52) rfl)))) ev_ta rfl A_ta.1).2]; decide
  have K36 : ¬ (atv clt (36 : Int32) &&& (28672 : Int32)) = (16384 : Int32) := by rw [atv_of (elem_in (own_eqI (Cond.before_iff.mp (hsets _ (List.mem_of_getElem? (i := 53) rfl)))) ev_ta rfl A_ta.1).2]; decide
  have K37 : ¬ (atv clt (37 : Int32) &&& (28672 : Int32)) = (16384 : Int32) := by rw [atv_of (elem_in (own_eqI (Cond.before_iff.mp (hsets _ (List.mem_of_getElem? (i := 54) rfl)))) ev_ta rfl A_ta.1).2]; decide
  have K38 : ¬ (atv clt (38 : Int32) &&& (28672 : Int32)) = (16384 : Int32) := by rw [atv_of (elem_in (own_eqI (Cond.before_iff.mp (hsets _ (List.mem_of_getElem? (i := 55) rfl)))) ev_ta rfl A_ta.1).2]; decide
  have K39 : ¬ (atv clt (39 : Int32) &&& (28672 : Int32)) = (16384 : Int32) := by rw [atv_of (elem_in (own_eqI (Cond.before_iff.mp (hsets _ (List.mem_of_getElem? (i := 56) rfl)))) ev_ta rfl A_ta.1).2]; decide
  have K40 : ¬ (atv clt (40 : Int32) &&& (28672 : Int32)) = (16384 : Int32) := by rw [atv_of (elem_in (own_eqI (Cond.before_iff.mp (hsets _ (List.mem_of_getElem? (i := 57) rfl)))) ev_ta rfl A_ta.1).2]; decide
  have K41 : ¬ (atv clt (41 : Int32) &&& (28672 : Int32)) = (16384 : Int32) := by rw [atv_of (elem_in (own_eqI (Cond.before_iff.mp (hsets _ (List.mem_of_getElem? (i := 58) rfl)))) ev_ta rfl A_ta.1).2]; decide
  have K42 : ¬ (atv clt (42 : Int32) &&& (28672 : Int32)) = (16384 : Int32) := by rw [atv_of (elem_in (own_eqI (Cond.before_iff.mp (hsets _ (List.mem_of_getElem? (i := 59) rfl)))) ev_ta rfl A_ta.1).2]; decide
  have K43 : ¬ (atv clt (43 : Int32) &&& (28672 : Int32)) = (16384 : Int32) := by rw [atv_of (elem_in (own_eqI (Cond.before_iff.mp (hsets _ (List.mem_of_getElem? (i := 60) rfl)))) ev_ta rfl A_ta.1).2]; decide
  have K44 : ¬ (atv clt (44 : Int32) &&& (28672 : Int32)) = (16384 : Int32) := by rw [atv_of (elem_in (own_eqI (Cond.before_iff.mp (hsets _ (List.mem_of_getElem? (i := 61) rfl)))) ev_ta rfl A_ta.1).2]; decide
  have K45 : ¬ (atv clt (45 : Int32) &&& (28672 : Int32)) = (16384 : Int32) := by rw [atv_of (elem_in (own_eqI (Cond.before_iff.mp (hsets _ (List.mem_of_getElem? (i := 62) rfl)))) ev_ta rfl A_ta.1).2]; decide
  have K46 : ¬ (atv clt (46 : Int32) &&& (28672 : Int32)) = (16384 : Int32) := by rw [atv_of (elem_in (own_eqI (Cond.before_iff.mp (hsets _ (List.mem_of_getElem? (i := 63) rfl)))) ev_ta rfl A_ta.1).2]; decide
  have K47 : ¬ (atv clt (47 : Int32) &&& (28672 : Int32)) = (16384 : Int32) := by rw [atv_of (elem_in (own_eqI (Cond.before_iff.mp (hsets _ (List.mem_of_getElem? (i := 64) rfl)))) ev_ta rfl A_ta.1).2]; decide
  have K48 : ¬ (atv clt (48 : Int32) &&& (28672 : Int32)) = (16384 : Int32) := by rw [atv_of (elem_in (own_eqI (Cond.before_iff.mp (hsets _ (List.mem_of_getElem? (i := 65) rfl)))) ev_ta rfl A_ta.1).2]; decide
  have K49 : ¬ (atv clt (49 : Int32) &&& (28672 : Int32)) = (16384 : Int32) := by rw [atv_of (elem_in (own_eqI (Cond.before_iff.mp (hsets _ (List.mem_of_getElem? (i := 66) rfl)))) ev_ta rfl A_ta.1).2]; decide
  have K50 : ¬ (atv clt (50 : Int32) &&& (28672 : Int32)) = (16384 : Int32) := by rw [atv_of (elem_in (own_eqI (Cond.before_iff.mp (hsets _ (List.mem_of_getElem? (i := 67) rfl)))) ev_ta rfl A_ta.1).2]; decide
  have K51 : ¬ (atv clt (51 : Int32) &&& (28672 : Int32)) = (16384 : Int32) := by rw [atv_of (elem_in (own_eqI (Cond.before_iff.mp (hsets _ (List.mem_of_getElem? (i := 68) rfl)))) ev_ta rfl A_ta.1).2]; decide
  have K52 : ¬ (atv clt (52 : Int32) &&& (28672 : Int32)) = (16384 : Int32) := by rw [atv_of (elem_in (own_eqI (Cond.before_iff.mp (hsets _ (List.mem_of_getElem? (i := 69) rfl)))) ev_ta rfl A_ta.1).2]; decide
  have K53 : ¬ (atv clt (53 : Int32) &&& (28672 : Int32)) = (16384 : Int32) := by rw [atv_of (elem_in (own_eqI (Cond.before_iff.mp (hsets _ (List.mem_of_getElem? (i := 70) rfl)))) ev_ta rfl A_ta.1).2]; decide
  have K54 : ¬ (atv clt (54 : Int32) &&& (28672 : Int32)) = (16384 : Int32) := by rw [atv_of (elem_in (own_eqI (Cond.before_iff.mp (hsets _ (List.mem_of_getElem? (i := 71) rfl)))) ev_ta rfl A_ta.1).2]; decide
  have K55 : ¬ (atv clt (55 : Int32) &&& (28672 : Int32)) = (16384 : Int32) := by rw [atv_of (elem_in (own_eqI (Cond.before_iff.mp (hsets _ (List.mem_of_getElem? (i := 72) rfl)))) ev_ta rfl A_ta.1).2]; decide
  have K56 : ¬ (atv clt (56 : Int32) &&& (28672 : Int32)) = (16384 : Int32) := by rw [atv_of (elem_in (own_eqI (Cond.before_iff.mp (hsets _ (List.mem_of_getElem? (i := 73) rfl)))) ev_ta rfl A_ta.1).2]; decide
  have K57 : ¬ (atv clt (57 : Int32) &&& (28672 : Int32)) = (16384 : Int32) := by rw [atv_of (elem_in (own_eqI (Cond.before_iff.mp (hsets _ (List.mem_of_getElem? (i := 74) rfl)))) ev_ta rfl A_ta.1).2]; decide
  have K58 : ¬ (atv clt (58 : Int32) &&& (28672 : Int32)) = (16384 : Int32) := by rw [atv_of (elem_in (own_eqI (Cond.before_iff.mp (hsets _ (List.mem_of_getElem? (i := 75) rfl)))) ev_ta rfl A_ta.1).2]; decide
  have K59 : ¬ (atv clt (59 : Int32) &&& (28672 : Int32)) = (16384 : Int32) := by rw [atv_of (elem_in (own_eqI (Cond.before_iff.mp (hsets _ (List.mem_of_getElem? (i := 76) rfl)))) ev_ta rfl A_ta.1).2]; decide
  have K60 : ¬ (atv clt (60 : Int32) &&& (28672 : Int32)) = (16384 : Int32) := by rw [atv_of (elem_in (own_eqI (Cond.before_iff.mp (hsets _ (List.mem_of_getElem? (i := 77) rfl)))) ev_ta rfl A_ta.1).2]; decide
  have K61 : ¬ (atv clt (61 : Int32) &&& (28672 : Int32)) = (16384 : Int32) := by rw [atv_of (elem_in (own_eqI (Cond.before_iff.mp (hsets _ (List.mem_of_getElem? (i := 78) rfl)))) ev_ta rfl A_ta.1).2]; decide
  have K62 : ¬ (atv clt (62 : Int32) &&& (28672 : Int32)) = (16384 : Int32) := by rw [atv_of (elem_in (own_eqI (Cond.before_iff.mp (hsets _ (List.mem_of_getElem? (i := 79) rfl)))) ev_ta rfl A_ta.1).2]; decide
  have K63 : ¬ (atv clt (63 : Int32) &&& (28672 : Int32)) = (16384 : Int32) := by rw [atv_of (elem_in (own_eqI (Cond.before_iff.mp (hsets _ (List.mem_of_getElem? (i := 80) rfl)))) ev_ta rfl A_ta.1).2]; decide
  have K64 : ¬ (atv clt (64 : Int32) &&& (28672 : Int32)) = (16384 : Int32) := by rw [atv_of (elem_in (own_eqI (Cond.before_iff.mp (hsets _ (List.mem_of_getElem? (i := 81) rfl)))) ev_ta rfl A_ta.1).2]; decide
  have K65 : ¬ (atv clt (65 : Int32) &&& (28672 : Int32)) = (16384 : Int32) := by rw [atv_of (elem_in (own_eqI (Cond.before_iff.mp (hsets _ (List.mem_of_getElem? (i := 82) rfl)))) ev_ta rfl A_ta.1).2]; decide
  have K66 : ¬ (atv clt (66 : Int32) &&& (28672 : Int32)) = (16384 : Int32) := by rw [atv_of (elem_in (own_eqI (Cond.before_iff.mp (hsets _ (List.mem_of_getElem? (i := 83) rfl)))) ev_ta rfl A_ta.1).2]; decide
  have K67 : ¬ (atv clt (67 : Int32) &&& (28672 : Int32)) = (16384 : Int32) := by rw [atv_of (elem_in (own_eqI (Cond.before_iff.mp (hsets _ (List.mem_of_getElem? (i := 84) rfl)))) ev_ta rfl A_ta.1).2]; decide
  have K68 : ¬ (atv clt (68 : Int32) &&& (28672 : Int32)) = (16384 : Int32) := by rw [atv_of (elem_in (own_eqI (Cond.before_iff.mp (hsets _ (List.mem_of_getElem? (i := 85) rfl)))) ev_ta rfl A_ta.1).2]; decide
  have K69 : ¬ (atv clt (69 : Int32) &&& (28672 : Int32)) = (16384 : Int32) := by rw [atv_of (elem_in (own_eqI (Cond.before_iff.mp (hsets _ (List.mem_of_getElem? (i := 86) rfl)))) ev_ta rfl A_ta.1).2]; decide
  have K70 : ¬ (atv clt (70 : Int32) &&& (28672 : Int32)) = (16384 : Int32) := by rw [atv_of (elem_in (own_eqI (Cond.before_iff.mp (hsets _ (List.mem_of_getElem? (i := 87) rfl)))) ev_ta rfl A_ta.1).2]; decide
  have K71 : ¬ (atv clt (71 : Int32) &&& (28672 : Int32)) = (16384 : Int32) := by rw [atv_of (elem_in (own_eqI (Cond.before_iff.mp (hsets _ (List.mem_of_getElem? (i := 88) rfl)))) ev_ta rfl A_ta.1).2]; decide
  have K72 : ¬ (atv clt (72 : Int32) &&& (28672 : Int32)) = (16384 : Int32) := by rw [atv_of (elem_in (own_eqI (Cond.before_iff.mp (hsets _ (List.mem_of_getElem? (i := 89) rfl)))) ev_ta rfl A_ta.1).2]; decide
  have K73 : ¬ (atv clt (73 : Int32) &&& (28672 : Int32)) = (16384 : Int32) := by rw [atv_of (elem_in (own_eqI (Cond.before_iff.mp (hsets _ (List.mem_of_getElem? (i := 90) rfl)))) ev_ta rfl A_ta.1).2]; decide
  have K74 : ¬ (atv clt (74 : Int32) &&& (28672 : Int32)) = (16384 : Int32) := by rw [atv_of (elem_in (own_eqI (Cond.before_iff.mp (hsets _ (List.mem_of_getElem? (i := 91) rfl)))) ev_ta rfl A_ta.1).2]; decide
  have K75 : ¬ (atv clt (75 : Int32) &&& (28672 : Int32)) = (16384 : Int32) := by rw [atv_of (elem_in (own_eqI (Cond.before_iff.mp (hsets _ (List.mem_of_getElem? (i := 92) rfl)))) ev_ta rfl A_ta.1).2]; decide
  have K76 : ¬ (atv clt (76 : Int32) &&& (28672 : Int32)) = (16384 : Int32) := by rw [atv_of (elem_in (own_eqI (Cond.before_iff.mp (hsets _ (List.mem_of_getElem? (i := 93) rfl)))) ev_ta rfl A_ta.1).2]; decide
  have K77 : ¬ (atv clt (77 : Int32) &&& (28672 : Int32)) = (16384 : Int32) := by rw [atv_of (elem_in (own_eqI (Cond.before_iff.mp (hsets _ (List.mem_of_getElem? (i := 94) rfl)))) ev_ta rfl A_ta.1).2]; decide
  have K78 : ¬ (atv clt (78 : Int32) &&& (28672 : Int32)) = (16384 : Int32) := by rw [atv_of (elem_in (own_eqI (Cond.before_iff.mp (hsets _ (List.mem_of_getElem? (i := 95) rfl)))) ev_ta rfl A_ta.1).2]; decide
  have K79 : ¬ (atv clt (79 : Int32) &&& (28672 : Int32)) = (16384 : Int32) := by rw [atv_of (elem_in (own_eqI (Cond.before_iff.mp (hsets _ (List.mem_of_getElem? (i := 96) rfl)))) ev_ta rfl A_ta.1).2]; decide
  have K80 : ¬ (atv clt (80 : Int32) &&& (28672 : Int32)) = (16384 : Int32) := by rw [atv_of (elem_in (own_eqI (Cond.before_iff.mp (hsets _ (List.mem_of_getElem? (i := 97) rfl)))) ev_ta rfl A_ta.1).2]; decide
  have K81 : ¬ (atv clt (81 : Int32) &&& (28672 : Int32)) = (16384 : Int32) := by rw [atv_of (elem_in (own_eqI (Cond.before_iff.mp (hsets _ (List.mem_of_getElem? (i := 98) rfl)))) ev_ta rfl A_ta.1).2]; decide
  have K82 : ¬ (atv clt (82 : Int32) &&& (28672 : Int32)) = (16384 : Int32) := by rw [atv_of (elem_in (own_eqI (Cond.before_iff.mp (hsets _ (List.mem_of_getElem? (i := 99) rfl)))) ev_ta rfl A_ta.1).2]; decide
  have K83 : ¬ (atv clt (83 : Int32) &&& (28672 : Int32)) = (16384 : Int32) := by rw [atv_of (elem_in (own_eqI (Cond.before_iff.mp (hsets _ (List.mem_of_getElem? (i := 100) rfl)))) ev_ta rfl A_ta.1).2]; decide
  have K84 : ¬ (atv clt (84 : Int32) &&& (28672 : Int32)) = (16384 : Int32) := by rw [atv_of (elem_in (own_eqI (Cond.before_iff.mp (hsets _ (List.mem_of_getElem? (i := 101) rfl)))) ev_ta rfl A_ta.1).2]; decide
  have K85 : ¬ (atv clt (85 : Int32) &&& (28672 : Int32)) = (16384 : Int32) := by rw [atv_of (elem_in (own_eqI (Cond.before_iff.mp (hsets _ (List.mem_of_getElem? (i := 102) rfl)))) ev_ta rfl A_ta.1).2]; decide
  have K86 : ¬ (atv clt (86 : Int32) &&& (28672 : Int32)) = (16384 : Int32) := by rw [atv_of (elem_in (own_eqI (Cond.before_iff.mp (hsets _ (List.mem_of_getElem? (i := 103) rfl)))) ev_ta rfl A_ta.1).2]; decide
  have K87 : ¬ (atv clt (87 : Int32) &&& (28672 : Int32)) = (16384 : Int32) := by rw [atv_of (elem_in (own_eqI (Cond.before_iff.mp (hsets _ (List.mem_of_getElem? (i := 104) rfl)))) ev_ta rfl A_ta.1).2]; decide
  have K88 : ¬ (atv clt (88 : Int32) &&& (28672 : Int32)) = (16384 : Int32) := by rw [atv_of (elem_in (own_eqI (Cond.before_iff.mp (hsets _ (List.mem_of_getElem? (i := 105) rfl)))) ev_ta rfl A_ta.1).2]; decide
  have K89 : ¬ (atv clt (89 : Int32) &&& (28672 : Int32)) = (16384 : Int32) := by rw [atv_of (elem_in (own_eqI (Cond.before_iff.mp (hsets _ (List.mem_of_getElem? (i := 106) rfl)))) ev_ta rfl A_ta.1).2]; decide
  have K90 : ¬ (atv clt (90 : Int32) &&& (28672 : Int32)) = (16384 : Int32) := by rw [atv_of (elem_in (own_eqI (Cond.before_iff.mp (hsets _ (List.mem_of_getElem? (i := 107) rfl)))) ev_ta rfl A_ta.1).2]; decide
  have K91 : ¬ (atv clt (91 : Int32) &&& (28672 : Int32)) = (16384 : Int32) := by rw [atv_of (elem_in (own_eqI (Cond.before_iff.mp (hsets _ (List.mem_of_getElem? (i := 108) rfl)))) ev_ta rfl A_ta.1).2]; decide
  have K92 : ¬ (atv clt (92 : Int32) &&& (28672 : Int32)) = (16384 : Int32) := by rw [atv_of (elem_in (own_eqI (Cond.before_iff.mp (hsets _ (List.mem_of_getElem? (i := 109) rfl)))) ev_ta rfl A_ta.1).2]; decide
  have K93 : ¬ (atv clt (93 : Int32) &&& (28672 : Int32)) = (16384 : Int32) := by rw [atv_of (elem_in (own_eqI (Cond.before_iff.mp (hsets _ (List.mem_of_getElem? (i := 110) rfl)))) ev_ta rfl A_ta.1).2]; decide
  have K94 : ¬ (atv clt (94 : Int32) &&& (28672 : Int32)) = (16384 : Int32) := by rw [atv_of (elem_in (own_eqI (Cond.before_iff.mp (hsets _ (List.mem_of_getElem? (i := 111) rfl)))) ev_ta rfl A_ta.1).2]; decide
  have K95 : ¬ (atv clt (95 : Int32) &&& (28672 : Int32)) = (16384 : Int32) := by rw [atv_of (elem_in (own_eqI (Cond.before_iff.mp (hsets _ (List.mem_of_getElem? (i := 112) rfl)))) ev_ta rfl A_ta.1).2]; decide
  have K96 : ¬ (atv clt (96 : Int32) &&& (28672 : Int32)) = (16384 : Int32) := by rw [atv_of (elem_in (own_eqI (Cond.before_iff.mp (hsets _ (List.mem_of_getElem? (i := 113) rfl)))) ev_ta rfl A_ta.1).2]; decide
  have K97 : ¬ (atv clt (97 : Int32) &&& (28672 : Int32)) = (16384 : Int32) := by rw [atv_of (elem_in (own_eqI (Cond.before_iff.mp (hsets _ (List.mem_of_getElem? (i := 114) rfl)))) ev_ta rfl A_ta.1).2]; decide
  have K98 : ¬ (atv clt (98 : Int32) &&& (28672 : Int32)) = (16384 : Int32) := by rw [atv_of (elem_in (own_eqI (Cond.before_iff.mp (hsets _ (List.mem_of_getElem? (i := 115) rfl)))) ev_ta rfl A_ta.1).2]; decide
  have K99 : ¬ (atv clt (99 : Int32) &&& (28672 : Int32)) = (16384 : Int32) := by rw [atv_of (elem_in (own_eqI (Cond.before_iff.mp (hsets _ (List.mem_of_getElem? (i := 116) rfl)))) ev_ta rfl A_ta.1).2]; decide
  have K100 : ¬ (atv clt (100 : Int32) &&& (28672 : Int32)) = (16384 : Int32) := by rw [atv_of (elem_in (own_eqI (Cond.before_iff.mp (hsets _ (List.mem_of_getElem? (i := 117) rfl)))) ev_ta rfl A_ta.1).2]; decide
  have K101 : ¬ (atv clt (101 : Int32) &&& (28672 : Int32)) = (16384 : Int32) := by rw [atv_of (elem_in (own_eqI (Cond.before_iff.mp (hsets _ (List.mem_of_getElem? (i := 118) rfl)))) ev_ta rfl A_ta.1).2]; decide
  have K102 : ¬ (atv clt (102 : Int32) &&& (28672 : Int32)) = (16384 : Int32) := by rw [atv_of (elem_in (own_eqI (Cond.before_iff.mp (hsets _ (List.mem_of_getElem? (i := 119) rfl)))) ev_ta rfl A_ta.1).2]; decide
  have K103 : ¬ (atv clt (103 : Int32) &&& (28672 : Int32)) = (16384 : Int32) := by rw [atv_of (elem_in (own_eqI (Cond.before_iff.mp (hsets _ (List.mem_of_getElem? (i := 120) rfl)))) ev_ta rfl A_ta.1).2]; decide
  have K104 : ¬ (atv clt (104 : Int32) &&& (28672 : Int32)) = (16384 : Int32) := by rw [atv_of (elem_in (own_eqI (Cond.before_iff.mp (hsets _ (List.mem_of_getElem? (i := 121) rfl)))) ev_ta rfl A_ta.1).2]; decide
  have K105 : ¬ (atv clt (105 : Int32) &&& (28672 : Int32)) = (16384 : Int32) := by rw [atv_of (elem_in (own_eqI (Cond.before_iff.mp (hsets _ (List.mem_of_getElem? (i := 122) rfl)))) ev_ta rfl A_ta.1).2]; decide
  have K106 : ¬ (atv clt (106 : Int32) &&& (28672 : Int32)) = (16384 : Int32) := by rw [atv_of (elem_in (own_eqI (Cond.before_iff.mp (hsets _ (List.mem_of_getElem? (i := 123) rfl)))) ev_ta rfl A_ta.1).2]; decide
  have K107 : ¬ (atv clt (107 : Int32) &&& (28672 : Int32)) = (16384 : Int32) := by rw [atv_of (elem_in (own_eqI (Cond.before_iff.mp (hsets _ (List.mem_of_getElem? (i := 124) rfl)))) ev_ta rfl A_ta.1).2]; decide
  have K108 : ¬ (atv clt (108 : Int32) &&& (28672 : Int32)) = (16384 : Int32) := by rw [atv_of (elem_in (own_eqI (Cond.before_iff.mp (hsets _ (List.mem_of_getElem? (i := 125) rfl)))) ev_ta rfl A_ta.1).2]; decide
  have K109 : ¬ (atv clt (109 : Int32) &&& (28672 : Int32)) = (16384 : Int32) := by rw [atv_of (elem_in (own_eqI (Cond.before_iff.mp (hsets _ (List.mem_of_getElem? (i := 126) rfl)))) ev_ta rfl A_ta.1).2]; decide
  have K110 : ¬ (atv clt (110 : Int32) &&& (28672 : Int32)) = (16384 : Int32) := by rw [atv_of (elem_in (own_eqI (Cond.before_iff.mp (hsets _ (List.mem_of_getElem? (i := 127) rfl)))) ev_ta rfl A_ta.1).2]; decide
  have K111 : ¬ (atv clt (111 : Int32) &&& (28672 : Int32)) = (16384 : Int32) := by rw [atv_of (elem_in (own_eqI (Cond.before_iff.mp (hsets _ (List.mem_of_getElem? (i := 128) rfl)))) ev_ta rfl A_ta.1).2]; decide
  have K112 : ¬ (atv clt (112 : Int32) &&& (28672 : Int32)) = (16384 : Int32) := by rw [atv_of (elem_in (own_eqI (Cond.before_iff.mp (hsets _ (List.mem_of_getElem? (i := 129) rfl)))) ev_ta rfl A_ta.1).2]; decide
  have K113 : ¬ (atv clt (113 : Int32) &&& (28672 : Int32)) = (16384 : Int32) := by rw [atv_of (elem_in (own_eqI (Cond.before_iff.mp (hsets _ (List.mem_of_getElem? (i := 130) rfl)))) ev_ta rfl A_ta.1).2]; decide
  have K114 : ¬ (atv clt (114 : Int32) &&& (28672 : Int32)) = (16384 : Int32) := by rw [atv_of (elem_in (own_eqI (Cond.before_iff.mp (hsets _ (List.mem_of_getElem? (i := 131) rfl)))) ev_ta rfl A_ta.1).2]; decide
  have K115 : ¬ (atv clt (115 : Int32) &&& (28672 : Int32)) = (16384 : Int32) := by rw [atv_of (elem_in (own_eqI (Cond.before_iff.mp (hsets _ (List.mem_of_getElem? (i := 132) rfl)))) ev_ta rfl A_ta.1).2]; decide
  have K116 : ¬ (atv clt (116 : Int32) &&& (28672 : Int32)) = (16384 : Int32) := by rw [atv_of (elem_in (own_eqI (Cond.before_iff.mp (hsets _ (List.mem_of_getElem? (i := 133) rfl)))) ev_ta rfl A_ta.1).2]; decide
  have K117 : ¬ (atv clt (117 : Int32) &&& (28672 : Int32)) = (16384 : Int32) := by rw [atv_of (elem_in (own_eqI (Cond.before_iff.mp (hsets _ (List.mem_of_getElem? (i := 134) rfl)))) ev_ta rfl A_ta.1).2]; decide
  have K118 : ¬ (atv clt (118 : Int32) &&& (28672 : Int32)) = (16384 : Int32) := by rw [atv_of (elem_in (own_eqI (Cond.before_iff.mp (hsets _ (List.mem_of_getElem? (i := 135) rfl)))) ev_ta rfl A_ta.1).2]; decide
  have K119 : ¬ (atv clt (119 : Int32) &&& (28672 : Int32)) = (16384 : Int32) := by rw [atv_of (elem_in (own_eqI (Cond.before_iff.mp (hsets _ (List.mem_of_getElem? (i := 136) rfl)))) ev_ta rfl A_ta.1).2]; decide
  have K120 : ¬ (atv clt (120 : Int32) &&& (28672 : Int32)) = (16384 : Int32) := by rw [atv_of (elem_in (own_eqI (Cond.before_iff.mp (hsets _ (List.mem_of_getElem? (i := 137) rfl)))) ev_ta rfl A_ta.1).2]; decide
  have K121 : ¬ (atv clt (121 : Int32) &&& (28672 : Int32)) = (16384 : Int32) := by rw [atv_of (elem_in (own_eqI (Cond.before_iff.mp (hsets _ (List.mem_of_getElem? (i := 138) rfl)))) ev_ta rfl A_ta.1).2]; decide
  have K122 : ¬ (atv clt (122 : Int32) &&& (28672 : Int32)) = (16384 : Int32) := by rw [atv_of (elem_in (own_eqI (Cond.before_iff.mp (hsets _ (List.mem_of_getElem? (i := 139) rfl)))) ev_ta rfl A_ta.1).2]; decide
  have K123 : ¬ (atv clt (123 : Int32) &&& (28672 : Int32)) = (16384 : Int32) := by rw [atv_of (elem_in (own_eqI (Cond.before_iff.mp (hsets _ (List.mem_of_getElem? (i := 140) rfl)))) ev_ta rfl A_ta.1).2]; decide
  have K124 : ¬ (atv clt (124 : Int32) &&& (28672 : Int32)) = (16384 : Int32) := by rw [atv_of (elem_in (own_eqI (Cond.before_iff.mp (hsets _ (List.mem_of_getElem? (i := 141) rfl)))) ev_ta rfl A_ta.1).2]; decide
  have K125 : ¬ (atv clt (125 : Int32) &&& (28672 : Int32)) = (16384 : Int32) := by rw [atv_of (elem_in (own_eqI (Cond.before_iff.mp (hsets _ (List.mem_of_getElem? (i := 142) rfl)))) ev_ta rfl A_ta.1).2]; decide
  have K126 : ¬ (atv clt (126 : Int32) &&& (28672 : Int32)) = (16384 : Int32) := by rw [atv_of (elem_in (own_eqI (Cond.before_iff.mp (hsets _ (List.mem_of_getElem? (i := 143) rfl)))) ev_ta rfl A_ta.1).2]; decide
  have R127 := own_last (P := fun x => ¬ (atv clt x &&& (28672 : Int32)) = (16384 : Int32))
  have R126 := own_step (P := fun x => ¬ (atv clt x &&& (28672 : Int32)) = (16384 : Int32)) (a := (126 : Int32)) (b := (127 : Int32)) (by decide) K126 R127
  have R125 := own_step (P := fun x => ¬ (atv clt x &&& (28672 : Int32)) = (16384 : Int32)) (a := (125 : Int32)) (b := (126 : Int32)) (by decide) K125 R126
  have R124 := own_step (P := fun x => ¬ (atv clt x &&& (28672 : Int32)) = (16384 : Int32)) (a := (124 : Int32)) (b := (125 : Int32)) (by decide) K124 R125
  have R123 := own_step (P := fun x => ¬ (atv clt x &&& (28672 : Int32)) = (16384 : Int32)) (a := (123 : Int32)) (b := (124 : Int32)) (by decide) K123 R124
  have R122 := own_step (P := fun x => ¬ (atv clt x &&& (28672 : Int32)) = (16384 : Int32)) (a := (122 : Int32)) (b := (123 : Int32)) (by decide) K122 R123
  have R121 := own_step (P := fun x => ¬ (atv clt x &&& (28672 : Int32)) = (16384 : Int32)) (a := (121 : Int32)) (b := (122 : Int32)) (by decide) K121 R122
  have R120 := own_step (P := fun x => ¬ (atv clt x &&& (28672 : Int32)) = (16384 : Int32)) (a := (120 : Int32)) (b := (121 : Int32)) (by decide) K120 R121
  have R119 := own_step (P := fun x => ¬ (atv clt x &&& (28672 : Int32)) = (16384 : Int32)) (a := (119 : Int32)) (b := (120 : Int32)) (by decide) K119 R120
  have R118 := own_step (P := fun x => ¬ (atv clt x &&& (28672 : Int32)) = (16384 : Int32)) (a := (118 : Int32)) (b := (119 : Int32)) (by decide) K118 R119
  have R117 := own_step (P := fun x => ¬ (atv clt x &&& (28672 : Int32)) = (16384 : Int32)) (a := (117 : Int32)) (b := (118 : Int32)) (by decide) K117 R118
  have R116 := own_step (P := fun x => ¬ (atv clt x &&& (28672 : Int32)) = (16384 : Int32)) (a := (116 : Int32)) (b := (117 : Int32)) (by decide) K116 R117
  have R115 := own_step (P := fun x => ¬ (atv clt x &&& (28672 : Int32)) = (16384 : Int32)) (a := (115 : Int32)) (b := (116 : Int32)) (by decide) K115 R116
  have R114 := own_step (P := fun x => ¬ (atv clt x &&& (28672 : Int32)) = (16384 : Int32)) (a := (114 : Int32)) (b := (115 : Int32)) (by decide) K114 R115
  have R113 := own_step (P := fun x => ¬ (atv clt x &&& (28672 : Int32)) = (16384 : Int32)) (a := (113 : Int32)) (b := (114 : Int32)) (by decide) K113 R114
  have R112 := own_step (P := fun x => ¬ (atv clt x &&& (28672 : Int32)) = (16384 : Int32)) (a := (112 : Int32)) (b := (113 : Int32)) (by decide) K112 R113
  have R111 := own_step (P := fun x => ¬ (atv clt x &&& (28672 : Int32)) = (16384 : Int32)) (a := (111 : Int32)) (b := (112 : Int32)) (by decide) K111 R112
  have R110 := own_step (P := fun x => ¬ (atv clt x &&& (28672 : Int32)) = (16384 : Int32)) (a := (110 : Int32)) (b := (111 : Int32)) (by decide) K110 R111
  have R109 := own_step (P := fun x => ¬ (atv clt x &&& (28672 : Int32)) = (16384 : Int32)) (a := (109 : Int32)) (b := (110 : Int32)) (by decide) K109 R110
  have R108 := own_step (P := fun x => ¬ (atv clt x &&& (28672 : Int32)) = (16384 : Int32)) (a := (108 : Int32)) (b := (109 : Int32)) (by decide) K108 R109
  have R107 := own_step (P := fun x => ¬ (atv clt x &&& (28672 : Int32)) = (16384 : Int32)) (a := (107 : Int32)) (b := (108 : Int32)) (by decide) K107 R108
  have R106 := own_step (P := fun x => ¬ (atv clt x &&& (28672 : Int32)) = (16384 : Int32)) (a := (106 : Int32)) (b := (107 : Int32)) (by decide) K106 R107
  have R105 := own_step (P := fun x => ¬ (atv clt x &&& (28672 : Int32)) = (16384 : Int32)) (a := (105 : Int32)) (b := (106 : Int32)) (by decide) K105 R106
  have R104 := own_step (P := fun x => ¬ (atv clt x &&& (28672 : Int32)) = (16384 : Int32)) (a := (104 : Int32)) (b := (105 : Int32)) (by decide) K104 R105
  have R103 := own_step (P := fun x => ¬ (atv clt x &&& (28672 : Int32)) = (16384 : Int32)) (a := (103 : Int32)) (b := (104 : Int32)) (by decide) K103 R104
  have R102 := own_step (P := fun x => ¬ (atv clt x &&& (28672 : Int32)) = (16384 : Int32)) (a := (102 : Int32)) (b := (103 : Int32)) (by decide) K102 R103
  have R101 := own_step (P := fun x => ¬ (atv clt x &&& (28672 : Int32)) = (16384 : Int32)) (a := (101 : Int32)) (b := (102 : Int32)) (by decide) K101 R102
  have R100 := own_step (P := fun x => ¬ (atv clt x &&& (28672 : Int32)) = (16384 : Int32)) (a := (100 : Int32)) (b := (101 : Int32)) (by decide) K100 R101
  have R99 := own_step (P := fun x => ¬ (atv clt x &&& (28672 : Int32)) = (16384 : Int32)) (a := (99 : Int32)) (b := (100 : Int32)) (by decide) K99 R100
  have R98 := own_step (P := fun x => ¬ (atv clt x &&& (28672 : Int32)) = (16384 : Int32)) (a := (98 : Int32)) (b := (99 : Int32)) (by decide) K98 R99
  have R97 := own_step (P := fun x => ¬ (atv clt x &&& (28672 : Int32)) = (16384 : Int32)) (a := (97 : Int32)) (b := (98 : Int32)) (by decide) K97 R98
  have R96 := own_step (P := fun x => ¬ (atv clt x &&& (28672 : Int32)) = (16384 : Int32)) (a := (96 : Int32)) (b := (97 : Int32)) (by decide) K96 R97
  have R95 := own_step (P := fun x => ¬ (atv clt x &&& (28672 : Int32)) = (16384 : Int32)) (a := (95 : Int32)) (b := (96 : Int32)) (by decide) K95 R96
  have R94 := own_step (P := fun x => ¬ (atv clt x &&& (28672 : Int32)) = (16384 : Int32)) (a := (94 : Int32)) (b := (95 : Int32)) (by decide) K94 R95
  have R93 := own_step (P := fun x => ¬ (atv clt x &&& (28672 : Int32)) = (16384 : Int32)) (a := (93 : Int32)) (b := (94 : Int32)) (by decide) K93 R94
  have R92 := own_step (P := fun x => ¬ (atv clt x &&& (28672 : Int32)) = (16384 : Int32)) (a := (92 : Int32)) (b := (93 : Int32)) (by decide) K92 R93
  have R91 := own_step (P := fun x => ¬ (atv clt x &&& (28672 : Int32)) = (16384 : Int32)) (a := (91 : Int32)) (b := (92 : Int32)) (by decide) K91 R92
  have R90 := own_step (P := fun x => ¬ (atv clt x &&& (28672 : Int32)) = (16384 : Int32)) (a := (90 : Int32)) (b := (91 : Int32)) (by decide) K90 R91
  have R89 := own_step (P := fun x => ¬ (atv clt x &&& (28672 : Int32)) = (16384 : Int32)) (a := (89 : Int32)) (b := (90 : Int32)) (by decide) K89 R90
  have R88 := own_step (P := fun x => ¬ (atv clt x &&& (28672 : Int32)) = (16384 : Int32)) (a := (88 : Int32)) (b := (89 : Int32)) (by decide) K88 R89
  have R87 := own_step (P := fun x => ¬ (atv clt x &&& (28672 : Int32)) = (16384 : Int32)) (a := (87 : Int32)) (b := (88 : Int32)) (by decide) K87 R88
  have R86 := own_step (P := fun x => ¬ (atv clt x &&& (28672 : Int32)) = (16384 : Int32)) (a := (86 : Int32)) (b := (87 : Int32)) (by decide) K86 R87
  have R85 := own_step (P := fun x => ¬ (atv clt x &&& (28672 : Int32)) = (16384 : Int32)) (a := (85 : Int32)) (b := (86 : Int32)) (by decide) K85 R86
  have R84 := own_step (P := fun x => ¬ (atv clt x &&& (28672 : Int32)) = (16384 : Int32)) (a := (84 : Int32)) (b := (85 : Int32)) (by decide) K84 R85
  have R83 := own_step (P := fun x => ¬ (atv clt x &&& (28672 : Int32)) = (16384 : Int32)) (a := (83 : Int32)) (b := (84 : Int32)) (by decide) K83 R84
  have R82 := own_step (P := fun x => ¬ (atv clt x &&& (28672 : Int32)) = (16384 : Int32)) (a := (82 : Int32)) (b := (83 : Int32)) (by decide) K82 R83
  have R81 := own_step (P := fun x => ¬ (atv clt x &&& (28672 : Int32)) = (16384 : Int32)) (a := (81 : Int32)) (b := (82 : Int32)) (by decide) K81 R82
  have R80 := own_step (P := fun x => ¬ (atv clt x &&& (28672 : Int32)) = (16384 : Int32)) (a := (80 : Int32)) (b := (81 : Int32)) (by decide) K80 R81
  have R79 := own_step (P := fun x => ¬ (atv clt x &&& (28672 : Int32)) = (16384 : Int32)) (a := (79 : Int32)) (b := (80 : Int32)) (by decide) K79 R80
  have R78 := own_step (P := fun x => ¬ (atv clt x &&& (28672 : Int32)) = (16384 : Int32)) (a := (78 : Int32)) (b := (79 : Int32)) (by decide) K78 R79
  have R77 := own_step (P := fun x => ¬ (atv clt x &&& (28672 : Int32)) = (16384 : Int32)) (a := (77 : Int32)) (b := (78 : Int32)) (by decide) K77 R78
  have R76 := own_step (P := fun x => ¬ (atv clt x &&& (28672 : Int32)) = (16384 : Int32)) (a := (76 : Int32)) (b := (77 : Int32)) (by decide) K76 R77
  have R75 := own_step (P := fun x => ¬ (atv clt x &&& (28672 : Int32)) = (16384 : Int32)) (a := (75 : Int32)) (b := (76 : Int32)) (by decide) K75 R76
  have R74 := own_step (P := fun x => ¬ (atv clt x &&& (28672 : Int32)) = (16384 : Int32)) (a := (74 : Int32)) (b := (75 : Int32)) (by decide) K74 R75
  have R73 := own_step (P := fun x => ¬ (atv clt x &&& (28672 : Int32)) = (16384 : Int32)) (a := (73 : Int32)) (b := (74 : Int32)) (by decide) K73 R74
  have R72 := own_step (P := fun x => ¬ (atv clt x &&& (28672 : Int32)) = (16384 : Int32)) (a := (72 : Int32)) (b := (73 : Int32)) (by decide) K72 R73
  have R71 := own_step (P := fun x => ¬ (atv clt x &&& (28672 : Int32)) = (16384 : Int32)) (a := (71 : Int32)) (b := (72 : Int32)) (by decide) K71 R72
  have R70 := own_step (P := fun x => ¬ (atv clt x &&& (28672 : Int32)) = (16384 : Int32)) (a := (70 : Int32)) (b := (71 : Int32)) (by decide) K70 R71
  have R69 := own_step (P := fun x => ¬ (atv clt x &&& (28672 : Int32)) = (16384 : Int32)) (a := (69 : Int32)) (b := (70 : Int32)) (by decide) K69 R70
  have R68 := own_step (P := fun x => ¬ (atv clt x &&& (28672 : Int32)) = (16384 : Int32)) (a := (68 : Int32)) (b := (69 : Int32)) (by decide) K68 R69
  have R67 := own_step (P := fun x => ¬ (atv clt x &&& (28672 : Int32)) = (16384 : Int32)) (a := (67 : Int32)) (b := (68 : Int32)) (by decide) K67 R68
  have R66 := own_step (P := fun x => ¬ (atv clt x &&& (28672 : Int32)) = (16384 : Int32)) (a := (66 : Int32)) (b := (67 : Int32)) (by decide) K66 R67
  have R65 := own_step (P := fun x => ¬ (atv clt x &&& (28672 : Int32)) = (16384 : Int32)) (a := (65 : Int32)) (b := (66 : Int32)) (by decide) K65 R66
  have R64 := own_step (P := fun x => ¬ (atv clt x &&& (28672 : Int32)) = (16384 : Int32)) (a := (64 : Int32)) (b := (65 : Int32)) (by decide) K64 R65
  have R63 := own_step (P := fun x => ¬ (atv clt x &&& (28672 : Int32)) = (16384 : Int32)) (a := (63 : Int32)) (b := (64 : Int32)) (by decide) K63 R64
  have R62 := own_step (P := fun x => ¬ (atv clt x &&& (28672 : Int32)) = (16384 : Int32)) (a := (62 : Int32)) (b := (63 : Int32)) (by decide) K62 R63
  have R61 := own_step (P := fun x => ¬ (atv clt x &&& (28672 : Int32)) = (16384 : Int32)) (a := (61 : Int32)) (b := (62 : Int32)) (by decide) K61 R62
  have R60 := own_step (P := fun x => ¬ (atv clt x &&& (28672 : Int32)) = (16384 : Int32)) (a := (60 : Int32)) (b := (61 : Int32)) (by decide) K60 R61
  have R59 := own_step (P := fun x => ¬ (atv clt x &&& (28672 : Int32)) = (16384 : Int32)) (a := (59 : Int32)) (b := (60 : Int32)) (by decide) K59 R60
  have R58 := own_step (P := fun x => ¬ (atv clt x &&& (28672 : Int32)) = (16384 : Int32)) (a := (58 : Int32)) (b := (59 : Int32)) (by decide) K58 R59
  have R57 := own_step (P := fun x => ¬ (atv clt x &&& (28672 : Int32)) = (16384 : Int32)) (a := (57 : Int32)) (b := (58 : Int32)) (by decide) K57 R58
  have R56 := own_step (P := fun x => ¬ (atv clt x &&& (28672 : Int32)) = (16384 : Int32)) (a := (56 : Int32)) (b := (57 : Int32)) (by decide) K56 R57
  have R55 := own_step (P := fun x => ¬ (atv clt x &&& (28672 : Int32)) = (16384 : Int32)) (a := (55 : Int32)) (b := (56 : Int32)) (by decide) K55 R56
  have R54 := own_step (P := fun x => ¬ (atv clt x &&& (28672 : Int32)) = (16384 : Int32)) (a := (54 : Int32)) (b := (55 : Int32)) (by decide) K54 R55
  have R53 := own_step (P := fun x => ¬ (atv clt x &&& (28672 : Int32)) = (16384 : Int32)) (a := (53 : Int32)) (b := (54 : Int32)) (by decide) K53 R54
  have R52 := own_step (P := fun x => ¬ (atv clt x &&& (28672 : Int32)) = (16384 : Int32)) (a := (52 : Int32)) (b := (53 : Int32)) (by decide) K52 R53
  have R51 := own_step (P := fun x => ¬ (atv clt x &&& (28672 : Int32)) = (16384 : Int32)) (a := (51 : Int32)) (b := (52 : Int32)) (by decide) K51 R52
  have R50 := own_step (P := fun x => ¬ (atv clt x &&& (28672 : Int32)) = (16384 : Int32)) (a := (50 : Int32)) (b := (51 : Int32)) (by decide) K50 R51
  have R49 := own_step (P := fun x => ¬ (atv clt x &&& (28672 : Int32)) = (16384 : Int32)) (a := (49 : Int32)) (b := (50 : Int32)) (by decide) K49 R50
  have R48 := own_step (P := fun x => ¬ (atv clt x &&& (28672 : Int32)) = (16384 : Int32)) (a := (48 : Int32)) (b := (49 : Int32)) (by decide) K48 R49
  have R47 := own_step (P := fun x => ¬ (atv clt x &&& (28672 : Int32)) = (16384 : Int32)) (a := (47 : Int32)) (b := (48 : Int32)) (by decide) K47 R48
  have R46 := own_step (P := fun x => ¬ (atv clt x &&& (28672 : Int32)) = (16384 : Int32)) (a := (46 : Int32)) (b := (47 : Int32)) (by decide) K46 R47
  have R45 := own_step (P := fun x => ¬ (atv clt x &&& (28672 : Int32)) = (16384 : Int32)) (a := (45 : Int32)) (b := (46 : Int32)) (by decide) K45 R46
  have R44 := own_step (P := fun x => ¬ (atv clt x &&& (28672 : Int32)) = (16384 : Int32)) (a := (44 : Int32)) (b := (45 : Int32)) (by decide) K44 R45
  have R43 := own_step (P := fun x => ¬ (atv clt x &&& (28672 : Int32)) = (16384 : Int32)) (a := (43 : Int32)) (b := (44 : Int32)) (by decide) K43 R44
  have R42 := own_step (P := fun x => ¬ (atv clt x &&& (28672 : Int32)) = (16384 : Int32)) (a := (42 : Int32)) (b := (43 : Int32)) (by decide) K42 R43
  have R41 := own_step (P := fun x => ¬ (atv clt x &&& (28672 : Int32)) = (16384 : Int32)) (a := (41 : Int32)) (b := (42 : Int32)) (by decide) K41 R42
  have R40 := own_step (P := fun x => ¬ (atv clt x &&& (28672 : Int32)) = (16384 : Int32)) (a := (40 : Int32)) (b := (41 : Int32)) (by decide) K40 R41
  have R39 := own_step (P := fun x => ¬ (atv clt x &&& (28672 : Int32)) = (16384 : Int32)) (a := (39 : Int32)) (b := (40 : Int32)) (by decide) K39 R40
  have R38 := own_step (P := fun x => ¬ (atv clt x &&& (28672 : Int32)) = (16384 : Int32)) (a := (38 : Int32)) (b := (39 : Int32)) (by decide) K38 R39
  have R37 := own_step (P := fun x => ¬ (atv clt x &&& (28672 : Int32)) = (16384 : Int32)) (a := (37 : Int32)) (b := (38 : Int32)) (by decide) K37 R38
  have R36 := own_step (P := fun x => ¬ (atv clt x &&& (28672 : Int32)) = (16384 : Int32)) (a := (36 : Int32)) (b := (37 : Int32)) (by decide) K36 R37
  have R35 := own_step (P := fun x => ¬ (atv clt x &&& (28672 : Int32)) = (16384 : Int32)) (a := (35 : Int32)) (b := (36 : Int32)) (by decide) K35 R36
  have R34 := own_step (P := fun x => ¬ (atv clt x &&& (28672 : Int32)) = (16384 : Int32)) (a := (34 : Int32)) (b := (35 : Int32)) (by decide) K34 R35
  have R33 := own_step (P := fun x => ¬ (atv clt x &&& (28672 : Int32)) = (16384 : Int32)) (a := (33 : Int32)) (b := (34 : Int32)) (by decide) K33 R34
  have T_ta : own_tab s ta clt := ⟨Sc_ta, fun x hx => R33 x hx.1 hx.2⟩
  obtain ⟨n, o, h1, h2, h3, _, L, rfl, ⟨rfl, N, hrel⟩, hq⟩ := own_law l s _ hw tables_1 i0 i1 i2 i3 i4 zc ci ta clt s.heap s.heap.size (Nat.le_refl _) (Old.start s) S_cs hzc S_ci E_ci S_ta T_ta p e ha hc hk s m _ below hf ((Spec.applies_iff_loose hf).mp happ).1 ⟨rfl, State.Warmed39.refl s, rfl⟩ trivial
  refine ⟨n, _, h1, h2, h3, hpost _ _ _ _ _ _ ⟨Cond.after_iff.mpr rfl, Cond.after_iff.mpr (eq_i res_at (Term.int_eval (1)) rfl), trivial⟩ ⟨hq.1, hq.2.1, (hq.2.2.sift fun y hy => Or.inr (N y hy)).mono (by decide) (by decide)⟩⟩
theorem main_1_1 : Claimed_1_1 := comes_1 fun _ _ _ _ _ _ h hF => ⟨h.1, hF⟩
theorem main_1_2 : Claimed_1_2 := comes_1 fun _ _ _ _ _ _ h hF => ⟨h.2.1, hF⟩
end Jvm.Pilot.@@N@@
namespace Jvm.Pilot.@@N@@
open Jvm Jvm.ClassFile Sem Op Lib Jvm.Free Jvm.Stand Jvm.Pilot.@@N@@.Jvm.D
/-! MADE BY PROGRAM (witnessworld.py) out of the Statement's table words and the real class files: 22 classes; the members and pool entries that the words name. The judged class is class 1, her method 1. -/
namespace start1
open Jvm.ClassFile
def u (s : String) : CpInfo := .utf8 (stringToUtf16 s)
/-- a pool by its gaps: so many unusable entries, then the entry; so many at the end -/
def gap : Nat → List CpInfo → List CpInfo
  | 0, r => r
  | n + 1, r => .unusable :: gap n r
def poolList (es : List (Nat × CpInfo)) (last : Nat) : List CpInfo := es.foldr (fun e r => gap e.1 (e.2 :: r)) (gap last [])
def pool (es : List (Nat × CpInfo)) (last : Nat) : Array CpInfo := ⟨poolList es last⟩
def fileOf (pool : Array CpInfo) (this : Nat) (attrs : Array Attribute := #[]) (ms : Array MethodInfo := #[]) (fl : Nat := 33) (sup : Nat := 0) (ifs : Array Nat := #[]) (fds : Array FieldInfo := #[]) : ClassFile where
  minorVersion := 0
  majorVersion := 65
  constantPool := pool
  accessFlags := fl
  thisClass := this
  superClass := sup
  interfaces := ifs
  fields := fds
  methods := ms
  attributes := attrs
def plain (name : String) (sup : Option ClassId) : Class where
  name := name
  kind := .ordinary
  loader := none
  accessFlags := 33
  super := sup
  interfaces := #[]
  cf := none
  fields := #[]
  methods := #[]
  instanceTypes := #[]
  staticTypes := #[]
  resolved := #[]
  callSites := []
  init := .initialized
  statics := none
  mirror := none

def pool0 : Array CpInfo := pool [(5, u "<init>"), (0, u "()V"), (1, .class_ 10), (1, u "java/lang/Object")] 113

def k0c0 : Code := { maxStack := 0, maxLocals := 1, code := object_method_1_code, exceptionTable := #[], attributes := #[] }
def k0m0 : Method := { name := "<init>", desc := "()V", sig := { parameters := [], returnType := none }, accessFlags := 1, code := some k0c0 }
/-- java/lang/Object -/
def k0 : Class := { plain "java/lang/Object" none with
  accessFlags := 33
  interfaces := #[]
  cf := some (fileOf pool0 8 #[] #[{ accessFlags := 1, nameIndex := 5, descriptorIndex := 6, attributes := #[] }] 33 0 #[] #[])
  fields := #[]
  methods := #[k0m0]
  instanceTypes := #[]
  staticTypes := #[]
  resolved := Array.replicate 124 none
  statics := none }

def pool1 : Array CpInfo := pool [(2, .class_ 4), (1, u "java/lang/Object"), (0, u "<init>"), (0, u "()V"), (0, .methodref 8 9), (0, .class_ 10), (0, .nameAndType 11 12), (0, u "com/example/circuline/circuline/circulation/BarcodesRequiredPinLaw"), (0, u "make"), (0, u "(ICCCC)Ljava/lang/String;"), (0, .methodref 14 15), (0, .class_ 16), (0, .nameAndType 17 18), (0, u "java/lang/String"), (0, u "valueOf"), (0, u "(C)Ljava/lang/String;"), (0, .methodref 20 21), (0, .class_ 22), (0, .nameAndType 23 24), (0, u "com/example/circuline/circuline/circulation/Barcodes"), (0, u "required"), (0, u "(Ljava/lang/String;Ljava/lang/String;Ljava/lang/String;)Ljava/lang/String;"), (0, .methodref 14 26), (0, .nameAndType 27 28), (0, u "length"), (0, u "()I"), (0, .methodref 14 30), (0, .nameAndType 31 32), (0, u "equals"), (0, u "(Ljava/lang/Object;)Z"), (0, .methodref 14 34), (0, .nameAndType 5 35), (0, u "([C)V"), (2, u "law"), (0, u "(IIIII)Z")] 3

def k1m0 : Method := { name := "<init>", desc := "()V", sig := { parameters := [], returnType := none }, accessFlags := 2, code := none }
def k1c1 : Code := { maxStack := 5, maxLocals := 16, code := code, exceptionTable := #[], attributes := #[] }
def k1m1 : Method := { name := "law", desc := "(IIIII)Z", sig := { parameters := [.int, .int, .int, .int, .int], returnType := some .boolean }, accessFlags := 9, code := some k1c1 }
def k1c2 : Code := { maxStack := 6, maxLocals := 5, code := method_3_code, exceptionTable := #[], attributes := #[] }
def k1m2 : Method := { name := "make", desc := "(ICCCC)Ljava/lang/String;", sig := { parameters := [.int, .char, .char, .char, .char], returnType := some (.object "java/lang/String") }, accessFlags := 10, code := some k1c2 }
/-- com/example/circuline/circuline/circulation/BarcodesRequiredPinLaw -/
def k1 : Class := { plain "com/example/circuline/circuline/circulation/BarcodesRequiredPinLaw" (some 0) with
  accessFlags := 49
  interfaces := #[]
  cf := some (fileOf pool1 8 #[] #[{ accessFlags := 2, nameIndex := 5, descriptorIndex := 6, attributes := #[] }, { accessFlags := 9, nameIndex := 38, descriptorIndex := 39, attributes := #[] }, { accessFlags := 10, nameIndex := 11, descriptorIndex := 12, attributes := #[] }] 49 2 #[] #[])
  fields := #[]
  methods := #[k1m0, k1m1, k1m2]
  instanceTypes := #[]
  staticTypes := #[]
  resolved := Array.replicate 43 none
  statics := none }

def pool2 : Array CpInfo := pool [(1, .class_ 2), (0, u "java/io/Serializable"), (0, .class_ 4), (0, u "java/lang/Object")] 2

/-- java/io/Serializable -/
def k2 : Class := { plain "java/io/Serializable" (some 0) with
  accessFlags := 1537
  interfaces := #[]
  cf := some (fileOf pool2 1 #[] #[] 1537 3 #[] #[])
  fields := #[]
  methods := #[]
  instanceTypes := #[]
  staticTypes := #[]
  resolved := Array.replicate 7 none
  statics := none }

def pool3 : Array CpInfo := pool [(1, .class_ 2), (0, u "java/lang/Comparable"), (0, .class_ 4), (0, u "java/lang/Object")] 7

/-- java/lang/Comparable -/
def k3 : Class := { plain "java/lang/Comparable" (some 0) with
  accessFlags := 1537
  interfaces := #[]
  cf := some (fileOf pool3 1 #[] #[] 1537 3 #[] #[])
  fields := #[]
  methods := #[]
  instanceTypes := #[]
  staticTypes := #[]
  resolved := Array.replicate 12 none
  statics := none }

def pool4 : Array CpInfo := pool [(2, .class_ 4), (1, u "java/lang/CharSequence"), (42, .class_ 48), (0, u "java/lang/CharSequence$1CodePointIterator"), (10, .class_ 60), (0, u "java/lang/CharSequence$1CharIterator"), (5, .class_ 67), (0, u "java/lang/Object")] 63

/-- java/lang/CharSequence -/
def k4 : Class := { plain "java/lang/CharSequence" (some 0) with
  accessFlags := 1537
  interfaces := #[]
  cf := some (fileOf pool4 2 #[.nestMembers #[47, 59]] #[] 1537 66 #[] #[])
  fields := #[]
  methods := #[]
  instanceTypes := #[]
  staticTypes := #[]
  resolved := Array.replicate 131 none
  statics := none }

def pool5 : Array CpInfo := pool [(1, .class_ 2), (0, u "java/lang/constant/Constable"), (0, .class_ 4), (0, u "java/lang/Object")] 6

/-- java/lang/constant/Constable -/
def k5 : Class := { plain "java/lang/constant/Constable" (some 0) with
  accessFlags := 1537
  interfaces := #[]
  cf := some (fileOf pool5 1 #[] #[] 1537 3 #[] #[])
  fields := #[]
  methods := #[]
  instanceTypes := #[]
  staticTypes := #[]
  resolved := Array.replicate 11 none
  statics := none }

def pool6 : Array CpInfo := pool [(1, .class_ 2), (0, u "java/lang/constant/ConstantDesc"), (0, .class_ 4), (0, u "java/lang/Object")] 32

/-- java/lang/constant/ConstantDesc -/
def k6 : Class := { plain "java/lang/constant/ConstantDesc" (some 0) with
  accessFlags := 1537
  interfaces := #[]
  cf := some (fileOf pool6 1 #[] #[] 1537 3 #[] #[])
  fields := #[]
  methods := #[]
  instanceTypes := #[]
  staticTypes := #[]
  resolved := Array.replicate 37 none
  statics := none }

def pool7 : Array CpInfo := pool [(1, .methodref 2 3), (0, .class_ 4), (0, .nameAndType 5 6), (0, u "java/lang/Object"), (0, u "<init>"), (0, u "()V"), (2, .fieldref 10 11), (0, .class_ 12), (0, .nameAndType 13 14), (0, u "java/lang/String"), (0, u "value"), (0, u "[B"), (0, .fieldref 10 16), (0, .nameAndType 17 18), (0, u "coder"), (0, u "B"), (2, u "hash"), (0, u "I"), (2, u "hashIsZero"), (0, u "Z"), (0, .methodref 10 28), (0, .nameAndType 5 29), (0, u "([CIILjava/lang/Void;)V"), (8, .fieldref 10 39), (0, .nameAndType 40 26), (0, u "COMPACT_STRINGS"), (1, .class_ 44), (1, u "java/lang/StringUTF16"), (0, u "compress"), (1, .methodref 42 48), (0, .nameAndType 49 50), (0, u "coderFromArrayLen"), (0, u "([BI)B"), (2, u "toBytes"), (53, .class_ 109), (1, u "java/lang/StringLatin1"), (32, u "()Z"), (34, .methodref 42 178), (0, .nameAndType 45 179), (0, u "([CII)[B"), (29, .methodref 10 210), (0, .nameAndType 5 211), (0, u "([BB)V"), (122, u "()I"), (0, .methodref 10 336), (0, .nameAndType 17 337), (0, u "()B"), (31, u "(C)Z"), (122, .methodref 10 493), (0, .nameAndType 494 142), (0, u "isLatin1"), (10, .methodref 10 506), (0, .nameAndType 507 334), (0, u "length"), (35, u "equals"), (29, u "(Ljava/lang/Object;)Z"), (1, .class_ 576), (0, u "java/lang/CharSequence"), (22, u "CASE_INSENSITIVE_ORDER"), (0, u "Ljava/util/Comparator;"), (30, u "([B)I"), (150, u "valueOf"), (0, u "(C)Ljava/lang/String;"), (92, .methodref 10 877), (0, .nameAndType 878 334), (0, u "indexOfNonWhitespace"), (45, .methodref 107 925), (0, .nameAndType 878 631), (26, u "isBlank"), (57, u "([C)V"), (4, .methodref 107 1016), (0, .nameAndType 1017 369), (0, u "canEncode"), (0, .methodref 107 1019), (0, .nameAndType 53 1020), (0, u "(C)[B"), (80, u "serialPersistentFields"), (0, u "[Ljava/io/ObjectStreamField;"), (0, .class_ 1104), (0, u "java/lang/String$CaseInsensitiveComparator"), (1, .class_ 1107), (0, u "java/io/Serializable"), (0, .class_ 1109), (0, u "java/lang/Comparable"), (0, .class_ 1111), (0, u "java/lang/constant/Constable"), (0, .class_ 1113), (0, u "java/lang/constant/ConstantDesc"), (2, u "serialVersionUID"), (0, u "J"), (3, u "REPL"), (0, u "C"), (2, u "LATIN1"), (1, u "UTF16")] 323

def k7m0 : Method := { name := "<init>", desc := "()V", sig := { parameters := [], returnType := none }, accessFlags := 1, code := none }
def k7c1 : Code := { maxStack := 5, maxLocals := 2, code := jdk_42_method_3_code, exceptionTable := #[], attributes := #[] }
def k7m1 : Method := { name := "<init>", desc := "([C)V", sig := { parameters := [(.array .char)], returnType := none }, accessFlags := 1, code := some k7c1 }
def k7c2 : Code := { maxStack := 2, maxLocals := 1, code := jdk_42_method_54_code, exceptionTable := #[], attributes := #[] }
def k7m2 : Method := { name := "length", desc := "()I", sig := { parameters := [], returnType := some .int }, accessFlags := 1, code := some k7c2 }
def k7c3 : Code := { maxStack := 2, maxLocals := 3, code := jdk_42_method_66_code, exceptionTable := #[], attributes := #[] }
def k7m3 : Method := { name := "equals", desc := "(Ljava/lang/Object;)Z", sig := { parameters := [(.object "java/lang/Object")], returnType := some .boolean }, accessFlags := 1, code := some k7c3 }
def k7c4 : Code := { maxStack := 2, maxLocals := 1, code := jdk_42_method_117_code, exceptionTable := #[], attributes := #[] }
def k7m4 : Method := { name := "isBlank", desc := "()Z", sig := { parameters := [], returnType := some .boolean }, accessFlags := 1, code := some k7c4 }
def k7c5 : Code := { maxStack := 1, maxLocals := 1, code := jdk_42_method_120_code, exceptionTable := #[], attributes := #[] }
def k7m5 : Method := { name := "indexOfNonWhitespace", desc := "()I", sig := { parameters := [], returnType := some .int }, accessFlags := 2, code := some k7c5 }
def k7c6 : Code := { maxStack := 4, maxLocals := 1, code := jdk_42_method_139_code, exceptionTable := #[], attributes := #[] }
def k7m6 : Method := { name := "valueOf", desc := "(C)Ljava/lang/String;", sig := { parameters := [.char], returnType := some (.object "java/lang/String") }, accessFlags := 9, code := some k7c6 }
def k7c7 : Code := { maxStack := 4, maxLocals := 6, code := jdk_42_method_149_code, exceptionTable := #[], attributes := #[] }
def k7m7 : Method := { name := "<init>", desc := "([CIILjava/lang/Void;)V", sig := { parameters := [(.array .char), .int, .int, (.object "java/lang/Void")], returnType := none }, accessFlags := 2, code := some k7c7 }
def k7c8 : Code := { maxStack := 2, maxLocals := 3, code := jdk_42_method_151_code, exceptionTable := #[], attributes := #[] }
def k7m8 : Method := { name := "<init>", desc := "([BB)V", sig := { parameters := [(.array .byte), .byte], returnType := none }, accessFlags := 0, code := some k7c8 }
def k7c9 : Code := { maxStack := 1, maxLocals := 1, code := jdk_42_method_152_code, exceptionTable := #[], attributes := #[] }
def k7m9 : Method := { name := "coder", desc := "()B", sig := { parameters := [], returnType := some .byte }, accessFlags := 0, code := some k7c9 }
def k7c10 : Code := { maxStack := 1, maxLocals := 1, code := jdk_42_method_154_code, exceptionTable := #[], attributes := #[] }
def k7m10 : Method := { name := "isLatin1", desc := "()Z", sig := { parameters := [], returnType := some .boolean }, accessFlags := 0, code := some k7c10 }
/-- java/lang/String -/
def k7 : Class := { plain "java/lang/String" (some 0) with
  accessFlags := 49
  interfaces := #[2, 3, 4, 5, 6]
  cf := some (fileOf pool7 10 #[.nestMembers #[1103]] #[{ accessFlags := 1, nameIndex := 5, descriptorIndex := 6, attributes := #[] }, { accessFlags := 1, nameIndex := 5, descriptorIndex := 1010, attributes := #[] }, { accessFlags := 1, nameIndex := 507, descriptorIndex := 334, attributes := #[] }, { accessFlags := 1, nameIndex := 543, descriptorIndex := 573, attributes := #[] }, { accessFlags := 1, nameIndex := 952, descriptorIndex := 142, attributes := #[] }, { accessFlags := 2, nameIndex := 878, descriptorIndex := 334, attributes := #[] }, { accessFlags := 9, nameIndex := 782, descriptorIndex := 783, attributes := #[] }, { accessFlags := 2, nameIndex := 5, descriptorIndex := 29, attributes := #[] }, { accessFlags := 0, nameIndex := 5, descriptorIndex := 211, attributes := #[] }, { accessFlags := 0, nameIndex := 17, descriptorIndex := 337, attributes := #[] }, { accessFlags := 0, nameIndex := 494, descriptorIndex := 142, attributes := #[] }] 49 2 #[1106, 1108, 575, 1110, 1112] #[{ accessFlags := 18, nameIndex := 13, descriptorIndex := 14, attributes := #[] }, { accessFlags := 18, nameIndex := 17, descriptorIndex := 18, attributes := #[] }, { accessFlags := 2, nameIndex := 21, descriptorIndex := 22, attributes := #[] }, { accessFlags := 2, nameIndex := 25, descriptorIndex := 26, attributes := #[] }, { accessFlags := 26, nameIndex := 1116, descriptorIndex := 1117, attributes := #[] }, { accessFlags := 24, nameIndex := 40, descriptorIndex := 26, attributes := #[] }, { accessFlags := 26, nameIndex := 1101, descriptorIndex := 1102, attributes := #[] }, { accessFlags := 26, nameIndex := 1121, descriptorIndex := 1122, attributes := #[] }, { accessFlags := 25, nameIndex := 599, descriptorIndex := 600, attributes := #[] }, { accessFlags := 24, nameIndex := 1125, descriptorIndex := 18, attributes := #[] }, { accessFlags := 24, nameIndex := 1127, descriptorIndex := 18, attributes := #[] }])
  fields := #[{ name := "value", type := (.array .byte), accessFlags := 18, slot := 0, constantValue := 0 }, { name := "coder", type := .byte, accessFlags := 18, slot := 1, constantValue := 0 }, { name := "hash", type := .int, accessFlags := 2, slot := 2, constantValue := 0 }, { name := "hashIsZero", type := .boolean, accessFlags := 2, slot := 3, constantValue := 0 }, { name := "serialVersionUID", type := .long, accessFlags := 26, slot := 0, constantValue := 0 }, { name := "COMPACT_STRINGS", type := .boolean, accessFlags := 24, slot := 1, constantValue := 0 }, { name := "serialPersistentFields", type := (.array (.object "java/io/ObjectStreamField")), accessFlags := 26, slot := 2, constantValue := 0 }, { name := "REPL", type := .char, accessFlags := 26, slot := 3, constantValue := 0 }, { name := "CASE_INSENSITIVE_ORDER", type := (.object "java/util/Comparator"), accessFlags := 25, slot := 4, constantValue := 0 }, { name := "LATIN1", type := .byte, accessFlags := 24, slot := 5, constantValue := 0 }, { name := "UTF16", type := .byte, accessFlags := 24, slot := 6, constantValue := 0 }]
  methods := #[k7m0, k7m1, k7m2, k7m3, k7m4, k7m5, k7m6, k7m7, k7m8, k7m9, k7m10]
  instanceTypes := #[(.array .byte), .byte, .int, .boolean]
  staticTypes := #[.long, .boolean, (.array (.object "java/io/ObjectStreamField")), .char, (.object "java/util/Comparator"), .byte, .byte]
  resolved := Array.replicate 1451 none
  statics := some 0 }

def pool8 : Array CpInfo := pool [(6, .class_ 8), (1, u "java/lang/Object"), (0, u "<init>"), (0, u "()V"), (1, .class_ 14), (1, u "java/lang/StringUTF16"), (31, u "$assertionsDisabled"), (0, u "Z"), (13, u "HI_BYTE_SHIFT"), (0, u "I"), (2, u "LO_BYTE_SHIFT"), (49, .methodref 12 116), (0, .nameAndType 117 118), (0, u "compress"), (0, u "([CI[BII)I"), (3, u "([CII)[B"), (138, u "coderFromArrayLen"), (0, u "([BI)B"), (106, .class_ 371), (1, u "java/lang/StringUTF16$LinesSpliterator"), (58, u "MAX_LENGTH"), (196, .class_ 628), (0, u "java/lang/StringUTF16$CodePointsSpliterator"), (0, .class_ 630), (0, u "java/lang/StringUTF16$CharsSpliterator")] 4

def k8m0 : Method := { name := "<init>", desc := "()V", sig := { parameters := [], returnType := none }, accessFlags := 0, code := none }
def k8c1 : Code := { maxStack := 2, maxLocals := 2, code := jdk_52_method_15_code, exceptionTable := #[], attributes := #[] }
def k8m1 : Method := { name := "coderFromArrayLen", desc := "([BI)B", sig := { parameters := [(.array .byte), .int], returnType := some .byte }, accessFlags := 8, code := some k8c1 }
def k8c2 : Code := { maxStack := 5, maxLocals := 6, code := jdk_52_method_16_code, exceptionTable := #[], attributes := #[] }
def k8m2 : Method := { name := "compress", desc := "([CII)[B", sig := { parameters := [(.array .char), .int, .int], returnType := some (.array .byte) }, accessFlags := 9, code := some k8c2 }
def k8c3 : Code := { maxStack := 3, maxLocals := 7, code := jdk_52_method_21_code, exceptionTable := #[], attributes := #[] }
def k8m3 : Method := { name := "compress", desc := "([CI[BII)I", sig := { parameters := [(.array .char), .int, (.array .byte), .int, .int], returnType := some .int }, accessFlags := 9, code := some k8c3 }
/-- java/lang/StringUTF16 -/
def k8 : Class := { plain "java/lang/StringUTF16" (some 0) with
  accessFlags := 48
  interfaces := #[]
  cf := some (fileOf pool8 12 #[.nestMembers #[627, 629, 369]] #[{ accessFlags := 0, nameIndex := 9, descriptorIndex := 10, attributes := #[] }, { accessFlags := 8, nameIndex := 261, descriptorIndex := 262, attributes := #[] }, { accessFlags := 9, nameIndex := 117, descriptorIndex := 122, attributes := #[] }, { accessFlags := 9, nameIndex := 117, descriptorIndex := 118, attributes := #[] }] 48 6 #[] #[{ accessFlags := 26, nameIndex := 61, descriptorIndex := 62, attributes := #[] }, { accessFlags := 26, nameIndex := 65, descriptorIndex := 62, attributes := #[] }, { accessFlags := 24, nameIndex := 430, descriptorIndex := 62, attributes := #[] }, { accessFlags := 4120, nameIndex := 46, descriptorIndex := 47, attributes := #[] }])
  fields := #[{ name := "HI_BYTE_SHIFT", type := .int, accessFlags := 26, slot := 0, constantValue := 0 }, { name := "LO_BYTE_SHIFT", type := .int, accessFlags := 26, slot := 1, constantValue := 0 }, { name := "MAX_LENGTH", type := .int, accessFlags := 24, slot := 2, constantValue := 0 }, { name := "$assertionsDisabled", type := .boolean, accessFlags := 4120, slot := 3, constantValue := 0 }]
  methods := #[k8m0, k8m1, k8m2, k8m3]
  instanceTypes := #[]
  staticTypes := #[.int, .int, .int, .boolean]
  resolved := Array.replicate 635 none
  statics := none }

def pool9 : Array CpInfo := pool [(4, .class_ 6), (1, u "java/lang/Object"), (0, u "<init>"), (0, u "()V"), (5, .class_ 16), (1, u "java/lang/StringLatin1"), (33, .methodref 14 51), (0, .nameAndType 52 53), (0, u "getChar"), (0, u "([BI)C"), (3, u "([B)I"), (8, .fieldref 67 68), (0, .class_ 69), (0, .nameAndType 70 71), (0, u "java/lang/CharacterDataLatin1"), (0, u "instance"), (0, u "Ljava/lang/CharacterDataLatin1;"), (18, u "canEncode"), (0, u "(I)Z"), (13, u "(C)Z"), (15, u "$assertionsDisabled"), (0, u "Z"), (88, .methodref 67 212), (0, .nameAndType 213 91), (0, u "isWhitespace"), (2, u "indexOfNonWhitespace"), (4, .class_ 223), (1, u "java/lang/StringLatin1$LinesSpliterator"), (156, u "toBytes"), (1, u "(C)[B"), (7, .class_ 391), (0, u "java/lang/StringLatin1$CharsSpliterator")] 3

def k9m0 : Method := { name := "<init>", desc := "()V", sig := { parameters := [], returnType := none }, accessFlags := 0, code := none }
def k9c1 : Code := { maxStack := 2, maxLocals := 1, code := jdk_43_method_3_code, exceptionTable := #[], attributes := #[] }
def k9m1 : Method := { name := "canEncode", desc := "(C)Z", sig := { parameters := [.char], returnType := some .boolean }, accessFlags := 9, code := some k9c1 }
def k9c2 : Code := { maxStack := 2, maxLocals := 4, code := jdk_43_method_37_code, exceptionTable := #[], attributes := #[] }
def k9m2 : Method := { name := "indexOfNonWhitespace", desc := "([B)I", sig := { parameters := [(.array .byte)], returnType := some .int }, accessFlags := 9, code := some k9c2 }
def k9c3 : Code := { maxStack := 2, maxLocals := 2, code := jdk_43_method_44_code, exceptionTable := #[], attributes := #[] }
def k9m3 : Method := { name := "getChar", desc := "([BI)C", sig := { parameters := [(.array .byte), .int], returnType := some .char }, accessFlags := 9, code := some k9c3 }
def k9c4 : Code := { maxStack := 4, maxLocals := 1, code := jdk_43_method_46_code, exceptionTable := #[], attributes := #[] }
def k9m4 : Method := { name := "toBytes", desc := "(C)[B", sig := { parameters := [.char], returnType := some (.array .byte) }, accessFlags := 9, code := some k9c4 }
/-- java/lang/StringLatin1 -/
def k9 : Class := { plain "java/lang/StringLatin1" (some 0) with
  accessFlags := 48
  interfaces := #[]
  cf := some (fileOf pool9 14 #[.nestMembers #[390, 221]] #[{ accessFlags := 0, nameIndex := 7, descriptorIndex := 8, attributes := #[] }, { accessFlags := 9, nameIndex := 90, descriptorIndex := 105, attributes := #[] }, { accessFlags := 9, nameIndex := 216, descriptorIndex := 57, attributes := #[] }, { accessFlags := 9, nameIndex := 52, descriptorIndex := 53, attributes := #[] }, { accessFlags := 9, nameIndex := 380, descriptorIndex := 382, attributes := #[] }] 48 4 #[] #[{ accessFlags := 4120, nameIndex := 121, descriptorIndex := 122, attributes := #[] }])
  fields := #[{ name := "$assertionsDisabled", type := .boolean, accessFlags := 4120, slot := 0, constantValue := 0 }]
  methods := #[k9m0, k9m1, k9m2, k9m3, k9m4]
  instanceTypes := #[]
  staticTypes := #[.boolean]
  resolved := Array.replicate 395 none
  statics := none }

def pool10 : Array CpInfo := pool [(2, .class_ 4), (1, u "java/lang/Object"), (0, u "<init>"), (0, u "()V"), (0, .methodref 8 9), (0, .class_ 10), (0, .nameAndType 11 12), (0, u "java/lang/String"), (0, u "isBlank"), (0, u "()Z"), (16, .class_ 30), (0, u "com/example/circuline/circuline/circulation/Barcodes"), (2, u "required"), (0, u "(Ljava/lang/String;Ljava/lang/String;Ljava/lang/String;)Ljava/lang/String;")] 22

def k10m0 : Method := { name := "<init>", desc := "()V", sig := { parameters := [], returnType := none }, accessFlags := 2, code := none }
def k10c1 : Code := { maxStack := 6, maxLocals := 3, code := prog_3_method_2_code, exceptionTable := #[], attributes := #[] }
def k10m1 : Method := { name := "required", desc := "(Ljava/lang/String;Ljava/lang/String;Ljava/lang/String;)Ljava/lang/String;", sig := { parameters := [(.object "java/lang/String"), (.object "java/lang/String"), (.object "java/lang/String")], returnType := some (.object "java/lang/String") }, accessFlags := 8, code := some k10c1 }
/-- com/example/circuline/circuline/circulation/Barcodes -/
def k10 : Class := { plain "com/example/circuline/circuline/circulation/Barcodes" (some 0) with
  accessFlags := 48
  interfaces := #[]
  cf := some (fileOf pool10 29 #[] #[{ accessFlags := 2, nameIndex := 5, descriptorIndex := 6, attributes := #[] }, { accessFlags := 8, nameIndex := 33, descriptorIndex := 34, attributes := #[] }] 48 2 #[] #[])
  fields := #[]
  methods := #[k10m0, k10m1]
  instanceTypes := #[]
  staticTypes := #[]
  resolved := Array.replicate 57 none
  statics := none }

def pool11 : Array CpInfo := pool [(2, .class_ 4), (1, u "java/lang/Object"), (0, u "<init>"), (0, u "()V"), (1, .class_ 10), (1, u "java/lang/CharacterData")] 75

def k11m0 : Method := { name := "<init>", desc := "()V", sig := { parameters := [], returnType := none }, accessFlags := 0, code := none }
/-- java/lang/CharacterData -/
def k11 : Class := { plain "java/lang/CharacterData" (some 0) with
  accessFlags := 1056
  interfaces := #[]
  cf := some (fileOf pool11 8 #[] #[{ accessFlags := 0, nameIndex := 5, descriptorIndex := 6, attributes := #[] }] 1056 2 #[] #[])
  fields := #[]
  methods := #[k11m0]
  instanceTypes := #[]
  staticTypes := #[]
  resolved := Array.replicate 86 none
  statics := none }

def pool12 : Array CpInfo := pool [(1, .fieldref 2 3), (0, .class_ 4), (0, .nameAndType 5 6), (0, u "java/lang/CharacterDataLatin1"), (0, u "A"), (0, u "[I"), (2, u "B"), (0, u "[C"), (3, u "(I)I"), (0, .methodref 2 16), (0, .nameAndType 17 14), (0, u "getProperties"), (3, u "(I)Z"), (5, u "DIGITS"), (0, u "[B"), (8, u "sharpsMap"), (1, .class_ 41), (1, u "java/lang/CharacterData"), (0, u "<init>"), (0, u "()V"), (3, u "instance"), (0, u "Ljava/lang/CharacterDataLatin1;"), (78, u "isWhitespace")] 13

def k12c0 : Code := { maxStack := 2, maxLocals := 4, code := jdk_116_method_1_code, exceptionTable := #[], attributes := #[] }
def k12m0 : Method := { name := "getProperties", desc := "(I)I", sig := { parameters := [.int], returnType := some .int }, accessFlags := 0, code := some k12c0 }
def k12c1 : Code := { maxStack := 2, maxLocals := 3, code := jdk_116_method_26_code, exceptionTable := #[], attributes := #[] }
def k12m1 : Method := { name := "isWhitespace", desc := "(I)Z", sig := { parameters := [.int], returnType := some .boolean }, accessFlags := 0, code := some k12c1 }
def k12m2 : Method := { name := "<init>", desc := "()V", sig := { parameters := [], returnType := none }, accessFlags := 2, code := none }
/-- java/lang/CharacterDataLatin1 -/
def k12 : Class := { plain "java/lang/CharacterDataLatin1" (some 11) with
  accessFlags := 32
  interfaces := #[]
  cf := some (fileOf pool12 2 #[] #[{ accessFlags := 0, nameIndex := 17, descriptorIndex := 14, attributes := #[] }, { accessFlags := 0, nameIndex := 127, descriptorIndex := 21, attributes := #[] }, { accessFlags := 2, nameIndex := 42, descriptorIndex := 43, attributes := #[] }] 32 39 #[] #[{ accessFlags := 26, nameIndex := 27, descriptorIndex := 28, attributes := #[] }, { accessFlags := 8, nameIndex := 37, descriptorIndex := 10, attributes := #[] }, { accessFlags := 24, nameIndex := 47, descriptorIndex := 48, attributes := #[] }, { accessFlags := 24, nameIndex := 5, descriptorIndex := 6, attributes := #[] }, { accessFlags := 24, nameIndex := 9, descriptorIndex := 10, attributes := #[] }])
  fields := #[{ name := "DIGITS", type := (.array .byte), accessFlags := 26, slot := 0, constantValue := 0 }, { name := "sharpsMap", type := (.array .char), accessFlags := 8, slot := 1, constantValue := 0 }, { name := "instance", type := (.object "java/lang/CharacterDataLatin1"), accessFlags := 24, slot := 2, constantValue := 0 }, { name := "A", type := (.array .int), accessFlags := 24, slot := 3, constantValue := 0 }, { name := "B", type := (.array .char), accessFlags := 24, slot := 4, constantValue := 0 }]
  methods := #[k12m0, k12m1, k12m2]
  instanceTypes := #[]
  staticTypes := #[(.array .byte), (.array .char), (.object "java/lang/CharacterDataLatin1"), (.array .int), (.array .char)]
  resolved := Array.replicate 141 none
  statics := some 1 }

def pool13 : Array CpInfo := pool [(9, u "<init>"), (6, .class_ 18), (1, u "java/lang/Object"), (0, u "()V"), (1, .class_ 23), (1, u "jdk/internal/util/ArraysSupport"), (0, u "LOG2_ARRAY_LONG_INDEX_SCALE"), (0, u "I"), (2, u "U"), (0, u "Ljdk/internal/misc/Unsafe;"), (8, u "BIG_ENDIAN"), (0, u "Z"), (8, u "LOG2_BYTE_BIT_SIZE"), (4, u "LOG2_ARRAY_INT_INDEX_SCALE"), (54, u "JLA"), (0, u "Ljdk/internal/access/JavaLangAccess;"), (11, u "LOG2_ARRAY_BOOLEAN_INDEX_SCALE"), (9, u "LOG2_ARRAY_BYTE_INDEX_SCALE"), (5, u "LOG2_ARRAY_CHAR_INDEX_SCALE"), (5, u "LOG2_ARRAY_SHORT_INDEX_SCALE"), (18, u "LOG2_ARRAY_FLOAT_INDEX_SCALE"), (24, u "LOG2_ARRAY_DOUBLE_INDEX_SCALE"), (89, u "T_BOOLEAN"), (2, u "T_CHAR"), (1, u "T_FLOAT"), (1, u "T_DOUBLE"), (1, u "T_BYTE"), (1, u "T_SHORT"), (1, u "T_INT"), (1, u "T_LONG"), (1, u "SOFT_MAX_ARRAY_LENGTH")] 83

def k13m0 : Method := { name := "<init>", desc := "()V", sig := { parameters := [], returnType := none }, accessFlags := 2, code := none }
/-- jdk/internal/util/ArraysSupport -/
def k13 : Class := { plain "jdk/internal/util/ArraysSupport" (some 0) with
  accessFlags := 33
  interfaces := #[]
  cf := some (fileOf pool13 21 #[] #[{ accessFlags := 2, nameIndex := 9, descriptorIndex := 19, attributes := #[] }] 33 16 #[] #[{ accessFlags := 24, nameIndex := 28, descriptorIndex := 29, attributes := #[] }, { accessFlags := 26, nameIndex := 38, descriptorIndex := 39, attributes := #[] }, { accessFlags := 25, nameIndex := 121, descriptorIndex := 25, attributes := #[] }, { accessFlags := 25, nameIndex := 131, descriptorIndex := 25, attributes := #[] }, { accessFlags := 25, nameIndex := 137, descriptorIndex := 25, attributes := #[] }, { accessFlags := 25, nameIndex := 143, descriptorIndex := 25, attributes := #[] }, { accessFlags := 25, nameIndex := 53, descriptorIndex := 25, attributes := #[] }, { accessFlags := 25, nameIndex := 24, descriptorIndex := 25, attributes := #[] }, { accessFlags := 25, nameIndex := 162, descriptorIndex := 25, attributes := #[] }, { accessFlags := 25, nameIndex := 187, descriptorIndex := 25, attributes := #[] }, { accessFlags := 26, nameIndex := 48, descriptorIndex := 25, attributes := #[] }, { accessFlags := 25, nameIndex := 277, descriptorIndex := 25, attributes := #[] }, { accessFlags := 25, nameIndex := 280, descriptorIndex := 25, attributes := #[] }, { accessFlags := 25, nameIndex := 282, descriptorIndex := 25, attributes := #[] }, { accessFlags := 25, nameIndex := 284, descriptorIndex := 25, attributes := #[] }, { accessFlags := 25, nameIndex := 286, descriptorIndex := 25, attributes := #[] }, { accessFlags := 25, nameIndex := 288, descriptorIndex := 25, attributes := #[] }, { accessFlags := 25, nameIndex := 290, descriptorIndex := 25, attributes := #[] }, { accessFlags := 25, nameIndex := 292, descriptorIndex := 25, attributes := #[] }, { accessFlags := 26, nameIndex := 108, descriptorIndex := 109, attributes := #[] }, { accessFlags := 25, nameIndex := 294, descriptorIndex := 25, attributes := #[] }])
  fields := #[{ name := "U", type := (.object "jdk/internal/misc/Unsafe"), accessFlags := 24, slot := 0, constantValue := 0 }, { name := "BIG_ENDIAN", type := .boolean, accessFlags := 26, slot := 1, constantValue := 0 }, { name := "LOG2_ARRAY_BOOLEAN_INDEX_SCALE", type := .int, accessFlags := 25, slot := 2, constantValue := 0 }, { name := "LOG2_ARRAY_BYTE_INDEX_SCALE", type := .int, accessFlags := 25, slot := 3, constantValue := 0 }, { name := "LOG2_ARRAY_CHAR_INDEX_SCALE", type := .int, accessFlags := 25, slot := 4, constantValue := 0 }, { name := "LOG2_ARRAY_SHORT_INDEX_SCALE", type := .int, accessFlags := 25, slot := 5, constantValue := 0 }, { name := "LOG2_ARRAY_INT_INDEX_SCALE", type := .int, accessFlags := 25, slot := 6, constantValue := 0 }, { name := "LOG2_ARRAY_LONG_INDEX_SCALE", type := .int, accessFlags := 25, slot := 7, constantValue := 0 }, { name := "LOG2_ARRAY_FLOAT_INDEX_SCALE", type := .int, accessFlags := 25, slot := 8, constantValue := 0 }, { name := "LOG2_ARRAY_DOUBLE_INDEX_SCALE", type := .int, accessFlags := 25, slot := 9, constantValue := 0 }, { name := "LOG2_BYTE_BIT_SIZE", type := .int, accessFlags := 26, slot := 10, constantValue := 0 }, { name := "T_BOOLEAN", type := .int, accessFlags := 25, slot := 11, constantValue := 0 }, { name := "T_CHAR", type := .int, accessFlags := 25, slot := 12, constantValue := 0 }, { name := "T_FLOAT", type := .int, accessFlags := 25, slot := 13, constantValue := 0 }, { name := "T_DOUBLE", type := .int, accessFlags := 25, slot := 14, constantValue := 0 }, { name := "T_BYTE", type := .int, accessFlags := 25, slot := 15, constantValue := 0 }, { name := "T_SHORT", type := .int, accessFlags := 25, slot := 16, constantValue := 0 }, { name := "T_INT", type := .int, accessFlags := 25, slot := 17, constantValue := 0 }, { name := "T_LONG", type := .int, accessFlags := 25, slot := 18, constantValue := 0 }, { name := "JLA", type := (.object "jdk/internal/access/JavaLangAccess"), accessFlags := 26, slot := 19, constantValue := 0 }, { name := "SOFT_MAX_ARRAY_LENGTH", type := .int, accessFlags := 25, slot := 20, constantValue := 0 }]
  methods := #[k13m0]
  instanceTypes := #[]
  staticTypes := #[(.object "jdk/internal/misc/Unsafe"), .boolean, .int, .int, .int, .int, .int, .int, .int, .int, .int, .int, .int, .int, .int, .int, .int, .int, .int, (.object "jdk/internal/access/JavaLangAccess"), .int]
  resolved := Array.replicate 378 none
  statics := some 2 }

def pool14 : Array CpInfo := pool [(2, .class_ 4), (1, u "java/lang/Object"), (0, u "<init>"), (0, u "()V"), (17, .class_ 26), (1, u "jdk/internal/util/Preconditions"), (28, .class_ 56), (0, u "jdk/internal/util/Preconditions$4"), (57, .class_ 115), (0, u "jdk/internal/util/Preconditions$1"), (7, u "SIOOBE_FORMATTER"), (0, u "Ljava/util/function/BiFunction;"), (0, .class_ 126), (0, u "jdk/internal/util/Preconditions$2"), (3, u "AIOOBE_FORMATTER"), (0, .class_ 132), (0, u "jdk/internal/util/Preconditions$3"), (3, u "IOOBE_FORMATTER")] 57

def k14m0 : Method := { name := "<init>", desc := "()V", sig := { parameters := [], returnType := none }, accessFlags := 1, code := none }
/-- jdk/internal/util/Preconditions -/
def k14 : Class := { plain "jdk/internal/util/Preconditions" (some 0) with
  accessFlags := 33
  interfaces := #[]
  cf := some (fileOf pool14 24 #[.nestMembers #[55, 131, 125, 114]] #[{ accessFlags := 1, nameIndex := 5, descriptorIndex := 6, attributes := #[] }] 33 2 #[] #[{ accessFlags := 25, nameIndex := 123, descriptorIndex := 124, attributes := #[] }, { accessFlags := 25, nameIndex := 130, descriptorIndex := 124, attributes := #[] }, { accessFlags := 25, nameIndex := 136, descriptorIndex := 124, attributes := #[] }])
  fields := #[{ name := "SIOOBE_FORMATTER", type := (.object "java/util/function/BiFunction"), accessFlags := 25, slot := 0, constantValue := 0 }, { name := "AIOOBE_FORMATTER", type := (.object "java/util/function/BiFunction"), accessFlags := 25, slot := 1, constantValue := 0 }, { name := "IOOBE_FORMATTER", type := (.object "java/util/function/BiFunction"), accessFlags := 25, slot := 2, constantValue := 0 }]
  methods := #[k14m0]
  instanceTypes := #[]
  staticTypes := #[(.object "java/util/function/BiFunction"), (.object "java/util/function/BiFunction"), (.object "java/util/function/BiFunction")]
  resolved := Array.replicate 194 none
  statics := some 3 }

def pool15 : Array CpInfo := pool [(1, u "java/lang/Cloneable"), (0, .class_ 1), (0, u "java/lang/Object"), (0, .class_ 3)] 3

/-- java/lang/Cloneable -/
def k15 : Class := { plain "java/lang/Cloneable" (some 0) with
  accessFlags := 1537
  interfaces := #[]
  cf := some (fileOf pool15 2 #[] #[] 1537 4 #[] #[])
  fields := #[]
  methods := #[]
  instanceTypes := #[]
  staticTypes := #[]
  resolved := Array.replicate 8 none
  statics := none }

/-- the primitive byte -/
def k16 : Class := { plain "byte" none with kind := .primitive 'B', accessFlags := 0x411 }
/-- [B -/
def k17 : Class := { plain "[B" (some 0) with kind := .array 16 .byte, interfaces := #[15, 2], accessFlags := 1041 }

/-- the primitive char -/
def k18 : Class := { plain "char" none with kind := .primitive 'C', accessFlags := 0x411 }
/-- [C -/
def k19 : Class := { plain "[C" (some 0) with kind := .array 18 .char, interfaces := #[15, 2], accessFlags := 1041 }

/-- the primitive int -/
def k20 : Class := { plain "int" none with kind := .primitive 'I', accessFlags := 0x411 }
/-- [I -/
def k21 : Class := { plain "[I" (some 0) with kind := .array 20 .int, interfaces := #[15, 2], accessFlags := 1041 }

def heap : Heap := #[{ cls := 7, slots := #[.long 0, .int 1, .null, .int 0, .null, .int 0, .int 0], vm := .statics 7 },
  { cls := 12, slots := #[.null, .null, .ref 4, .ref 5, .null], vm := .statics 12 },
  { cls := 13, slots := #[.null, .int 0, .int 0, .int 0, .int 0, .int 0, .int 0, .int 0, .int 0, .int 0, .int 0, .int 0, .int 0, .int 0, .int 0, .int 0, .int 0, .int 0, .int 0, .null, .int 0], vm := .statics 13 },
  { cls := 14, slots := #[.null, .null, .null], vm := .statics 14 },
  { cls := 12, slots := #[], vm := .none },
  { cls := 21, slots := #[.int 1207963663, .int 1207963663, .int 1207963663, .int 1207963663, .int 1207963663, .int 1207963663, .int 1207963663, .int 1207963663, .int 1207963663, .int 1476411407, .int 1342193679, .int 1476411407, .int 1610629135, .int 1342193679, .int 1207963663, .int 1207963663, .int 1207963663, .int 1207963663, .int 1207963663, .int 1207963663, .int 1207963663, .int 1207963663, .int 1207963663, .int 1207963663, .int 1207963663, .int 1207963663, .int 1207963663, .int 1207963663, .int 1342193679, .int 1342193679, .int 1342193679, .int 1476411407, .int 1610629132, .int 1744830488, .int 1744830488, .int 671088664, .int 671113242, .int 671088664, .int 1744830488, .int 1744830488, .int (-402653163), .int (-402653162), .int 1744830488, .int 536870937, .int 939524120, .int 536870932, .int 939524120, .int 939524120, .int 402667017, .int 402667017, .int 402667017, .int 402667017, .int 402667017, .int 402667017, .int 402667017, .int 402667017, .int 402667017, .int 402667017, .int 939524120, .int 1744830488, .int (-402653159), .int 1744830489, .int (-402653159), .int 1744830488, .int 1744830488, .int 8552417, .int 8552417, .int 8552417, .int 8552417, .int 8552417, .int 8552417, .int 8552417, .int 8552417, .int 8552417, .int 8552417, .int 8552417, .int 8552417, .int 8552417, .int 8552417, .int 8552417, .int 8552417, .int 8552417, .int 8552417, .int 8552417, .int 8552417, .int 8552417, .int 8552417, .int 8552417, .int 8552417, .int 8552417, .int 8552417, .int (-402653163), .int 1744830488, .int (-402653162), .int 1744830491, .int 1744850967, .int 1744830491, .int 8486882, .int 8486882, .int 8486882, .int 8486882, .int 8486882, .int 8486882, .int 8486882, .int 8486882, .int 8486882, .int 8486882, .int 8486882, .int 8486882, .int 8486882, .int 8486882, .int 8486882, .int 8486882, .int 8486882, .int 8486882, .int 8486882, .int 8486882, .int 8486882, .int 8486882, .int 8486882, .int 8486882, .int 8486882, .int 8486882, .int (-402653163), .int 1744830489, .int (-402653162), .int 1744830489, .int 1207963663, .int 1207963663, .int 1207963663, .int 1207963663, .int 1207963663, .int 1207963663, .int 1342181391, .int 1207963663, .int 1207963663, .int 1207963663, .int 1207963663, .int 1207963663, .int 1207963663, .int 1207963663, .int 1207963663, .int 1207963663, .int 1207963663, .int 1207963663, .int 1207963663, .int 1207963663, .int 1207963663, .int 1207963663, .int 1207963663, .int 1207963663, .int 1207963663, .int 1207963663, .int 1207963663, .int 1207963663, .int 1207963663, .int 1207963663, .int 1207963663, .int 1207963663, .int 1207963663, .int 939524108, .int 1744830488, .int 671113242, .int 671113242, .int 671113242, .int 671113242, .int 1744830492, .int 1744830488, .int 1744830491, .int 1744830492, .int 28677, .int (-402653155), .int 1744830489, .int 1207963664, .int 1744830492, .int 1744830491, .int 671088668, .int 671088665, .int 402654731, .int 402654731, .int 1744830491, .int 134049794, .int 1744830488, .int 1744830488, .int 1744830491, .int 402654475, .int 28677, .int (-402653154), .int 1744832523, .int 1744832523, .int 1744832523, .int 1744830488, .int 8548353, .int 8548353, .int 8548353, .int 8548353, .int 8548353, .int 8548353, .int 8548353, .int 8548353, .int 8548353, .int 8548353, .int 8548353, .int 8548353, .int 8548353, .int 8548353, .int 8548353, .int 8548353, .int 8548353, .int 8548353, .int 8548353, .int 8548353, .int 8548353, .int 8548353, .int 8548353, .int 1744830489, .int 8548353, .int 8548353, .int 8548353, .int 8548353, .int 8548353, .int 8548353, .int 8548353, .int 134049794, .int 8482818, .int 8482818, .int 8482818, .int 8482818, .int 8482818, .int 8482818, .int 8482818, .int 8482818, .int 8482818, .int 8482818, .int 8482818, .int 8482818, .int 8482818, .int 8482818, .int 8482818, .int 8482818, .int 8482818, .int 8482818, .int 8482818, .int 8482818, .int 8482818, .int 8482818, .int 8482818, .int 1744830489, .int 8482818, .int 8482818, .int 8482818, .int 8482818, .int 8482818, .int 8482818, .int 8482818, .int 102592514], vm := .none }]
def classes : Array Class := #[k0, k1, k2, k3, k4, k5, k6, k7, k8, k9, k10, k11, k12, k13, k14, k15, k16, k17, k18, k19, k20, k21]
def interned : List (Array UInt16 × Addr) := []
def slotsUsed : Nat := 292
def theMethod : MethodId := ⟨1, 1⟩
def args0 : Array Value := #[.int 5, .int 6, .int 7, .int 8, .int 9]
def aboutOver (below : List Frame) : State where
  vm := { classes := classes, interned := interned.toArray }
  heap := heap
  slotsUsed := slotsUsed
  threads := #[{ frames := .invoking theMethod args0 :: below }]
def below0 : List Frame := [.native { method := ⟨0, 0⟩, args := #[] }]
def about1 : State := aboutOver below0
def p0 : Program := .bare "" "" ""
def e0 : Env := launch0.env 0 0 0
theorem w_frames : about1.frames = Frame.invoking theMethod args0 :: below0 := rfl
set_option maxRecDepth 65536 in
theorem w_args : argsFit about1.vm theMethod args0 = true := by decide +kernel
set_option maxRecDepth 65536 in
theorem w_heap : heapFits about1 = true := by decide +kernel
set_option maxRecDepth 65536 in
theorem w_runnable : about1.curStatus? = some .runnable := by decide +kernel
set_option maxRecDepth 65536 in
theorem w_alone : about1.alone = true := by decide +kernel
set_option maxRecDepth 65536 in
theorem w_named : about1.methodNamed? x = some theMethod := by decide +kernel
set_option maxRecDepth 65536 in
theorem w_hears : about1.hears theMethod below0 = true := by decide +kernel
set_option maxRecDepth 65536 in
theorem w_ripe : about1.ripe theMethod args0 below0 = true := by decide +kernel
theorem w_running : about1.status = .running := rfl
set_option maxRecDepth 65536 in
theorem w_room : about1.hasRoom e0.platform room_1 = true :=
  launch0.hasRoom_least _ room_1 (by decide +kernel) (by decide +kernel) (by decide +kernel) (by decide +kernel) (by decide +kernel) (by decide +kernel)
theorem allAtoms_all (ts : List Jvm.Cond) (a : Array Jvm.Value) (st : Jvm.State) : (allAtoms ts).before a st = ts.all (fun c => c.before a st) := by
  induction ts with
  | nil => rfl
  | cons c t ih =>
    show (Jvm.Cond.and c (allAtoms t)).before a st = _
    rw [Jvm.Cond.before_and, ih, List.all_cons]
def words1 : List Jvm.Cond := Jvm.Cond.code x code maxLocals ret :: tables_1
/-- a 'code' word, met by the world's own term for the bytes: nothing is compared byte by byte -/
theorem code_word {y : MethodName} {bytes : ByteArray} {mx : Nat} {rt : Option FieldType} {a : Array Value} {s : State} {m : MethodId} {meth : Method} {c : Code} (h1 : s.methodNamed? y = some m) (h2 : s.vm.method? m = some meth) (h3 : meth.code = some c) (h4 : c.code = bytes)
    (h5 : (c.maxLocals == mx && c.exceptionTable.isEmpty && decide (c.maxStack ≤ mostOperands) && decide (meth.sig.returnType = rt) && !meth.locks && decide (parseMethodDescriptor y.desc = some meth.sig)) = true) : (Jvm.Cond.code y bytes mx rt).before a s = true := by
  simp only [Bool.and_eq_true, beq_iff_eq, Bool.not_eq_true', decide_eq_true_eq] at h5
  obtain ⟨⟨⟨⟨⟨g1, g2⟩, g3⟩, g4⟩, g5⟩, g6⟩ := h5
  simp [Cond.before, Cond.holds, Cond.value, h1, h2, h3, h4, g1, g2, g3, g4, g5, g6]
def isCode : Jvm.Cond → Bool
  | .code _ _ _ _ => true
  | _ => false
theorem all_split {L : List Jvm.Cond} {P : Jvm.Cond → Bool} (h1 : L.all (fun c => isCode c || P c) = true) (h2 : ∀ c ∈ L.filter isCode, P c = true) : L.all P = true := by
  refine List.all_eq_true.mpr fun c hc => ?_
  have h := List.all_eq_true.mp h1 c hc
  rcases Bool.eq_false_or_eq_true (isCode c) with hi | hi
  · exact h2 c (List.mem_filter.mpr ⟨hc, hi⟩)
  · simpa [hi] using h
set_option maxRecDepth 65536 in
theorem w_c0 : (Jvm.Cond.code x code maxLocals ret).before args0 about1 = true := code_word (m := ⟨1, 1⟩) (meth := k1m1) (c := k1c1) (by decide +kernel) rfl rfl rfl (by decide +kernel)
set_option maxRecDepth 65536 in
theorem w_c1 : (Jvm.Cond.code ({ cls := "com/example/circuline/circuline/circulation/BarcodesRequiredPinLaw", name := "make", desc := "(ICCCC)Ljava/lang/String;" } : Jvm.MethodName) method_3_code (5 : Nat) (Option.some (Jvm.ClassFile.FieldType.object "java/lang/String"))).before args0 about1 = true := code_word (m := ⟨1, 2⟩) (meth := k1m2) (c := k1c2) (by decide +kernel) rfl rfl rfl (by decide +kernel)
set_option maxRecDepth 65536 in
theorem w_c2 : (Jvm.Cond.code ({ cls := "java/lang/String", name := "<init>", desc := "([C)V" } : Jvm.MethodName) jdk_42_method_3_code (2 : Nat) (Option.none : Option Jvm.ClassFile.FieldType)).before args0 about1 = true := code_word (m := ⟨7, 1⟩) (meth := k7m1) (c := k7c1) (by decide +kernel) rfl rfl rfl (by decide +kernel)
set_option maxRecDepth 65536 in
theorem w_c3 : (Jvm.Cond.code ({ cls := "java/lang/String", name := "<init>", desc := "([CIILjava/lang/Void;)V" } : Jvm.MethodName) jdk_42_method_149_code (6 : Nat) (Option.none : Option Jvm.ClassFile.FieldType)).before args0 about1 = true := code_word (m := ⟨7, 7⟩) (meth := k7m7) (c := k7c7) (by decide +kernel) rfl rfl rfl (by decide +kernel)
set_option maxRecDepth 65536 in
theorem w_c4 : (Jvm.Cond.code ({ cls := "java/lang/Object", name := "<init>", desc := "()V" } : Jvm.MethodName) object_method_1_code (1 : Nat) (Option.none : Option Jvm.ClassFile.FieldType)).before args0 about1 = true := code_word (m := ⟨0, 0⟩) (meth := k0m0) (c := k0c0) (by decide +kernel) rfl rfl rfl (by decide +kernel)
set_option maxRecDepth 65536 in
theorem w_c5 : (Jvm.Cond.code ({ cls := "java/lang/StringUTF16", name := "compress", desc := "([CII)[B" } : Jvm.MethodName) jdk_52_method_16_code (6 : Nat) (Option.some (Jvm.ClassFile.FieldType.array Jvm.ClassFile.FieldType.byte))).before args0 about1 = true := code_word (m := ⟨8, 2⟩) (meth := k8m2) (c := k8c2) (by decide +kernel) rfl rfl rfl (by decide +kernel)
set_option maxRecDepth 65536 in
theorem w_c6 : (Jvm.Cond.code ({ cls := "java/lang/StringUTF16", name := "compress", desc := "([CI[BII)I" } : Jvm.MethodName) jdk_52_method_21_code (7 : Nat) (Option.some Jvm.ClassFile.FieldType.int)).before args0 about1 = true := code_word (m := ⟨8, 3⟩) (meth := k8m3) (c := k8c3) (by decide +kernel) rfl rfl rfl (by decide +kernel)
set_option maxRecDepth 65536 in
theorem w_c7 : (Jvm.Cond.code ({ cls := "java/lang/StringUTF16", name := "coderFromArrayLen", desc := "([BI)B" } : Jvm.MethodName) jdk_52_method_15_code (2 : Nat) (Option.some Jvm.ClassFile.FieldType.byte)).before args0 about1 = true := code_word (m := ⟨8, 1⟩) (meth := k8m1) (c := k8c1) (by decide +kernel) rfl rfl rfl (by decide +kernel)
set_option maxRecDepth 65536 in
theorem w_c8 : (Jvm.Cond.code ({ cls := "java/lang/String", name := "valueOf", desc := "(C)Ljava/lang/String;" } : Jvm.MethodName) jdk_42_method_139_code (1 : Nat) (Option.some (Jvm.ClassFile.FieldType.object "java/lang/String"))).before args0 about1 = true := code_word (m := ⟨7, 6⟩) (meth := k7m6) (c := k7c6) (by decide +kernel) rfl rfl rfl (by decide +kernel)
set_option maxRecDepth 65536 in
theorem w_c9 : (Jvm.Cond.code ({ cls := "java/lang/StringLatin1", name := "canEncode", desc := "(C)Z" } : Jvm.MethodName) jdk_43_method_3_code (1 : Nat) (Option.some Jvm.ClassFile.FieldType.boolean)).before args0 about1 = true := code_word (m := ⟨9, 1⟩) (meth := k9m1) (c := k9c1) (by decide +kernel) rfl rfl rfl (by decide +kernel)
set_option maxRecDepth 65536 in
theorem w_c10 : (Jvm.Cond.code ({ cls := "java/lang/StringLatin1", name := "toBytes", desc := "(C)[B" } : Jvm.MethodName) jdk_43_method_46_code (1 : Nat) (Option.some (Jvm.ClassFile.FieldType.array Jvm.ClassFile.FieldType.byte))).before args0 about1 = true := code_word (m := ⟨9, 4⟩) (meth := k9m4) (c := k9c4) (by decide +kernel) rfl rfl rfl (by decide +kernel)
set_option maxRecDepth 65536 in
theorem w_c11 : (Jvm.Cond.code ({ cls := "java/lang/String", name := "<init>", desc := "([BB)V" } : Jvm.MethodName) jdk_42_method_151_code (3 : Nat) (Option.none : Option Jvm.ClassFile.FieldType)).before args0 about1 = true := code_word (m := ⟨7, 8⟩) (meth := k7m8) (c := k7c8) (by decide +kernel) rfl rfl rfl (by decide +kernel)
set_option maxRecDepth 65536 in
theorem w_c12 : (Jvm.Cond.code ({ cls := "com/example/circuline/circuline/circulation/Barcodes", name := "required", desc := "(Ljava/lang/String;Ljava/lang/String;Ljava/lang/String;)Ljava/lang/String;" } : Jvm.MethodName) prog_3_method_2_code (3 : Nat) (Option.some (Jvm.ClassFile.FieldType.object "java/lang/String"))).before args0 about1 = true := code_word (m := ⟨10, 1⟩) (meth := k10m1) (c := k10c1) (by decide +kernel) rfl rfl rfl (by decide +kernel)
set_option maxRecDepth 65536 in
theorem w_c13 : (Jvm.Cond.code ({ cls := "java/lang/String", name := "isBlank", desc := "()Z" } : Jvm.MethodName) jdk_42_method_117_code (1 : Nat) (Option.some Jvm.ClassFile.FieldType.boolean)).before args0 about1 = true := code_word (m := ⟨7, 4⟩) (meth := k7m4) (c := k7c4) (by decide +kernel) rfl rfl rfl (by decide +kernel)
set_option maxRecDepth 65536 in
theorem w_c14 : (Jvm.Cond.code ({ cls := "java/lang/String", name := "indexOfNonWhitespace", desc := "()I" } : Jvm.MethodName) jdk_42_method_120_code (1 : Nat) (Option.some Jvm.ClassFile.FieldType.int)).before args0 about1 = true := code_word (m := ⟨7, 5⟩) (meth := k7m5) (c := k7c5) (by decide +kernel) rfl rfl rfl (by decide +kernel)
set_option maxRecDepth 65536 in
theorem w_c15 : (Jvm.Cond.code ({ cls := "java/lang/String", name := "isLatin1", desc := "()Z" } : Jvm.MethodName) jdk_42_method_154_code (1 : Nat) (Option.some Jvm.ClassFile.FieldType.boolean)).before args0 about1 = true := code_word (m := ⟨7, 10⟩) (meth := k7m10) (c := k7c10) (by decide +kernel) rfl rfl rfl (by decide +kernel)
set_option maxRecDepth 65536 in
theorem w_c16 : (Jvm.Cond.code ({ cls := "java/lang/StringLatin1", name := "indexOfNonWhitespace", desc := "([B)I" } : Jvm.MethodName) jdk_43_method_37_code (4 : Nat) (Option.some Jvm.ClassFile.FieldType.int)).before args0 about1 = true := code_word (m := ⟨9, 2⟩) (meth := k9m2) (c := k9c2) (by decide +kernel) rfl rfl rfl (by decide +kernel)
set_option maxRecDepth 65536 in
theorem w_c17 : (Jvm.Cond.code ({ cls := "java/lang/StringLatin1", name := "getChar", desc := "([BI)C" } : Jvm.MethodName) jdk_43_method_44_code (2 : Nat) (Option.some Jvm.ClassFile.FieldType.char)).before args0 about1 = true := code_word (m := ⟨9, 3⟩) (meth := k9m3) (c := k9c3) (by decide +kernel) rfl rfl rfl (by decide +kernel)
set_option maxRecDepth 65536 in
theorem w_c18 : (Jvm.Cond.code ({ cls := "java/lang/CharacterDataLatin1", name := "isWhitespace", desc := "(I)Z" } : Jvm.MethodName) jdk_116_method_26_code (3 : Nat) (Option.some Jvm.ClassFile.FieldType.boolean)).before args0 about1 = true := code_word (m := ⟨12, 1⟩) (meth := k12m1) (c := k12c1) (by decide +kernel) rfl rfl rfl (by decide +kernel)
set_option maxRecDepth 65536 in
theorem w_c19 : (Jvm.Cond.code ({ cls := "java/lang/CharacterDataLatin1", name := "getProperties", desc := "(I)I" } : Jvm.MethodName) jdk_116_method_1_code (4 : Nat) (Option.some Jvm.ClassFile.FieldType.int)).before args0 about1 = true := code_word (m := ⟨12, 0⟩) (meth := k12m0) (c := k12c0) (by decide +kernel) rfl rfl rfl (by decide +kernel)
set_option maxRecDepth 65536 in
theorem w_c20 : (Jvm.Cond.code ({ cls := "java/lang/String", name := "length", desc := "()I" } : Jvm.MethodName) jdk_42_method_54_code (1 : Nat) (Option.some Jvm.ClassFile.FieldType.int)).before args0 about1 = true := code_word (m := ⟨7, 2⟩) (meth := k7m2) (c := k7c2) (by decide +kernel) rfl rfl rfl (by decide +kernel)
set_option maxRecDepth 65536 in
theorem w_c21 : (Jvm.Cond.code ({ cls := "java/lang/String", name := "coder", desc := "()B" } : Jvm.MethodName) jdk_42_method_152_code (1 : Nat) (Option.some Jvm.ClassFile.FieldType.byte)).before args0 about1 = true := code_word (m := ⟨7, 9⟩) (meth := k7m9) (c := k7c9) (by decide +kernel) rfl rfl rfl (by decide +kernel)
set_option maxRecDepth 65536 in
theorem w_c22 : (Jvm.Cond.code ({ cls := "java/lang/String", name := "equals", desc := "(Ljava/lang/Object;)Z" } : Jvm.MethodName) jdk_42_method_66_code (3 : Nat) (Option.some Jvm.ClassFile.FieldType.boolean)).before args0 about1 = true := code_word (m := ⟨7, 3⟩) (meth := k7m3) (c := k7c3) (by decide +kernel) rfl rfl rfl (by decide +kernel)
def codes1 : List Jvm.Cond := [Jvm.Cond.code x code maxLocals ret, Jvm.Cond.code ({ cls := "com/example/circuline/circuline/circulation/BarcodesRequiredPinLaw", name := "make", desc := "(ICCCC)Ljava/lang/String;" } : Jvm.MethodName) method_3_code (5 : Nat) (Option.some (Jvm.ClassFile.FieldType.object "java/lang/String")), Jvm.Cond.code ({ cls := "java/lang/String", name := "<init>", desc := "([C)V" } : Jvm.MethodName) jdk_42_method_3_code (2 : Nat) (Option.none : Option Jvm.ClassFile.FieldType), Jvm.Cond.code ({ cls := "java/lang/String", name := "<init>", desc := "([CIILjava/lang/Void;)V" } : Jvm.MethodName) jdk_42_method_149_code (6 : Nat) (Option.none : Option Jvm.ClassFile.FieldType), Jvm.Cond.code ({ cls := "java/lang/Object", name := "<init>", desc := "()V" } : Jvm.MethodName) object_method_1_code (1 : Nat) (Option.none : Option Jvm.ClassFile.FieldType), Jvm.Cond.code ({ cls := "java/lang/StringUTF16", name := "compress", desc := "([CII)[B" } : Jvm.MethodName) jdk_52_method_16_code (6 : Nat) (Option.some (Jvm.ClassFile.FieldType.array Jvm.ClassFile.FieldType.byte)), Jvm.Cond.code ({ cls := "java/lang/StringUTF16", name := "compress", desc := "([CI[BII)I" } : Jvm.MethodName) jdk_52_method_21_code (7 : Nat) (Option.some Jvm.ClassFile.FieldType.int), Jvm.Cond.code ({ cls := "java/lang/StringUTF16", name := "coderFromArrayLen", desc := "([BI)B" } : Jvm.MethodName) jdk_52_method_15_code (2 : Nat) (Option.some Jvm.ClassFile.FieldType.byte), Jvm.Cond.code ({ cls := "java/lang/String", name := "valueOf", desc := "(C)Ljava/lang/String;" } : Jvm.MethodName) jdk_42_method_139_code (1 : Nat) (Option.some (Jvm.ClassFile.FieldType.object "java/lang/String")), Jvm.Cond.code ({ cls := "java/lang/StringLatin1", name := "canEncode", desc := "(C)Z" } : Jvm.MethodName) jdk_43_method_3_code (1 : Nat) (Option.some Jvm.ClassFile.FieldType.boolean), Jvm.Cond.code ({ cls := "java/lang/StringLatin1", name := "toBytes", desc := "(C)[B" } : Jvm.MethodName) jdk_43_method_46_code (1 : Nat) (Option.some (Jvm.ClassFile.FieldType.array Jvm.ClassFile.FieldType.byte)), Jvm.Cond.code ({ cls := "java/lang/String", name := "<init>", desc := "([BB)V" } : Jvm.MethodName) jdk_42_method_151_code (3 : Nat) (Option.none : Option Jvm.ClassFile.FieldType), Jvm.Cond.code ({ cls := "com/example/circuline/circuline/circulation/Barcodes", name := "required", desc := "(Ljava/lang/String;Ljava/lang/String;Ljava/lang/String;)Ljava/lang/String;" } : Jvm.MethodName) prog_3_method_2_code (3 : Nat) (Option.some (Jvm.ClassFile.FieldType.object "java/lang/String")), Jvm.Cond.code ({ cls := "java/lang/String", name := "isBlank", desc := "()Z" } : Jvm.MethodName) jdk_42_method_117_code (1 : Nat) (Option.some Jvm.ClassFile.FieldType.boolean), Jvm.Cond.code ({ cls := "java/lang/String", name := "indexOfNonWhitespace", desc := "()I" } : Jvm.MethodName) jdk_42_method_120_code (1 : Nat) (Option.some Jvm.ClassFile.FieldType.int), Jvm.Cond.code ({ cls := "java/lang/String", name := "isLatin1", desc := "()Z" } : Jvm.MethodName) jdk_42_method_154_code (1 : Nat) (Option.some Jvm.ClassFile.FieldType.boolean), Jvm.Cond.code ({ cls := "java/lang/StringLatin1", name := "indexOfNonWhitespace", desc := "([B)I" } : Jvm.MethodName) jdk_43_method_37_code (4 : Nat) (Option.some Jvm.ClassFile.FieldType.int), Jvm.Cond.code ({ cls := "java/lang/StringLatin1", name := "getChar", desc := "([BI)C" } : Jvm.MethodName) jdk_43_method_44_code (2 : Nat) (Option.some Jvm.ClassFile.FieldType.char), Jvm.Cond.code ({ cls := "java/lang/CharacterDataLatin1", name := "isWhitespace", desc := "(I)Z" } : Jvm.MethodName) jdk_116_method_26_code (3 : Nat) (Option.some Jvm.ClassFile.FieldType.boolean), Jvm.Cond.code ({ cls := "java/lang/CharacterDataLatin1", name := "getProperties", desc := "(I)I" } : Jvm.MethodName) jdk_116_method_1_code (4 : Nat) (Option.some Jvm.ClassFile.FieldType.int), Jvm.Cond.code ({ cls := "java/lang/String", name := "length", desc := "()I" } : Jvm.MethodName) jdk_42_method_54_code (1 : Nat) (Option.some Jvm.ClassFile.FieldType.int), Jvm.Cond.code ({ cls := "java/lang/String", name := "coder", desc := "()B" } : Jvm.MethodName) jdk_42_method_152_code (1 : Nat) (Option.some Jvm.ClassFile.FieldType.byte), Jvm.Cond.code ({ cls := "java/lang/String", name := "equals", desc := "(Ljava/lang/Object;)Z" } : Jvm.MethodName) jdk_42_method_66_code (3 : Nat) (Option.some Jvm.ClassFile.FieldType.boolean)]
set_option maxRecDepth 65536 in
theorem codes_eq : words1.filter isCode = codes1 := rfl
theorem w_codes : ∀ c ∈ words1.filter isCode, c.before args0 about1 = true := by
  rw [codes_eq]
  intro c hc
  simp only [codes1, List.mem_cons, List.not_mem_nil, or_false] at hc
  rcases hc with rfl | rfl | rfl | rfl | rfl | rfl | rfl | rfl | rfl | rfl | rfl | rfl | rfl | rfl | rfl | rfl | rfl | rfl | rfl | rfl | rfl | rfl | rfl
  · exact w_c0
  · exact w_c1
  · exact w_c2
  · exact w_c3
  · exact w_c4
  · exact w_c5
  · exact w_c6
  · exact w_c7
  · exact w_c8
  · exact w_c9
  · exact w_c10
  · exact w_c11
  · exact w_c12
  · exact w_c13
  · exact w_c14
  · exact w_c15
  · exact w_c16
  · exact w_c17
  · exact w_c18
  · exact w_c19
  · exact w_c20
  · exact w_c21
  · exact w_c22
set_option maxRecDepth 65536 in
theorem w_t1 : (words1.take 24).all (fun c => isCode c || c.before args0 about1) = true := by decide +kernel
set_option maxRecDepth 65536 in
theorem w_t2 : ((words1.drop 24).take 24).all (fun c => isCode c || c.before args0 about1) = true := by decide +kernel
set_option maxRecDepth 65536 in
theorem w_t3 : (((words1.drop 24).drop 24).take 24).all (fun c => isCode c || c.before args0 about1) = true := by decide +kernel
set_option maxRecDepth 65536 in
theorem w_t4 : ((((words1.drop 24).drop 24).drop 24).take 24).all (fun c => isCode c || c.before args0 about1) = true := by decide +kernel
set_option maxRecDepth 65536 in
theorem w_t5 : ((((words1.drop 24).drop 24).drop 24).drop 24).all (fun c => isCode c || c.before args0 about1) = true := by decide +kernel
theorem w_tables : (allAtoms (Jvm.Cond.code x code maxLocals ret :: tables_1)).before args0 about1 = true := by
  rw [allAtoms_all]
  show words1.all (fun c => c.before args0 about1) = true
  refine all_split ?_ w_codes
  rw [← List.take_append_drop 24 words1, List.all_append, w_t1, ← List.take_append_drop 24 (words1.drop 24), List.all_append, w_t2, ← List.take_append_drop 24 ((words1.drop 24).drop 24), List.all_append, w_t3, ← List.take_append_drop 24 (((words1.drop 24).drop 24).drop 24), List.all_append, w_t4, w_t5]
  rfl
set_option maxRecDepth 65536 in
theorem w_rest : rest_1_c.before args0 about1 = true := by decide +kernel
set_option maxRecDepth 65536 in
theorem w_case : (Jvm.Cond.and given_1 narrow_1).before args0 about1 = true := by decide +kernel
theorem w_applies : (headSpec (Jvm.Cond.code x code maxLocals ret :: tables_1) room_1).applies x e0.platform about1 = true :=
  (Spec.applies_iff w_frames).mpr ⟨w_running, w_runnable, w_alone, w_named, w_hears, w_ripe, w_room, w_tables⟩
theorem atStart : AtStart classFile x code maxLocals ret World_1 tables_1 room_1 Calls_1 rest_1 Pre_1 launch0 p0 e0 about1 theMethod args0 below0 :=
  ⟨lists_1, trivial, launch0.admits_env _ _ _, launch0.least_env, fairChoices_fair.cas, fairChoices_fair.clock, w_frames, w_args, w_heap, w_applies, trivial, w_rest, w_case⟩
end start1
theorem witness_1 : WitnessClaimed_1 := ⟨start1.p0, start1.e0, start1.about1, start1.theMethod, start1.args0, start1.below0, start1.atStart⟩
end Jvm.Pilot.@@N@@
