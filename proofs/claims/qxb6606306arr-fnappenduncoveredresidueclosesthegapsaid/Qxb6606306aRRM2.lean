/- What a coverage holds. -/
import Derived.Test.Qxb6606306aRRM1
import Derived.Maps.OwnSet
namespace Go.Proofs.Qxb6606306aRR
open Go.RowKit Go.Maps

/-- Are all objects held, by this element? -/
def allV : Option Value → Bool
  | some (.agg ⟨[.bool b, _]⟩) => b
  | _ => false
/-- Its map of names. -/
def mapV : Option Value → Option Nat
  | some (.agg ⟨[_, .map o]⟩) => o
  | _ => none
def trueV : Option Value → Bool
  | some (.bool b) => b
  | _ => false
abbrev Fn := Value → Option Value
/-- Does the coverage hold the name s, at the action x? -/
def nameV (A : Fn) (N : Nat → Fn) (x : Value) (s : ByteArray) : Bool :=
  match mapV (A x) with
  | some b => trueV (N b (.string s))
  | none => false

/-- Coverage in block c: its map of actions in block mA, its maps of names from 'base' on; n bounds all sizes. -/
structure CovAt (w : World) (c mA base n : Nat) (A : Fn) (N : Nat → Fn) : Prop where
  cell : w.cell? ⟨c, 1, none⟩ = some (.map (some mA))
  acts : MapAt w 83 mA n A
  lo : mA < base
  held : ∀ x v, A x = some v → ∃ b o, v = .agg #[.bool b, .map o]
  maps : ∀ x b, mapV (A x) = some b → base ≤ b ∧ MapAt w 9 b n (N b)
  bools : ∀ x b y v, mapV (A x) = some b → N b y = some v → v = .bool true

/-- More is held. -/
def Le (A : Fn) (N : Nat → Fn) (A' : Fn) (N' : Nat → Fn) : Prop :=
  (∀ x, allV (A x) = true → allV (A' x) = true) ∧ ∀ x s, (allV (A x) || nameV A N x s) = true → (allV (A' x) || nameV A' N' x s) = true
theorem Le.refl (A : Fn) (N : Nat → Fn) : Le A N A N := ⟨fun _ h => h, fun _ _ h => h⟩
theorem Le.trans {A A' A'' : Fn} {N N' N'' : Nat → Fn} (h : Le A N A' N') (k : Le A' N' A'' N'') : Le A N A'' N'' :=
  ⟨fun x hx => k.1 x (h.1 x hx), fun x s hx => k.2 x s (h.2 x s hx)⟩
/-- These names are held at x: all where there is none. -/
def Granted (A : Fn) (N : Nat → Fn) (x : Value) (names : List ByteArray) : Prop :=
  (names = [] → allV (A x) = true) ∧ ∀ s ∈ names, (allV (A x) || nameV A N x s) = true
theorem Granted.le {A A' : Fn} {N N' : Nat → Fn} {x : Value} {names : List ByteArray} (h : Granted A N x names) (k : Le A N A' N') : Granted A' N' x names :=
  ⟨fun e => k.1 x (h.1 e), fun s hs => k.2 x s (h.2 s hs)⟩

/-- Rows of cells stand, and maps that lie below 'base', but for mA. -/
def Kept (mA base : Nat) (w w' : World) : Prop :=
  w.heap.size ≤ w'.heap.size ∧ ∀ b, b < w.heap.size → b ≠ mA → (b < base ∨ ∃ cs t r, w.heap[b]? = some (.cells cs t r)) → w'.heap[b]? = w.heap[b]?
theorem Kept.refl (mA base : Nat) (w : World) : Kept mA base w w := ⟨Nat.le_refl _, fun _ _ _ _ => rfl⟩
theorem Kept.trans {mA base : Nat} {a b c : World} (h : Kept mA base a b) (k : Kept mA base b c) : Kept mA base a c :=
  ⟨Nat.le_trans h.1 k.1, fun i hi hn hc => (k.2 i (Nat.lt_of_lt_of_le hi h.1) hn (hc.imp id (fun ⟨cs, t, r, e⟩ => ⟨cs, t, r, (h.2 i hi hn hc).trans e⟩))).trans (h.2 i hi hn hc)⟩
theorem Kept.of_below {mA base : Nat} {w w' : World} (h : Below w.heap.size w w') : Kept mA base w w' := ⟨h.size, fun b hb _ _ => h.block b hb⟩
/-- A store into the map of actions. -/
theorem Kept.of_acts {mA base : Nat} {w w' : World} (h : w.grownBy w' (some mA)) : Kept mA base w w' := ⟨h.size, fun b hb hn _ => h.block b hb (by simpa using hn)⟩
/-- A store into a map of names. -/
theorem Kept.of_names {mA base b n k : Nat} {f : Fn} {w w' : World} (h : w.grownBy w' (some b)) (hb : base ≤ b) (hm : MapAt w k b n f) : Kept mA base w w' :=
  ⟨h.size, fun i hi _ hc => h.block i hi (by
    intro e
    injection e with e
    subst e
    rcases hc with hc | ⟨cs, t, r, e⟩
    · omega
    · obtain ⟨D, ⟨es, cl, h1, _⟩, _⟩ := hm
      rw [h1] at e
      cases e)⟩
theorem Kept.cell {mA base : Nat} {w w' : World} (h : Kept mA base w w') {b j : Nat} {v : Value} (hn : b ≠ mA) (hc : w.cell? ⟨b, j, none⟩ = some v) : w'.cell? ⟨b, j, none⟩ = some v := by
  have hx : ∃ cs t r, w.heap[b]? = some (.cells cs t r) := by
    unfold World.cell? at hc
    split at hc
    · rename_i cs t r hh; exact ⟨_, _, _, hh⟩
    · cases hc
  have hl : b < w.heap.size := by obtain ⟨cs, t, r, e⟩ := hx; exact (Array.getElem?_eq_some_iff.1 e).1
  rw [World.cell?_of_block (a := ⟨b, j, none⟩) (h.2 b hl hn (.inr hx))]
  exact hc

variable {w w' : World} {c mA base n : Nat} {A : Fn} {N : Nat → Fn}
theorem CovAt.below (h : CovAt w c mA base n A N) (hc : c < w.heap.size) (hb : Below w.heap.size w w') : CovAt w' c mA base n A N :=
  ⟨(hb.cell (p := ⟨c, 1, none⟩) hc).trans h.cell, h.acts.of_block (hb.block _ h.acts.lt), h.lo, h.held, fun x b e => ⟨(h.maps x b e).1, (h.maps x b e).2.of_block (hb.block _ (h.maps x b e).2.lt)⟩, h.bools⟩
theorem CovAt.mono (h : CovAt w c mA base n A N) {m : Nat} (hm : n ≤ m) : CovAt w c mA base m A N :=
  ⟨h.cell, h.acts.mono hm, h.lo, h.held, fun x b e => ⟨(h.maps x b e).1, (h.maps x b e).2.mono hm⟩, h.bools⟩
theorem zero88 (w : World) : (zeroValue 88).run Try.prog w = .ok (.agg #[.bool false, .map none]) w := by kernel_rfl
theorem zero4 (w : World) : (zeroValue 4).run Try.prog w = .ok (.bool false) w := by kernel_rfl
theorem CovAt.look (h : CovAt w c mA base n A N) {x : Value} {l : Lit} (hx : keyOf Try.prog 83 x = some l) :
    (Instr.lookup 67 (.map (some mA)) x false).run Try.prog w = .ok (.agg #[.bool (allV (A x)), .map (mapV (A x))]) w := by
  rw [h.acts.look keyed83 Try.underlying67 (zero88 w) hx]
  cases hA : A x with
  | none => rfl
  | some v =>
    obtain ⟨b, o, rfl⟩ := h.held x v hA
    rfl
theorem CovAt.lookName (h : CovAt w c mA base n A N) (x : Value) {s : ByteArray} (hs : s.size ≤ Go.maxLen) :
    (Instr.lookup 86 (.map (mapV (A x))) (.string s) false).run Try.prog w = .ok (.bool (nameV A N x s)) w := by
  cases hm : mapV (A x) with
  | none =>
    have e : nameV A N x s = false := by unfold nameV; rw [hm]
    rw [e]
    simpa using Maps.look_nil (w := w) false keyed9 Try.underlying86 (zero4 w) (key9 s hs)
  | some b =>
    have e : nameV A N x s = trueV (N b (.string s)) := by unfold nameV; rw [hm]
    rw [(h.maps x b hm).2.look keyed9 Try.underlying86 (zero4 w) (key9 s hs), e]
    cases hN : N b (.string s) with
    | none => rfl
    | some v =>
      have := h.bools x b _ v hm hN
      subst this
      rfl
theorem CovAt.ne (h : CovAt w c mA base n A N) : c ≠ mA := by
  intro e
  obtain ⟨D, ⟨es, cl, h1, _⟩, _⟩ := h.acts
  have hc := h.cell
  subst e
  simp [World.cell?, h1] at hc
theorem below_grown {w w' : World} {B b : Nat} (hg : w.grownBy w' (some b)) (hB : B ≤ b) (hl : b < w.heap.size) : Below B w w' :=
  (Below.refl _ _).grown hg (by omega) (by intro j hj; cases hj; exact hB)

/-- 'c.actions[act] = heldNames{all: true}'. -/
theorem CovAt.setAll (h : CovAt w c mA base n A N) (hn : n < Go.maxLen) {x : Value} {l : Lit} (hx : keyOf Try.prog 83 x = some l) :
    ∃ w' A', (Instr.mapUpdate 67 (.map (some mA)) x (.agg #[.bool true, .map none])).run Try.prog w = .ok () w' ∧ CovAt w' c mA base (n + 1) A' N ∧ allV (A' x) = true ∧ Le A N A' N ∧ Kept mA base w w' ∧ Below mA w w' := by
  obtain ⟨w', A', hrun, hm, hxv, hoth, hg⟩ := h.acts.put keyed83 Try.underlying67 hn hx (.agg #[.bool true, .map none])
  have hall : allV (A' x) = true := by rw [hxv]; rfl
  have hmapx : mapV (A' x) = none := by rw [hxv]; rfl
  have hk : Kept mA base w w' := Kept.of_acts hg
  refine ⟨w', A', hrun, ⟨hk.cell h.ne h.cell, hm, h.lo, ?_, ?_, ?_⟩, hall, ⟨?_, ?_⟩, hk, below_grown hg (Nat.le_refl _) h.acts.lt⟩
  · intro y v hy
    by_cases e : y = x
    · subst e; rw [hxv] at hy; cases hy; exact ⟨_, _, rfl⟩
    · rw [hoth y e] at hy; exact h.held y v hy
  · intro y b hy
    by_cases e : y = x
    · subst e; rw [hmapx] at hy; cases hy
    · rw [hoth y e] at hy
      obtain ⟨h1, h2⟩ := h.maps y b hy
      exact ⟨h1, (h2.mono (Nat.le_succ _)).of_block (hg.block b h2.lt (by have := h.lo; intro e; injection e with e; omega))⟩
  · intro y b z v hy
    by_cases e : y = x
    · subst e; rw [hmapx] at hy; cases hy
    · rw [hoth y e] at hy; exact h.bools y b z v hy
  · intro y hy
    by_cases e : y = x
    · subst e; exact hall
    · rw [hoth y e]; exact hy
  · intro y s hy
    by_cases e : y = x
    · subst e; rw [hall]; rfl
    · unfold nameV at hy ⊢; rw [hoth y e]; exact hy
/-- 'h.names = make(..); c.actions[act] = h', bN the new map. -/
theorem CovAt.setNew (h : CovAt w c mA base n A N) (hn : n < Go.maxLen) {x : Value} {l : Lit} (hx : keyOf Try.prog 83 x = some l) (h1 : allV (A x) = false) (h2 : mapV (A x) = none) {bN : Nat} (hb : base ≤ bN) (hnew : ∀ y b, mapV (A y) = some b → b ≠ bN) (hm0 : MapAt w 9 bN 0 (fun _ => none)) :
    ∃ w' A' N', (Instr.mapUpdate 67 (.map (some mA)) x (.agg #[.bool false, .map (some bN)])).run Try.prog w = .ok () w' ∧ CovAt w' c mA base (n + 1) A' N' ∧ mapV (A' x) = some bN ∧ Le A N A' N' ∧ Kept mA base w w' ∧ Below mA w w' := by
  obtain ⟨w', A', hrun, hm, hxv, hoth, hg⟩ := h.acts.put keyed83 Try.underlying67 hn hx (.agg #[.bool false, .map (some bN)])
  have hall : allV (A' x) = false := by rw [hxv]; rfl
  have hmapx : mapV (A' x) = some bN := by rw [hxv]; rfl
  have hk : Kept mA base w w' := Kept.of_acts hg
  have hlo := h.lo
  refine ⟨w', A', fun b => if b = bN then fun _ => none else N b, hrun, ⟨hk.cell h.ne h.cell, hm, h.lo, ?_, ?_, ?_⟩, hmapx, ⟨?_, ?_⟩, hk, below_grown hg (Nat.le_refl _) h.acts.lt⟩
  · intro y v hy
    by_cases e : y = x
    · subst e; rw [hxv] at hy; cases hy; exact ⟨_, _, rfl⟩
    · rw [hoth y e] at hy; exact h.held y v hy
  · intro y b hy
    by_cases e : y = x
    · subst e
      rw [hmapx] at hy
      cases hy
      rw [if_pos rfl]
      exact ⟨hb, (hm0.mono (Nat.zero_le _)).of_block (hg.block _ hm0.lt (by intro e; injection e with e; omega))⟩
    · rw [hoth y e] at hy
      obtain ⟨k1, k2⟩ := h.maps y b hy
      rw [if_neg (hnew y b hy)]
      exact ⟨k1, (k2.mono (Nat.le_succ _)).of_block (hg.block b k2.lt (by intro e; injection e with e; omega))⟩
  · intro y b z v hy hv
    by_cases e : y = x
    · subst e
      rw [hmapx] at hy
      cases hy
      rw [if_pos rfl] at hv
      cases hv
    · rw [hoth y e] at hy
      rw [if_neg (hnew y b hy)] at hv
      exact h.bools y b z v hy hv
  · intro y hy
    by_cases e : y = x
    · subst e; rw [h1] at hy; cases hy
    · rw [hoth y e]; exact hy
  · intro y s hy
    by_cases e : y = x
    · subst e
      unfold nameV at hy
      rw [h1, h2] at hy
      cases hy
    · unfold nameV at hy ⊢
      rw [hoth y e]
      cases hmy : mapV (A y) with
      | none => rw [hmy] at hy; exact hy
      | some b => rw [hmy] at hy; dsimp only; rw [if_neg (hnew y b hmy)]; exact hy
/-- 'h.names[name] = true'. -/
theorem CovAt.addName (h : CovAt w c mA base n A N) (hn : n < Go.maxLen) {x : Value} {b : Nat} (hx : mapV (A x) = some b) {s : ByteArray} (hs : s.size ≤ Go.maxLen) :
    ∃ w' N', (Instr.mapUpdate 86 (.map (some b)) (.string s) (.bool true)).run Try.prog w = .ok () w' ∧ CovAt w' c mA base (n + 1) A N' ∧ nameV A N' x s = true ∧ Le A N A N' ∧ Kept mA base w w' ∧ Below mA w w' := by
  obtain ⟨hb, hmb⟩ := h.maps x b hx
  obtain ⟨w', f', hrun, hm, hxv, hoth, hg⟩ := hmb.put keyed9 Try.underlying86 hn (key9 s hs) (.bool true)
  have hk : Kept mA base w w' := Kept.of_names hg hb hmb
  have hlo := h.lo
  refine ⟨w', fun i => if i = b then f' else N i, hrun, ⟨hk.cell h.ne h.cell, (h.acts.mono (Nat.le_succ _)).of_block (hg.block _ h.acts.lt (by intro e; injection e with e; omega)), h.lo, h.held, ?_, ?_⟩, ?_, ⟨fun _ hy => hy, ?_⟩, hk, below_grown hg (by omega) hmb.lt⟩
  · intro y i hy
    by_cases e : i = b
    · subst e; rw [if_pos rfl]; exact ⟨hb, hm⟩
    · rw [if_neg e]
      obtain ⟨k1, k2⟩ := h.maps y i hy
      exact ⟨k1, (k2.mono (Nat.le_succ _)).of_block (hg.block i k2.lt (by intro e'; injection e' with e'; exact e e'))⟩
  · intro y i z v hy hv
    by_cases e : i = b
    · subst e
      rw [if_pos rfl] at hv
      by_cases ez : z = .string s
      · subst ez; rw [hxv] at hv; cases hv; rfl
      · rw [hoth z ez] at hv; exact h.bools y i z v hy hv
    · rw [if_neg e] at hv; exact h.bools y i z v hy hv
  · unfold nameV
    rw [hx]
    dsimp only
    rw [if_pos rfl, hxv]
    rfl
  · intro y t hy
    cases ha : allV (A y) with
    | true => rfl
    | false =>
      rw [ha] at hy
      unfold nameV at hy ⊢
      cases hmy : mapV (A y) with
      | none => rw [hmy] at hy; exact hy
      | some i =>
        rw [hmy] at hy
        dsimp only at hy ⊢
        by_cases e : i = b
        · subst e
          rw [if_pos rfl]
          by_cases ez : t = s
          · subst ez; rw [hxv]; rfl
          · rw [hoth _ (by intro e; injection e with e; exact ez e)]; exact hy
        · rw [if_neg e]; exact hy
end Go.Proofs.Qxb6606306aRR
