/- cloneRule. -/
import Derived.Test.Qxb6606306aRRC1
import Derived.Test.Qxb6606306aRRG3
import Derived.Deep.RegionHeld3
namespace Go.Proofs.Qxb6606306aRR
open Go.RowKit

/-- It returned a rule, in new memory. -/
def RetRule (w w' : World) (r : RuleD) (e : Ending) : Prop := ∃ c0 c1 c2 c3 c4, e = .returned (.agg #[c0, c1, c2, c3, c4, .bool r.any]) ∧ RuleV (New w) w' c0 c1 c2 c3 c4 r

/-- What the region keeps: the rule's box, and room for the result behind it. -/
def KeepR (B : Nat) (x0 x1 x2 x3 x4 x5 : Value) (W0 w' : World) : Prop :=
  (w'.cell? ⟨B, 0, none⟩ = some x0 ∧ w'.cell? ⟨B, 1, none⟩ = some x1 ∧ w'.cell? ⟨B, 2, none⟩ = some x2 ∧ w'.cell? ⟨B, 3, none⟩ = some x3 ∧ w'.cell? ⟨B, 4, none⟩ = some x4 ∧ w'.cell? ⟨B, 5, none⟩ = some x5) ∧
  (∀ j, j < 6 → (w'.cell? ⟨B + 1, j, none⟩).isSome = true) ∧ (∀ j, j < 6 → w'.frozen? ⟨B + 1, j, none⟩ = false) ∧ B + 1 < w'.heap.size ∧ Below (B + 1) W0 w'
theorem KeepR.next {B : Nat} {x0 x1 x2 x3 x4 x5 : Value} {W0 w1 w2 : World} (h : KeepR B x0 x1 x2 x3 x4 x5 W0 w1) (hb : Below w1.heap.size w1 w2) : KeepR B x0 x1 x2 x3 x4 x5 W0 w2 := by
  obtain ⟨⟨h0, h1, h2, h3, h4, h5⟩, hc, hf, hz, hw⟩ := h
  have e : ∀ j, w2.cell? ⟨B, j, none⟩ = w1.cell? ⟨B, j, none⟩ := fun j => hb.cell (p := ⟨B, j, none⟩) (by show B < _; omega)
  have e' : ∀ j, w2.cell? ⟨B + 1, j, none⟩ = w1.cell? ⟨B + 1, j, none⟩ := fun j => hb.cell (p := ⟨B + 1, j, none⟩) hz
  have f' : ∀ j, w2.frozen? ⟨B + 1, j, none⟩ = w1.frozen? ⟨B + 1, j, none⟩ := fun j => hb.frozen (p := ⟨B + 1, j, none⟩) hz
  refine ⟨⟨?_, ?_, ?_, ?_, ?_, ?_⟩, fun j hj => ?_, fun j hj => ?_, Nat.lt_of_lt_of_le hz hb.size, hw.trans (hb.mono (by omega))⟩
  · rw [e]; exact h0
  · rw [e]; exact h1
  · rw [e]; exact h2
  · rw [e]; exact h3
  · rw [e]; exact h4
  · rw [e]; exact h5
  · rw [e']; exact hc j hj
  · rw [f']; exact hf j hj

theorem below_of_keep {w w' W : World} {p q r s : Prop} (hW : Below w.heap.size w W) (h : p ∧ q ∧ r ∧ s ∧ Below (w.heap.size + 1) W w') : Below w.heap.size w w' :=
  hW.trans (h.2.2.2.2.mono (by omega))
theorem keep_start {B : Nat} {W : World} {x0 x1 x2 x3 x4 x5 : Value} (h0 : W.cell? ⟨B, 0, none⟩ = some x0) (h1 : W.cell? ⟨B, 1, none⟩ = some x1) (h2 : W.cell? ⟨B, 2, none⟩ = some x2) (h3 : W.cell? ⟨B, 3, none⟩ = some x3) (h4 : W.cell? ⟨B, 4, none⟩ = some x4) (h5 : W.cell? ⟨B, 5, none⟩ = some x5)
    (hc : ∀ j, j < 6 → (W.cell? ⟨B + 1, j, none⟩).isSome = true) (hf : ∀ j, j < 6 → W.frozen? ⟨B + 1, j, none⟩ = false) (hz : B + 1 < W.heap.size) : (W.drew.cell? ⟨B, 0, none⟩ = some x0 ∧ W.drew.cell? ⟨B, 1, none⟩ = some x1 ∧ W.drew.cell? ⟨B, 2, none⟩ = some x2 ∧ W.drew.cell? ⟨B, 3, none⟩ = some x3 ∧ W.drew.cell? ⟨B, 4, none⟩ = some x4 ∧ W.drew.cell? ⟨B, 5, none⟩ = some x5) ∧ (∀ j, j < 6 → (W.drew.cell? ⟨B + 1, j, none⟩).isSome = true) ∧ (∀ j, j < 6 → W.drew.frozen? ⟨B + 1, j, none⟩ = false) ∧ B + 1 < W.drew.heap.size ∧ Below (B + 1) W W.drew :=
  ⟨⟨h0, h1, h2, h3, h4, h5⟩, hc, hf, hz, (Below.refl _ _).drew⟩
theorem cell_put (w : World) (B j : Nat) (v : Value) (i : Nat) (h : (w.cell? ⟨B, i, none⟩).isSome = true) : ((w.setCell ⟨B, j, none⟩ v).cell? ⟨B, i, none⟩).isSome = true := by
  by_cases e : i = j
  · subst e
    rw [World.cell?_setCell_same' w _ v h]; rfl
  · rw [World.cell?_setCell_other]
    · exact h
    · intro hh; apply e; cases hh; rfl
theorem KeepR.set {B : Nat} {x0 x1 x2 x3 x4 x5 : Value} {W0 w1 : World} (h : KeepR B x0 x1 x2 x3 x4 x5 W0 w1) (j : Nat) (v : Value) : KeepR B x0 x1 x2 x3 x4 x5 W0 (w1.setCell ⟨B + 1, j, none⟩ v) := by
  obtain ⟨⟨h0, h1, h2, h3, h4, h5⟩, hc, hf, hz, hw⟩ := h
  have hp : B + 1 ≤ (⟨B + 1, j, none⟩ : Addr).block := Nat.le_refl _
  have hb : Below (B + 1) w1 (w1.setCell ⟨B + 1, j, none⟩ v) := (Below.refl _ _).setCell hp _
  have e : ∀ i, (w1.setCell ⟨B + 1, j, none⟩ v).cell? ⟨B, i, none⟩ = w1.cell? ⟨B, i, none⟩ := fun i => hb.cell (p := ⟨B, i, none⟩) (Nat.lt_succ_self _)
  refine ⟨⟨?_, ?_, ?_, ?_, ?_, ?_⟩, fun i hi => ?_, fun i hi => ?_, Nat.lt_of_lt_of_le hz hb.size, hw.trans hb⟩
  · rw [e]; exact h0
  · rw [e]; exact h1
  · rw [e]; exact h2
  · rw [e]; exact h3
  · rw [e]; exact h4
  · rw [e]; exact h5
  · exact cell_put w1 _ _ _ _ (hc i hi)
  · rw [World.frozen?_setCell]; exact hf i hi
/-- The world behind two new blocks of six cells each. -/
theorem two_new (w : World) (x0 x1 x2 x3 x4 x5 z0 z1 z2 z3 z4 z5 : Value) (t u : TypeId) (W : World) (hW : (w.alloc (.cells #[x0, x1, x2, x3, x4, x5] t)).alloc (.cells #[z0, z1, z2, z3, z4, z5] u) = W) :
    (W.cell? ⟨w.heap.size, 0, none⟩ = some x0 ∧ W.cell? ⟨w.heap.size, 1, none⟩ = some x1 ∧ W.cell? ⟨w.heap.size, 2, none⟩ = some x2 ∧ W.cell? ⟨w.heap.size, 3, none⟩ = some x3 ∧ W.cell? ⟨w.heap.size, 4, none⟩ = some x4 ∧ W.cell? ⟨w.heap.size, 5, none⟩ = some x5) ∧
    (W.cell? ⟨w.heap.size + 1, 0, none⟩ = some z0 ∧ W.cell? ⟨w.heap.size + 1, 1, none⟩ = some z1 ∧ W.cell? ⟨w.heap.size + 1, 2, none⟩ = some z2 ∧ W.cell? ⟨w.heap.size + 1, 3, none⟩ = some z3 ∧ W.cell? ⟨w.heap.size + 1, 4, none⟩ = some z4 ∧ W.cell? ⟨w.heap.size + 1, 5, none⟩ = some z5) ∧
    (∀ j, j < 6 → (W.cell? ⟨w.heap.size + 1, j, none⟩).isSome = true) ∧ (∀ j, j < 6 → W.frozen? ⟨w.heap.size + 1, j, none⟩ = false) ∧ w.heap.size + 1 < W.heap.size ∧ Below w.heap.size w W := by
  subst hW
  refine ⟨⟨?_, ?_, ?_, ?_, ?_, ?_⟩, ⟨?_, ?_, ?_, ?_, ?_, ?_⟩, fun j hj => ?_, fun j hj => ?_, by simp, ((Below.refl _ _).alloc (Nat.le_refl _) _).alloc (by simp) _⟩
  all_goals try (go_simp; done)
theorem kept_six {B : Nat} {W w4 : World} {z0 z1 z2 z3 z4 z5 : Value} (h : Below W.heap.size W w4) (hz : B < W.heap.size)
    (h6 : W.cell? ⟨B, 0, none⟩ = some z0 ∧ W.cell? ⟨B, 1, none⟩ = some z1 ∧ W.cell? ⟨B, 2, none⟩ = some z2 ∧ W.cell? ⟨B, 3, none⟩ = some z3 ∧ W.cell? ⟨B, 4, none⟩ = some z4 ∧ W.cell? ⟨B, 5, none⟩ = some z5) :
    w4.cell? ⟨B, 0, none⟩ = some z0 ∧ w4.cell? ⟨B, 1, none⟩ = some z1 ∧ w4.cell? ⟨B, 2, none⟩ = some z2 ∧ w4.cell? ⟨B, 3, none⟩ = some z3 ∧ w4.cell? ⟨B, 4, none⟩ = some z4 ∧ w4.cell? ⟨B, 5, none⟩ = some z5 := by
  have e : ∀ j, w4.cell? ⟨B, j, none⟩ = W.cell? ⟨B, j, none⟩ := fun j => h.cell (p := ⟨B, j, none⟩) hz
  simp only [e]
  exact h6

theorem keep6 {B : Nat} {x0 x1 x2 x3 x4 x5 v0 v1 v2 v3 v4 v5 : Value} {W0 w1 : World} (h : (w1.cell? ⟨B, 0, none⟩ = some x0 ∧ w1.cell? ⟨B, 1, none⟩ = some x1 ∧ w1.cell? ⟨B, 2, none⟩ = some x2 ∧ w1.cell? ⟨B, 3, none⟩ = some x3 ∧ w1.cell? ⟨B, 4, none⟩ = some x4 ∧ w1.cell? ⟨B, 5, none⟩ = some x5) ∧ (∀ j, j < 6 → (w1.cell? ⟨B + 1, j, none⟩).isSome = true) ∧ (∀ j, j < 6 → w1.frozen? ⟨B + 1, j, none⟩ = false) ∧ B + 1 < w1.heap.size ∧ Below (B + 1) W0 w1) :
    (((((((w1.setCell ⟨B + 1, 0, none⟩ v0).setCell ⟨B + 1, 1, none⟩ v1).setCell ⟨B + 1, 2, none⟩ v2).setCell ⟨B + 1, 3, none⟩ v3).setCell ⟨B + 1, 4, none⟩ v4).setCell ⟨B + 1, 5, none⟩ v5).cell? ⟨B, 0, none⟩ = some x0 ∧ ((((((w1.setCell ⟨B + 1, 0, none⟩ v0).setCell ⟨B + 1, 1, none⟩ v1).setCell ⟨B + 1, 2, none⟩ v2).setCell ⟨B + 1, 3, none⟩ v3).setCell ⟨B + 1, 4, none⟩ v4).setCell ⟨B + 1, 5, none⟩ v5).cell? ⟨B, 1, none⟩ = some x1 ∧ ((((((w1.setCell ⟨B + 1, 0, none⟩ v0).setCell ⟨B + 1, 1, none⟩ v1).setCell ⟨B + 1, 2, none⟩ v2).setCell ⟨B + 1, 3, none⟩ v3).setCell ⟨B + 1, 4, none⟩ v4).setCell ⟨B + 1, 5, none⟩ v5).cell? ⟨B, 2, none⟩ = some x2 ∧ ((((((w1.setCell ⟨B + 1, 0, none⟩ v0).setCell ⟨B + 1, 1, none⟩ v1).setCell ⟨B + 1, 2, none⟩ v2).setCell ⟨B + 1, 3, none⟩ v3).setCell ⟨B + 1, 4, none⟩ v4).setCell ⟨B + 1, 5, none⟩ v5).cell? ⟨B, 3, none⟩ = some x3 ∧ ((((((w1.setCell ⟨B + 1, 0, none⟩ v0).setCell ⟨B + 1, 1, none⟩ v1).setCell ⟨B + 1, 2, none⟩ v2).setCell ⟨B + 1, 3, none⟩ v3).setCell ⟨B + 1, 4, none⟩ v4).setCell ⟨B + 1, 5, none⟩ v5).cell? ⟨B, 4, none⟩ = some x4 ∧ ((((((w1.setCell ⟨B + 1, 0, none⟩ v0).setCell ⟨B + 1, 1, none⟩ v1).setCell ⟨B + 1, 2, none⟩ v2).setCell ⟨B + 1, 3, none⟩ v3).setCell ⟨B + 1, 4, none⟩ v4).setCell ⟨B + 1, 5, none⟩ v5).cell? ⟨B, 5, none⟩ = some x5) ∧ (∀ j, j < 6 → (((((((w1.setCell ⟨B + 1, 0, none⟩ v0).setCell ⟨B + 1, 1, none⟩ v1).setCell ⟨B + 1, 2, none⟩ v2).setCell ⟨B + 1, 3, none⟩ v3).setCell ⟨B + 1, 4, none⟩ v4).setCell ⟨B + 1, 5, none⟩ v5).cell? ⟨B + 1, j, none⟩).isSome = true) ∧ (∀ j, j < 6 → ((((((w1.setCell ⟨B + 1, 0, none⟩ v0).setCell ⟨B + 1, 1, none⟩ v1).setCell ⟨B + 1, 2, none⟩ v2).setCell ⟨B + 1, 3, none⟩ v3).setCell ⟨B + 1, 4, none⟩ v4).setCell ⟨B + 1, 5, none⟩ v5).frozen? ⟨B + 1, j, none⟩ = false) ∧ B + 1 < ((((((w1.setCell ⟨B + 1, 0, none⟩ v0).setCell ⟨B + 1, 1, none⟩ v1).setCell ⟨B + 1, 2, none⟩ v2).setCell ⟨B + 1, 3, none⟩ v3).setCell ⟨B + 1, 4, none⟩ v4).setCell ⟨B + 1, 5, none⟩ v5).heap.size ∧ Below (B + 1) W0 ((((((w1.setCell ⟨B + 1, 0, none⟩ v0).setCell ⟨B + 1, 1, none⟩ v1).setCell ⟨B + 1, 2, none⟩ v2).setCell ⟨B + 1, 3, none⟩ v3).setCell ⟨B + 1, 4, none⟩ v4).setCell ⟨B + 1, 5, none⟩ v5) :=
  ((((((KeepR.set (show KeepR B x0 x1 x2 x3 x4 x5 W0 w1 from h) 0 v0).set 1 v1).set 2 v2).set 3 v3).set 4 v4).set 5 v5)
theorem keepNext {B : Nat} {x0 x1 x2 x3 x4 x5 : Value} {W0 w1 w2 : World} (hb : Below w1.heap.size w1 w2) (h : (w1.cell? ⟨B, 0, none⟩ = some x0 ∧ w1.cell? ⟨B, 1, none⟩ = some x1 ∧ w1.cell? ⟨B, 2, none⟩ = some x2 ∧ w1.cell? ⟨B, 3, none⟩ = some x3 ∧ w1.cell? ⟨B, 4, none⟩ = some x4 ∧ w1.cell? ⟨B, 5, none⟩ = some x5) ∧ (∀ j, j < 6 → (w1.cell? ⟨B + 1, j, none⟩).isSome = true) ∧ (∀ j, j < 6 → w1.frozen? ⟨B + 1, j, none⟩ = false) ∧ B + 1 < w1.heap.size ∧ Below (B + 1) W0 w1) :
    (w2.cell? ⟨B, 0, none⟩ = some x0 ∧ w2.cell? ⟨B, 1, none⟩ = some x1 ∧ w2.cell? ⟨B, 2, none⟩ = some x2 ∧ w2.cell? ⟨B, 3, none⟩ = some x3 ∧ w2.cell? ⟨B, 4, none⟩ = some x4 ∧ w2.cell? ⟨B, 5, none⟩ = some x5) ∧ (∀ j, j < 6 → (w2.cell? ⟨B + 1, j, none⟩).isSome = true) ∧ (∀ j, j < 6 → w2.frozen? ⟨B + 1, j, none⟩ = false) ∧ B + 1 < w2.heap.size ∧ Below (B + 1) W0 w2 :=
  KeepR.next (show KeepR B x0 x1 x2 x3 x4 x5 W0 w1 from h) hb

theorem Same.set (w : World) (p : Addr) (v : Value) : Same (fun b => b ≠ p.block) w (w.setCell p v) :=
  ⟨by simp [World.setCell], fun b hb _ => Below.heap_setCell _ _ _ _ hb⟩
theorem same_six (w1 : World) (B : Nat) (v0 v1 v2 v3 v4 v5 : Value) : Same (fun b => b ≠ B) w1 ((((((w1.setCell ⟨B, 0, none⟩ v0).setCell ⟨B, 1, none⟩ v1).setCell ⟨B, 2, none⟩ v2).setCell ⟨B, 3, none⟩ v3).setCell ⟨B, 4, none⟩ v4).setCell ⟨B, 5, none⟩ v5) :=
  (((((Same.set w1 ⟨B, 0, none⟩ v0).trans (Same.set _ ⟨B, 1, none⟩ v1)).trans (Same.set _ ⟨B, 2, none⟩ v2)).trans (Same.set _ ⟨B, 3, none⟩ v3)).trans (Same.set _ ⟨B, 4, none⟩ v4)).trans (Same.set _ ⟨B, 5, none⟩ v5)
theorem strs_fin {w p wi w4 wf : World} {v : Value} {xs : List ByteArray} (h : Strs (New p) wi v xs) (hp : w.heap.size + 1 < p.heap.size) (hb : Below wi.heap.size wi w4) (hset : Same (fun b => b ≠ w.heap.size + 1) w4 wf) : Strs (New w) wf v xs :=
  Strs.mono (F := fun b => New p b) (Strs.same (h.same (Same.of_below hb)) (hset.mono fun b hb => by unfold New at hb; omega)) (fun b _ hn => by unfold New at hn ⊢; omega)

theorem rule_fin (w W w0 w1 w2 w3 w4 : World) (r : RuleD) (v0 v1 v2 v3 v4 : Value) (hsz : w.heap.size + 1 < W.heap.size) (hbW : Below w.heap.size w W)
    (hb0 : Below W.drew.heap.size W.drew w0) (hb1 : Below w0.heap.size w0 w1) (hb2 : Below w1.heap.size w1 w2) (hb3 : Below w2.heap.size w2 w3) (hb4 : Below w3.heap.size w3 w4)
    (s0 : Strs (New W.drew) w0 v0 r.verbs) (s1 : Strs (New w0) w1 v1 r.groups) (s2 : Strs (New w1) w2 v2 r.resources) (s3 : Strs (New w2) w3 v3 r.names) (s4 : Strs (New w3) w4 v4 r.bys) :
    RuleV (New w) ((((((w4.setCell ⟨w.heap.size + 1, 0, none⟩ v0).setCell ⟨w.heap.size + 1, 1, none⟩ v1).setCell ⟨w.heap.size + 1, 2, none⟩ v2).setCell ⟨w.heap.size + 1, 3, none⟩ v3).setCell ⟨w.heap.size + 1, 4, none⟩ v4).setCell ⟨w.heap.size + 1, 5, none⟩ (.bool r.any)) v0 v1 v2 v3 v4 r ∧ Below w.heap.size w ((((((w4.setCell ⟨w.heap.size + 1, 0, none⟩ v0).setCell ⟨w.heap.size + 1, 1, none⟩ v1).setCell ⟨w.heap.size + 1, 2, none⟩ v2).setCell ⟨w.heap.size + 1, 3, none⟩ v3).setCell ⟨w.heap.size + 1, 4, none⟩ v4).setCell ⟨w.heap.size + 1, 5, none⟩ (.bool r.any)) := by
  have t4 := Below.refl w4.heap.size w4
  have t3 : Below w3.heap.size w3 w4 := hb4
  have t2 : Below w2.heap.size w2 w4 := hb3.trans (t3.mono hb3.size)
  have t1 : Below w1.heap.size w1 w4 := hb2.trans (t2.mono hb2.size)
  have t0 : Below w0.heap.size w0 w4 := hb1.trans (t1.mono hb1.size)
  have e0 : w.heap.size + 1 < W.drew.heap.size := hsz
  have e1 := Nat.lt_of_lt_of_le e0 hb0.size
  have e2 := Nat.lt_of_lt_of_le e1 hb1.size
  have e3 := Nat.lt_of_lt_of_le e2 hb2.size
  have e4 := Nat.lt_of_lt_of_le e3 hb3.size
  have hS := same_six w4 (w.heap.size + 1) v0 v1 v2 v3 v4 (.bool r.any)
  have hp : ∀ j, w.heap.size ≤ (⟨w.heap.size + 1, j, none⟩ : Addr).block := fun j => Nat.le_succ _
  have h4 : Below w.heap.size W w4 := (Below.refl _ _).drew.trans ((hb0.mono (by have := hbW.size; omega)).trans (t0.mono (by omega)))
  refine ⟨⟨strs_fin s0 e0 t0 hS, strs_fin s1 e1 t1 hS, strs_fin s2 e2 t2 hS, strs_fin s3 e3 t3 hS, strs_fin s4 e4 t4 hS⟩, ((((((hbW.trans h4).setCell (hp 0) v0).setCell (hp 1) v1).setCell (hp 2) v2).setCell (hp 3) v3).setCell (hp 4) v4).setCell (hp 5) (.bool r.any)⟩

set_option maxHeartbeats 400000 in
theorem cloneRule_any (F : Nat → Prop) (c0 c1 c2 c3 c4 : Value) (r : RuleD) (w : World) (h : RuleV F w c0 c1 c2 c3 c4 r) (hs : SmallR r) :
    Calls Try.prog 14 #[.agg #[c0, c1, c2, c3, c4, .bool r.any]] w fun e w' => RetRule w w' r e ∧ Below w.heap.size w w' := by
  have HV : Hid (∀ w', Below w.heap.size w w' → RuleV F w' c0 c1 c2 c3 c4 r) := fun w' hb => h.same (Same.of_below hb)
  obtain ⟨a0, p0, rfl, _, _⟩ := h.verbs
  obtain ⟨a1, p1, rfl, _, _⟩ := h.groups
  obtain ⟨a2, p2, rfl, _, _⟩ := h.resources
  obtain ⟨a3, p3, rfl, _, _⟩ := h.names
  obtain ⟨a4, p4, rfl, _, _⟩ := h.bys
  have l0 : r.verbs.length ≤ 1048576 := by have := hs.1.1; omega
  have l1 : r.groups.length ≤ 1048576 := by have := hs.2.1.1; omega
  have l2 : r.resources.length ≤ 1048576 := by have := hs.2.2.1.1; omega
  have l3 : r.names.length ≤ 1048576 := by have := hs.2.2.2.1.1; omega
  have l4 : r.bys.length ≤ 1048576 := by have := hs.2.2.2.2.1; omega
  clear h hs
  go_enter Try.func14, Try.ntmps14
  go_wp2_with fail
  generalize hW : (w.alloc (.cells #[.slice a0 r.verbs.length p0, .slice a1 r.groups.length p1, .slice a2 r.resources.length p2, .slice a3 r.names.length p3, .slice a4 r.bys.length p4, .bool r.any] 26)).alloc (.cells #[.slice none 0 0, .slice none 0 0, .slice none 0 0, .slice none 0 0, .slice none 0 0, .bool false] 26) = W
  obtain ⟨⟨x0, x1, x2, x3, x4, x5⟩, hZ, hI, hFz, hsz, hbW⟩ := two_new w _ _ _ _ _ _ _ _ _ _ _ _ 26 26 W hW
  have HZ : Hid _ := hZ
  have HI : Hid _ := hI
  have HFz : Hid _ := hFz
  clear hW hZ hI hFz
  go_region_held3 (fun w' => (w'.cell? ⟨w.heap.size, 0, none⟩ = some (.slice a0 r.verbs.length p0) ∧ w'.cell? ⟨w.heap.size, 1, none⟩ = some (.slice a1 r.groups.length p1) ∧ w'.cell? ⟨w.heap.size, 2, none⟩ = some (.slice a2 r.resources.length p2) ∧ w'.cell? ⟨w.heap.size, 3, none⟩ = some (.slice a3 r.names.length p3) ∧ w'.cell? ⟨w.heap.size, 4, none⟩ = some (.slice a4 r.bys.length p4) ∧ w'.cell? ⟨w.heap.size, 5, none⟩ = some (.bool r.any)) ∧ (∀ j, j < 6 → (w'.cell? ⟨w.heap.size + 1, j, none⟩).isSome = true) ∧ (∀ j, j < 6 → w'.frozen? ⟨w.heap.size + 1, j, none⟩ = false) ∧ w.heap.size + 1 < w'.heap.size ∧ Below (w.heap.size + 1) W w') (first | (with_reducible refine keep6 ?_; assumption) | (with_reducible exact keep_start x0 x1 x2 x3 x4 x5 HI.out HFz.out hsz) | (refine keepNext (by assumption) ?_; assumption)) (first | (go_at_call_of 30 a0; refine (cloneStrs_any F _ r.verbs _ ?_ l0).mono ?_; exact (HV.out _ (below_of_keep hbW (by assumption))).verbs; rintro e w0 ⟨⟨_, rfl, b0, q0, rfl, hs0, hz0⟩, hb0⟩) | (go_at_call_of 30 a1; refine (cloneStrs_any F _ r.groups _ ?_ l1).mono ?_; exact (HV.out _ (below_of_keep hbW (by assumption))).groups; rintro e w1 ⟨⟨_, rfl, b1, q1, rfl, hs1, hz1⟩, hb1⟩) | (go_at_call_of 30 a2; refine (cloneStrs_any F _ r.resources _ ?_ l2).mono ?_; exact (HV.out _ (below_of_keep hbW (by assumption))).resources; rintro e w2 ⟨⟨_, rfl, b2, q2, rfl, hs2, hz2⟩, hb2⟩) | (go_at_call_of 30 a3; refine (cloneStrs_any F _ r.names _ ?_ l3).mono ?_; exact (HV.out _ (below_of_keep hbW (by assumption))).names; rintro e w3 ⟨⟨_, rfl, b3, q3, rfl, hs3, hz3⟩, hb3⟩) | (go_at_call_of 30 a4; refine (cloneStrs_any F _ r.bys _ ?_ l4).mono ?_; exact (HV.out _ (below_of_keep hbW (by assumption))).bys; rintro e w4 ⟨⟨_, rfl, b4, q4, rfl, hs4, hz4⟩, hb4⟩; obtain ⟨z0, z1, z2, z3, z4, z5⟩ := kept_six (W := W.drew) (hb0.trans ((hb1.trans ((hb2.trans ((hb3.trans (hb4.mono hb3.size)).mono hb2.size)).mono hb1.size)).mono hb0.size)) hsz HZ.out))
  have HFIN : Hid (RuleV (New w) _ _ _ _ _ _ r ∧ Below w.heap.size w _) := rule_fin w W w0 w1 w2 w3 w4 r (.slice b0 r.verbs.length q0) (.slice b1 r.groups.length q1) (.slice b2 r.resources.length q2) (.slice b3 r.names.length q3) (.slice b4 r.bys.length q4) hsz hbW hb0 hb1 hb2 hb3 hb4 ⟨b0, q0, rfl, hs0, hz0⟩ ⟨b1, q1, rfl, hs1, hz1⟩ ⟨b2, q2, rfl, hs2, hz2⟩ ⟨b3, q3, rfl, hs3, hz3⟩ ⟨b4, q4, rfl, hs4, hz4⟩
  clear hs0 hs1 hs2 hs3 hs4 hz0 hz1 hz2 hz3 hz4 hb0 hb1 hb2 hb3 hb4
  go_wp2_with fail
  exact bodyPost_ret (v := .agg #[.slice b0 r.verbs.length q0, .slice b1 r.groups.length q1, .slice b2 r.resources.length q2, .slice b3 r.names.length q3, .slice b4 r.bys.length q4, .bool r.any]) (by simp [results, Try.results14, go_sem, z0, z1, z2, z3, z4, z5]) rfl ⟨⟨_, _, _, _, _, rfl, HFIN.out.1⟩, HFIN.out.2⟩
end Go.Proofs.Qxb6606306aRR
