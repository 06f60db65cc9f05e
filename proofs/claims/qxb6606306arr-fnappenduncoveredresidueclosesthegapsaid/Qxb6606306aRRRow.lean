/- A block of cells, and rows written into it. -/
import Derived.Test.Qxb6606306aRRC2
import Derived.Laws.IdiomCopy
namespace Go.Proofs.Qxb6606306aRR
open Go.RowKit

/-- Block B is a row of m cells of element type t, none frozen. -/
def Blk (w : World) (B t m : Nat) : Prop := ∃ cur, w.heap[B]? = some (.cells cur t (0, 0)) ∧ cur.size = m
theorem Blk.lt {w : World} {B t m : Nat} (h : Blk w B t m) : B < w.heap.size := by
  obtain ⟨cur, hb, _⟩ := h
  exact (Array.getElem?_eq_some_iff.1 hb).1
theorem Blk.same {F : Nat → Prop} {w w' : World} {B t m : Nat} (h : Blk w B t m) (hF : F B) (s : Same F w w') : Blk w' B t m := by
  have hl := h.lt
  obtain ⟨cur, hb, hz⟩ := h
  exact ⟨cur, (s.2 B hF hl).trans hb, hz⟩
theorem Blk.of_owns {w : World} {base e size g n cap : Nat} {xs : List Value} (h : w.ownsRow base e size (.slice (some ⟨g, 0, none⟩) n cap) n xs) : Blk w g e (cap * size) := by
  rcases h.2 with ⟨h', _⟩ | ⟨g', cap', cur, h', _, hg, _, _, hcs, _⟩
  · cases h'
  · cases h'; exact ⟨cur, hg, hcs⟩
theorem Blk.cell {w : World} {B t m : Nat} (h : Blk w B t m) (j : Nat) (hj : j < m) : ∃ u, w.cell? ⟨B, j, none⟩ = some u := by
  obtain ⟨cur, hb, hz⟩ := h
  rw [cell_of_row w B j cur t (0, 0) hb]
  exact ⟨cur[j]'(by omega), Array.getElem?_eq_getElem (by omega)⟩
theorem Blk.frozen {w : World} {B t m : Nat} (h : Blk w B t m) (j : Nat) : w.frozen? ⟨B, j, none⟩ = false := by
  obtain ⟨cur, hb, hz⟩ := h
  simp [World.frozen?, hb]
theorem Blk.set {w : World} {B t m : Nat} (h : Blk w B t m) (j : Nat) (v : Value) : Blk (w.setCell ⟨B, j, none⟩ v) B t m := by
  obtain ⟨cur, hb, hz⟩ := h
  exact ⟨cur.setIfInBounds j v, heap_setCell_same w B j cur t v hb, by simpa using hz⟩
theorem Same.sets (w : World) (B : Nat) : ∀ (vs : List Value) (o : Nat), Same (fun b => b ≠ B) w (w.setCells B o vs) := by
  intro vs
  induction vs generalizing w with
  | nil => intro o; exact Same.refl _ _
  | cons v vs ih => intro o; exact (Same.set w ⟨B, o, none⟩ v).trans (ih _ _)
theorem Blk.sets {B t m : Nat} (vs : List Value) : ∀ {w : World} (_ : Blk w B t m) (o : Nat), Blk (w.setCells B o vs) B t m := by
  induction vs with
  | nil => intro w h o; exact h
  | cons v vs ih => intro w h o; exact ih (h.set o v) _
theorem below_sets {B : Nat} {a : World} {g : Nat} (hg : B ≤ g) (vs : List Value) : ∀ {w : World} (_ : Below B a w) (o : Nat), Below B a (w.setCells g o vs) := by
  induction vs with
  | nil => intro w h o; exact h
  | cons v vs ih => intro w h o; exact ih (h.setCell (p := ⟨g, o, none⟩) hg v) _
theorem sets_at {w : World} {B t m : Nat} (h : Blk w B t m) (o : Nat) (vs : List Value) (hm : o + vs.length ≤ m) (j : Nat) (hj : j < vs.length) : (w.setCells B o vs).cell? ⟨B, o + j, none⟩ = some vs[j] :=
  World.cell?_setCells_in B vs o w (fun i hi => by obtain ⟨u, hu⟩ := h.cell (o + i) (by omega); rw [hu]; rfl) j hj
theorem sets_out (w : World) (B o : Nat) (vs : List Value) (i : Nat) (h : i < o ∨ o + vs.length ≤ i) : (w.setCells B o vs).cell? ⟨B, i, none⟩ = w.cell? ⟨B, i, none⟩ :=
  World.cell?_setCells_out B vs o w ⟨B, i, none⟩ (fun _ _ => h)
end Go.Proofs.Qxb6606306aRR
