/- coverResource. -/
import Derived.Test.Qxb6606306aRRK1
namespace Go.Proofs.Qxb6606306aRR
open Go.RowKit Go.Maps
abbrev HeldF := ByteArray → Bool → Bool
/-- Each part before a slash is held, from i on. -/
def partsB (H : HeldF) (s : ByteArray) : Nat → Bool
  | 0 => true
  | k + 1 => partsB H s k && (!(s.data.toList.getD k 0 == 47) || H (s.extract 0 k) true)
def subSlash (s : ByteArray) : ByteArray := ⟨#[42, 47]⟩ ++ cutT s
/-- What coverResource answers. -/
def crB (H : HeldF) (s : ByteArray) (b : Bool) : Bool :=
  H s b || H star false || H star true || (!b && ((cutF s && H (subSlash s) false) || (H s true && partsB H s s.size)))
theorem partsB_mono {H K : HeldF} (h : ∀ t q, H t q = true → K t q = true) (s : ByteArray) : ∀ k, partsB H s k = true → partsB K s k = true
  | 0, e => e
  | k + 1, e => by
    unfold partsB at e ⊢
    rw [Bool.and_eq_true, Bool.or_eq_true] at e ⊢
    exact ⟨partsB_mono h s k e.1, e.2.imp id (h _ _)⟩
theorem crB_mono {H K : HeldF} (h : ∀ t q, H t q = true → K t q = true) (s : ByteArray) (b : Bool) (e : crB H s b = true) : crB K s b = true := by
  unfold crB at e ⊢
  simp only [Bool.or_eq_true, Bool.and_eq_true] at e ⊢
  rcases e with ((e | e) | e) | ⟨e1, e2⟩
  · exact .inl (.inl (.inl (h _ _ e)))
  · exact .inl (.inl (.inr (h _ _ e)))
  · exact .inl (.inr (h _ _ e))
  · exact .inr ⟨e1, e2.imp (fun e => ⟨e.1, h _ _ e.2⟩) (fun e => ⟨h _ _ e.1, partsB_mono h s _ e.2⟩)⟩
theorem crB_self {H : HeldF} {s : ByteArray} {b : Bool} (e : H s b = true) : crB H s b = true := by
  unfold crB
  simp [e]
theorem partsB_false {H : HeldF} {s : ByteArray} : ∀ {k n : Nat}, k < n → (s.data.toList.getD k 0 == 47) = true → H (s.extract 0 k) true = false → partsB H s n = false
  | k, 0, h, _, _ => absurd h (Nat.not_lt_zero _)
  | k, n + 1, h, h1, h2 => by
    unfold partsB
    rcases (by omega : k < n ∨ k = n) with h' | rfl
    · rw [partsB_false h' h1 h2]; rfl
    · rw [h1, h2]; simp
theorem cutT_size {s : ByteArray} (hs : s.size ≤ 1048576) : (subSlash s).size ≤ 1048578 := by
  unfold subSlash cutT
  rw [ByteArray.size_append]
  split
  · rw [ByteArray.size_extract]
    have : (ByteArray.mk #[42, 47]).size = 2 := rfl
    omega
  · have : (ByteArray.mk #[42, 47]).size = 2 := rfl
    have : (ByteArray.mk #[]).size = 0 := rfl
    omega

/-- Six boxes: what coverResource begins with. -/
theorem six_boxes (w : World) (sv : Value) (v g s name : ByteArray) (b named : Bool) (W : World) (hW : (((((w.alloc (.cells #[sv] 35)).alloc (.cells #[.string v] 9)).alloc (.cells #[.string g] 9)).alloc (.cells #[.string s, .bool b] 56)).alloc (.cells #[.string name] 9)).alloc (.cells #[.bool named] 4) = W) :
    W.cell? ⟨w.heap.size, 0, none⟩ = some sv ∧ Caps W (w.heap.size + 1) (w.heap.size + 2) (w.heap.size + 4) (w.heap.size + 5) v g name named ∧ W.cell? ⟨w.heap.size + 3, 0, none⟩ = some (.string s) ∧ W.cell? ⟨w.heap.size + 3, 1, none⟩ = some (.bool b) ∧ Below w.heap.size w W := by
  subst hW
  refine ⟨?_, ⟨?_, ?_, ?_, ?_⟩, ?_, ?_, ?_⟩
  all_goals try (go_simp; done)
  exact ((((((Below.refl _ _).alloc (Nat.le_refl _) _).alloc (by simp) _).alloc (by simp; omega) _).alloc (by simp; omega) _).alloc (by simp; omega) _).alloc (by simp; omega) _
end Go.Proofs.Qxb6606306aRR
