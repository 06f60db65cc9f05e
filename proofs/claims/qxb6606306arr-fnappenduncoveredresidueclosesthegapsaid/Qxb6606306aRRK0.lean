/- strings.Cut at a slash. -/
import Derived.Test.Qxb6606306aRRV1
import Derived.Test.Qxb6606306aRRShelf
import Derived.BigQuiet
import Derived.Lib.IndexLaws
namespace Go.Proofs.Qxb6606306aRR
open Go.RowKit Go.Maps
def slashI (s : ByteArray) : Int := Lib.indexByte s.data.toList 47
def cutF (s : ByteArray) : Bool := decide (0 ≤ slashI s)
def cutA (s : ByteArray) : ByteArray := if 0 ≤ slashI s then s.extract 0 (slashI s).toNat else s
def cutT (s : ByteArray) : ByteArray := if 0 ≤ slashI s then s.extract ((slashI s).toNat + 1) s.size else ⟨#[]⟩
theorem slash_lt {s : ByteArray} {n : Nat} (h : Lib.indexByte s.data.toList 47 = (n : Int)) : n < s.size := by
  have h1 := (Lib.indexByte_some h).1
  have h2 := (List.getElem?_eq_some_iff.1 h1).1
  simpa using h2
set_option maxHeartbeats 400000 in
theorem cut44 (s : ByteArray) (w : World) (hs : s.size ≤ 1048576) :
    Calls Try.prog 44 #[.string s, .string ⟨#[47]⟩] w fun e w' => e = .returned (.tuple #[.string (cutA s), .string (cutT s), .bool (cutF s)]) ∧ Below w.heap.size w w' := by
  go_enter Try.func44, Try.ntmps44
  go_wp2_with fail
  refine (Try.stringslite_Index_one s 47 _).mono ?_
  rintro e w1 ⟨rfl, rfl⟩
  obtain ⟨i, hi⟩ : ∃ i, Lib.indexByte s.data.toList 47 = i := ⟨_, rfl⟩
  rw [hi]
  by_cases h0 : 0 ≤ i
  · obtain ⟨n, rfl⟩ : ∃ n : Nat, i = n := ⟨i.toNat, by omega⟩
    have hn := slash_lt hi
    have HA : Hid (cutA s = s.extract 0 n ∧ cutT s = s.extract (n + 1) s.size ∧ cutF s = true) := by
      have : slashI s = n := hi
      exact ⟨by unfold cutA; rw [this]; simp, by unfold cutT; rw [this]; simp, by unfold cutF; rw [this]; simp⟩
    clear hi h0
    go_wp2_with fail
    go_region
    go_wp2_with fail
    exact bodyPost_ret (v := .tuple #[.string (s.extract 0 n), .string (s.extract (n + 1) s.size), .bool true]) (by simp [results, Try.results44, go_sem]) rfl ⟨by rw [HA.out.1, HA.out.2.1, HA.out.2.2], (Below.refl _ _).drew⟩
  · have HA : Hid (cutA s = s ∧ cutT s = ⟨#[]⟩ ∧ cutF s = false) := by
      have : slashI s = i := hi
      exact ⟨by unfold cutA; rw [this, if_neg h0], by unfold cutT; rw [this, if_neg h0], by unfold cutF; rw [this]; simpa using h0⟩
    clear hi
    go_wp2_with fail
    exact bodyPost_ret (v := .tuple #[.string s, .string ⟨#[]⟩, .bool false]) (by simp [results, Try.results44, go_sem]) rfl ⟨by rw [HA.out.1, HA.out.2.1, HA.out.2.2], Below.refl _ _⟩
set_option maxHeartbeats 400000 in
theorem cut40 (s : ByteArray) (w : World) (hs : s.size ≤ 1048576) :
    Calls Try.prog 40 #[.string s, .string ⟨#[47]⟩] w fun e w' => e = .returned (.tuple #[.string (cutA s), .string (cutT s), .bool (cutF s)]) ∧ Below w.heap.size w w' := by
  go_enter Try.func40, Try.ntmps40
  go_wp2_with fail
  refine (cut44 s _ hs).mono ?_
  rintro e w1 ⟨rfl, hb⟩
  go_wp2_with fail
  exact bodyPost_ret (v := .tuple #[.string (cutA s), .string (cutT s), .bool (cutF s)]) (by simp [results, Try.results40, go_sem]) rfl ⟨rfl, hb⟩
end Go.Proofs.Qxb6606306aRR
