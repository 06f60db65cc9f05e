/- The plain law of FnURICharsEncoded: lists of bytes, no Go. -/
import Derived.Lib.Bytealg
namespace Go.Proofs.Qxb6608519a

/-- The bytes that isHexDigit looks through. -/
def hexD : List UInt8 := [48, 49, 50, 51, 52, 53, 54, 55, 56, 57, 97, 98, 99, 100, 101, 102, 65, 66, 67, 68, 69, 70]
def hexB (c : UInt8) : Bool := decide (0 ≤ Lib.indexByte hexD c)

/-- Whole escapes and nothing behind them (e = true), or whole escapes and a cut-off one (e = false). -/
def good (e : Bool) : List UInt8 → Bool
  | [] => e
  | [c] => !e && c == 37
  | [c, _] => !e && c == 37
  | c :: a :: b :: t => c == 37 && hexB a && hexB b && good e t

theorem good_append (e : Bool) (m : List UInt8) : ∀ l, good true l = true → good e m = true → good e (l ++ m) = true
  | [], _, h => h
  | [_], h, _ => by simp [good] at h
  | [_, _], h, _ => by simp [good] at h
  | c :: a :: b :: t, h, hm => by
    simp only [good, Bool.and_eq_true] at h
    simp only [List.cons_append, good, Bool.and_eq_true]
    exact ⟨h.1, good_append e m t h.2 hm⟩

/-- The digits' row at place i: upper case at even places, lower case at odd ones. -/
def hx (i : Nat) : List UInt8 := if i % 2 = 1 then [48, 49, 50, 51, 52, 53, 54, 55, 56, 57, 97, 98, 99, 100, 101, 102] else [48, 49, 50, 51, 52, 53, 54, 55, 56, 57, 65, 66, 67, 68, 69, 70]
def encAt (i : Nat) (c : UInt8) : List UInt8 := [37, (hx i).getD (c.toNat / 16) 0, (hx i).getD (c.toNat % 16) 0]
def encTo (s : List UInt8) : Nat → List UInt8
  | 0 => []
  | k + 1 => encTo s k ++ encAt k (s.getD k 0)

theorem encTo_length (s : List UInt8) : ∀ k, (encTo s k).length = 3 * k
  | 0 => rfl
  | k + 1 => by simp [encTo, encAt, encTo_length s k]; omega

theorem hx_hex (i n : Nat) (h : n < 16) : hexB ((hx i).getD n 0) = true := by
  have : ∀ b : Bool, ∀ n, n < 16 → hexB ((if b then ([48, 49, 50, 51, 52, 53, 54, 55, 56, 57, 97, 98, 99, 100, 101, 102] : List UInt8) else [48, 49, 50, 51, 52, 53, 54, 55, 56, 57, 65, 66, 67, 68, 69, 70]).getD n 0) = true := by decide +kernel
  have h2 := this (decide (i % 2 = 1)) n h
  unfold hx
  simpa using h2

theorem encAt_good (i : Nat) (c : UInt8) : good true (encAt i c) = true := by
  have h1 : c.toNat / 16 < 16 := by have := c.toNat_lt; omega
  have h2 : c.toNat % 16 < 16 := by omega
  simp only [encAt, good, hx_hex i _ h1, hx_hex i _ h2]
  rfl

theorem encTo_good (s : List UInt8) : ∀ k, good true (encTo s k) = true
  | 0 => rfl
  | k + 1 => good_append true _ _ (encTo_good s k) (encAt_good k _)

theorem encTo_pct (s : List UInt8) (k : Nat) : good false (encTo s k ++ [37]) = true :=
  good_append false _ _ (encTo_good s k) rfl

theorem encTo_cut (s : List UInt8) (k : Nat) (h : 0 < k) : good false ((encTo s k).take ((encTo s k).length - 1)) = true := by
  obtain ⟨j, rfl⟩ : ∃ j, k = j + 1 := ⟨k - 1, by omega⟩
  have e : (encTo s (j + 1)).take ((encTo s (j + 1)).length - 1) = encTo s j ++ [37, (hx j).getD ((s.getD j 0).toNat / 16) 0] := by
    rw [encTo_length]
    show (encTo s j ++ encAt j _).take _ = _
    rw [List.take_append, encTo_length, List.take_of_length_le (by rw [encTo_length]; omega)]
    rw [show 3 * (j + 1) - 1 - 3 * j = 2 from by omega]
    rfl
  rw [e]
  exact good_append false _ _ (encTo_good s j) rfl

theorem idx_pct (t : List UInt8) : Lib.indexByte (37 :: t) 37 = 0 := by simp [Lib.indexByte]
end Go.Proofs.Qxb6608519a
