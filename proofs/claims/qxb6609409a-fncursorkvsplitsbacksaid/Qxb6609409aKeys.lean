/- zzHasDot, JoinKey and SplitKey. -/
import Derived.Test.Qxb6609409aRows
import Derived.Test.Qxb6609409aShelf
import Derived.WalkKit
import Derived.WalkSpells
import Derived.WalkLawsBesides
namespace Go.Proofs.Qxb6609409a
open Go.RowKit

def dotB (s : ByteArray) : Bool := decide (0 ≤ Lib.indexByte s.data.toList 46)
theorem contains_dot (s : ByteArray) (w : World) : Calls Try.prog 16 #[.string s, .string ⟨#[46]⟩] w fun e w' => e = .returned (.bool (dotB s)) ∧ w' = w :=
  Try.strings_Contains_one s 46 w

theorem idx_mem (c : UInt8) : ∀ l : List UInt8, 0 ≤ Lib.indexByte l c ↔ c ∈ l
  | [] => by simp [Lib.indexByte]
  | b :: l => by
    have ih := idx_mem c l
    have hge := Lib.indexByte_ge l c
    unfold Lib.indexByte
    by_cases h : b = c
    · simp [h]
    · have h1 : (b == c) = false := by simp [h]
      have h2 : ¬ c = b := fun e => h e.symm
      simp only [h1, List.mem_cons, h2, false_or]
      rw [← ih]
      by_cases h3 : Lib.indexByte l c = -1
      · simp [h3]
      · have h4 : (Lib.indexByte l c == -1) = false := by simp [h3]
        simp only [h4, Bool.false_eq_true, if_false]
        omega

theorem dotB_mem (s : ByteArray) : dotB s = true ↔ (46 : UInt8) ∈ s.data.toList := by
  unfold dotB
  rw [decide_eq_true_iff]
  exact idx_mem 46 _
theorem getE (s : ByteArray) (k : Nat) (h : k < s.size) : s.data.toList[k]'(by rw [← Lib.size_eq]; exact h) = s[k] := rfl
theorem dotB_yes (s : ByteArray) (k : Nat) (h : k < s.size) (hk : s[k] = 46) : dotB s = true := by
  rw [dotB_mem, ← hk, ← getE s k h]
  exact List.getElem_mem _
theorem dotB_no (s : ByteArray) (h : ∀ j, (hj : j < s.size) → s[j] ≠ 46) : dotB s = false := by
  cases hq : dotB s with
  | false => rfl
  | true =>
    rw [dotB_mem] at hq
    obtain ⟨j, hj, e⟩ := List.getElem_of_mem hq
    exact absurd e (h j (by rw [Lib.size_eq]; exact hj))
theorem idx_none (s : ByteArray) (h : dotB s = false) : Lib.indexByte s.data.toList 46 = -1 := by
  have h1 : ¬ 0 ≤ Lib.indexByte s.data.toList 46 := of_decide_eq_false h
  have := Lib.indexByte_ge s.data.toList 46
  omega
theorem idx_app (m : List UInt8) : ∀ l : List UInt8, Lib.indexByte l 46 = -1 → Lib.indexByte (l ++ 46 :: m) 46 = l.length
  | [], _ => by simp [Lib.indexByte]
  | b :: l, h => by
    have hge := Lib.indexByte_ge l 46
    unfold Lib.indexByte at h
    by_cases hb : b = 46
    · simp [hb] at h
    · have h1 : (b == 46) = false := by simp [hb]
      by_cases h3 : Lib.indexByte l 46 = -1
      · have ih := idx_app m l h3
        have h5 : ((l.length : Int) == -1) = false := by rw [beq_eq_false_iff_ne]; omega
        rw [List.cons_append]
        unfold Lib.indexByte
        rw [h1, ih, h5]
        simp
      · have h4 : (Lib.indexByte l 46 == -1) = false := by simp [h3]
        simp only [h1, h4, Bool.false_eq_true, if_false] at h
        omega

def mainT : ByteArray := ⟨#[109, 97, 105, 110]⟩
def dotS : ByteArray := ⟨#[46]⟩
theorem same_bytes (a b : ByteArray) (h : (a.toList == b.toList) = true) : a = b := by
  have h2 : a.toList = b.toList := by simpa using h
  rw [Lib.toList_data, Lib.toList_data] at h2
  apply ByteArray.ext
  exact Array.toList_inj.1 h2

set_option maxHeartbeats 400000 in
theorem hasdot_any (s : ByteArray) (w : World) (hs : s.size ≤ 1048576) :
    Calls Try.prog 6 #[.string s] w fun e w' => e = .returned (.bool (dotB s)) ∧ w' = w := by
  go_enter Try.func6, Try.ntmps6
  go_wp2_with fail
  go_loop [3] (fun i => ∃ k : Nat, k ≤ s.size ∧ i = .int .i64 k ∧ Hid (∀ j, (hj : j < s.size) → j < k → s[j] ≠ 46)) (fun i => s.size - (intOf i).toNat)
  case atStart => exact ⟨0, Nat.zero_le _, rfl, fun j _ h => absurd h (Nat.not_lt_zero _)⟩
  case round =>
    obtain ⟨k, hk, rfl, hno⟩ := hrel
    by_cases hlt : k < s.size
    · by_cases h61 : s[k] = 46
      · have hb : (((s[k]).toNat : Int) == 46) = true := by rw [h61]; rfl
        have HY : Hid (dotB s = true) := dotB_yes s k hlt h61
        clear h61
        go_wp2_with fail
        go_ret
        exact ⟨by rw [HY.out]; rfl, rfl⟩
      · have hb : (((s[k]).toNat : Int) == 46) = false := by
          rw [beq_eq_false_iff_ne]
          intro e
          apply h61
          apply UInt8.toNat_inj.1
          have : (46 : UInt8).toNat = 46 := rfl
          omega
        have HN : Hid (∀ j, (hj : j < s.size) → j < k + 1 → s[j] ≠ 46) := fun j hj hjk => by
          rcases Nat.lt_or_ge j k with h | h
          · exact hno.out j hj h
          · obtain rfl : j = k := by omega
            exact h61
        clear h61 hno
        go_wp2_with fail
        go_round
        case rel => exact ⟨k + 1, by omega, by go_num, HN⟩
        case measure => simp [intOf]; omega
    · have HY : Hid (dotB s = false) := dotB_no s fun j hj => hno.out j hj (by omega)
      clear hno
      go_wp2_with fail
      go_ret
      exact ⟨by rw [HY.out]; rfl, rfl⟩

set_option maxHeartbeats 400000 in
theorem join_alone (n : ByteArray) (w : World) (hn : dotB n = false) :
    Calls Try.prog 14 #[.string ⟨#[109, 97, 105, 110]⟩, .string n] w fun e w' => e = .returned (.string n) ∧ w' = w := by
  have H16 : Hid (∀ w, Calls Try.prog 16 #[.string n, .string ⟨#[46]⟩] w fun e w' => e = .returned (.bool false) ∧ w' = w) := fun w => by rw [← hn]; exact contains_dot n w
  clear hn
  go_enter Try.func14, Try.ntmps14
  go_wp2_with (go_at_call 16; refine (H16.out _).mono ?_; rintro e w9 ⟨rfl, rfl⟩)
  go_ret
  exact ⟨rfl, rfl⟩

set_option maxHeartbeats 400000 in
theorem join_main (n : ByteArray) (w : World) (hs : n.size ≤ 1048576) (hn : dotB n = true) :
    Calls Try.prog 14 #[.string ⟨#[109, 97, 105, 110]⟩, .string n] w fun e w' => e = .returned (.string (⟨#[109, 97, 105, 110]⟩ ++ ⟨#[46]⟩ ++ n)) ∧ w' = w := by
  have H16 : Hid (∀ w, Calls Try.prog 16 #[.string n, .string ⟨#[46]⟩] w fun e w' => e = .returned (.bool true) ∧ w' = w) := fun w => by rw [← hn]; exact contains_dot n w
  clear hn
  go_enter Try.func14, Try.ntmps14
  go_wp2_with (go_at_call 16; refine (H16.out _).mono ?_; rintro e w9 ⟨rfl, rfl⟩)
  go_ret
  exact ⟨rfl, rfl⟩

set_option maxHeartbeats 400000 in
theorem join_other (t n : ByteArray) (w : World) (ht : t.size ≤ 1048576) (hs : n.size ≤ 1048576) (hm : (t.toList == [109, 97, 105, 110]) = false) :
    Calls Try.prog 14 #[.string t, .string n] w fun e w' => e = .returned (.string (t ++ ⟨#[46]⟩ ++ n)) ∧ w' = w := by
  go_enter Try.func14, Try.ntmps14
  go_wp2_with fail
  go_ret
  exact ⟨rfl, rfl⟩
end Go.Proofs.Qxb6609409a
