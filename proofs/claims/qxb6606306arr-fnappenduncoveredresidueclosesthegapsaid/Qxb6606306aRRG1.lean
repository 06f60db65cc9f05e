/- The guards over one list of strings, each with the very number it returns: strsBytes, capBytes, maxLen. -/
import Derived.Test.Qxb6606306aRRShape
namespace Go.Proofs.Qxb6606306aRR
open Go.RowKit

/-- Few words, and short ones. -/
def Small (xs : List ByteArray) : Prop := xs.length ≤ 65536 ∧ ∀ s ∈ xs, s.size ≤ 1048576
def strsGo : List ByteArray → Int → Int
  | [], z => z
  | s :: t, z => if 1048576 < (s.size : Int) then 1048577 else if 1048576 < z + s.size then 1048577 else strsGo t (z + s.size)
def strsB (xs : List ByteArray) : Int := if 1048576 < (xs.length : Int) then 1048577 else if 1048576 < 16 * (xs.length : Int) then 1048577 else strsGo xs (16 * xs.length)

theorem strsGo_bd : ∀ (xs : List ByteArray) (z : Int), 0 ≤ z → z ≤ 1048576 → 0 ≤ strsGo xs z ∧ strsGo xs z ≤ 1048577 ∧ (strsGo xs z ≤ 1048576 → ∀ s ∈ xs, s.size ≤ 1048576)
  | [], z, h0, h1 => ⟨h0, by unfold strsGo; omega, fun _ s hs => absurd hs List.not_mem_nil⟩
  | s :: t, z, h0, h1 => by
    unfold strsGo
    by_cases h3 : 1048576 < (s.size : Int)
    · rw [if_pos h3]; exact ⟨by omega, by omega, fun h => by omega⟩
    · rw [if_neg h3]
      by_cases h4 : 1048576 < z + (s.size : Int)
      · rw [if_pos h4]; exact ⟨by omega, by omega, fun h => by omega⟩
      · rw [if_neg h4]
        obtain ⟨a, b, c⟩ := strsGo_bd t (z + s.size) (by omega) (by omega)
        exact ⟨a, b, fun h x hx => by
          rcases List.mem_cons.1 hx with rfl | hx
          · omega
          · exact c h x hx⟩
theorem strsB_bd (xs : List ByteArray) : 0 ≤ strsB xs ∧ strsB xs ≤ 1048577 ∧ (strsB xs ≤ 1048576 → Small xs) := by
  unfold strsB
  by_cases h1 : 1048576 < (xs.length : Int)
  · rw [if_pos h1]; exact ⟨by omega, by omega, fun h => by omega⟩
  · rw [if_neg h1]
    by_cases h2 : 1048576 < 16 * (xs.length : Int)
    · rw [if_pos h2]; exact ⟨by omega, by omega, fun h => by omega⟩
    · rw [if_neg h2]
      obtain ⟨a, b, c⟩ := strsGo_bd xs (16 * xs.length) (by omega) (by omega)
      exact ⟨a, b, fun h => ⟨by omega, c h⟩⟩
theorem drop_getD (xs : List ByteArray) (k : Nat) (h : k < xs.length) : xs.drop k = xs.getD k ByteArray.empty :: xs.drop (k + 1) := by
  rw [List.drop_eq_getElem_cons h, List.getD_eq_getElem?_getD, List.getElem?_eq_getElem h]; rfl

set_option maxHeartbeats 400000 in
theorem strsBytes_any (F : Nat → Prop) (v : Value) (xs : List ByteArray) (w : World) (h : Strs F w v xs) :
    Calls Try.prog 24 #[v] w fun e w' => e = .returned (.int .i64 (strsB xs)) ∧ w' = w := by
  obtain ⟨a, cap, rfl, hc, hz⟩ := h
  by_cases h1 : 1048576 < (xs.length : Int)
  · have HE : Hid (strsB xs = 1048577) := by show _ = _; unfold strsB; rw [if_pos h1]
    go_enter Try.func24, Try.ntmps24
    go_wp2_with fail
    go_ret
    exact ⟨by rw [HE.out]; rfl, rfl⟩
  · by_cases h2 : 1048576 < 16 * (xs.length : Int)
    · have HE : Hid (strsB xs = 1048577) := by show _ = _; unfold strsB; rw [if_neg h1, if_pos h2]
      go_enter Try.func24, Try.ntmps24
      go_wp2_with fail
      go_ret
      exact ⟨by rw [HE.out]; rfl, rfl⟩
    · have HC : Hid (∀ i, i < xs.length → ∃ b off, a = some ⟨b, off, none⟩ ∧ F b ∧ b < w.heap.size ∧ w.cell? ⟨b, off + i, none⟩ = some (.string (xs.getD i ByteArray.empty))) := hc
      have HE : Hid (strsB xs = strsGo xs (16 * xs.length)) := by show _ = _; unfold strsB; rw [if_neg h1, if_neg h2]
      clear hc
      go_enter Try.func24, Try.ntmps24
      go_wp2_with fail
      go_loop [3, 4] (fun n i => ∃ (k : Nat) (z : Int), k ≤ xs.length ∧ i = .int .i64 k ∧ n = .int .i64 z ∧ 0 ≤ z ∧ z ≤ 1048576 ∧ Hid (strsB xs = strsGo (xs.drop k) z)) (fun _ i => xs.length - (intOf i).toNat)
      case atStart => exact ⟨0, 16 * (xs.length : Int), Nat.zero_le _, rfl, rfl, by omega, by omega, HE⟩
      case round =>
        obtain ⟨k, z, hk, rfl, rfl, hz0, hz1, hsm⟩ := hrel
        by_cases hlt : k < xs.length
        · obtain ⟨b, off, rfl, _, _, hcell⟩ := HC.out k hlt
          have HG := hsm.out
          rw [drop_getD xs k hlt] at HG
          obtain ⟨s, hs⟩ : ∃ s, xs.getD k ByteArray.empty = s := ⟨_, rfl⟩
          have hss : s.size ≤ Go.maxLen := hs ▸ hz _ (getD_mem xs k hlt)
          rw [hs] at hcell HG
          unfold Go.maxLen at hss
          unfold strsGo at HG
          clear hs HC hz HE hsm
          by_cases h3 : 1048576 < (s.size : Int)
          · rw [if_pos h3] at HG
            have HH : Hid (strsB xs = 1048577) := HG
            clear HG
            go_wp2_with fail
            go_ret
            exact ⟨by rw [HH.out]; rfl, rfl⟩
          · rw [if_neg h3] at HG
            by_cases h4 : 1048576 < z + (s.size : Int)
            · rw [if_pos h4] at HG
              have HH : Hid (strsB xs = 1048577) := HG
              clear HG
              go_wp2_with fail
              go_ret
              exact ⟨by rw [HH.out]; rfl, rfl⟩
            · rw [if_neg h4] at HG
              have HH : Hid (strsB xs = strsGo (xs.drop (k + 1)) (z + s.size)) := HG
              clear HG
              go_wp2_with fail
              go_round
              case rel => exact ⟨k + 1, z + s.size, by omega, by go_num, rfl, by omega, by omega, HH⟩
              case measure => simp [intOf]; omega
        · have HF : Hid (strsB xs = z) := by
            have := hsm.out
            rw [List.drop_of_length_le (by omega)] at this
            exact this
          clear hsm HE HC
          go_wp2_with fail
          go_ret
          exact ⟨by rw [HF.out]; rfl, rfl⟩

def capB (n : Int) : Int := if n < 0 ∨ 1048576 < n then 1048577 else n
set_option maxHeartbeats 400000 in
theorem capBytes_any (n : Int) (w : World) :
    Calls Try.prog 21 #[.int .i64 n] w fun e w' => e = .returned (.int .i64 (capB n)) ∧ w' = w := by
  by_cases h1 : n < 0
  · have HE : Hid (capB n = 1048577) := if_pos (.inl h1)
    go_enter Try.func21, Try.ntmps21
    go_wp2
    all_goals
      go_ret
      exact ⟨by rw [HE.out]; rfl, rfl⟩
  · by_cases h2 : 1048576 < n
    · have HE : Hid (capB n = 1048577) := if_pos (.inr h2)
      go_enter Try.func21, Try.ntmps21
      go_wp2
      all_goals
        go_ret
        exact ⟨by rw [HE.out]; rfl, rfl⟩
    · have HE : Hid (capB n = n) := if_neg (by omega)
      go_enter Try.func21, Try.ntmps21
      go_wp2
      all_goals
        go_ret
        exact ⟨by rw [HE.out]; rfl, rfl⟩
theorem capB_bd (n : Int) : 0 ≤ capB n ∧ capB n ≤ 1048577 ∧ (capB n ≤ 1048576 → 0 ≤ n ∧ n ≤ 1048576) := by
  unfold capB
  split <;> omega

def maxGo : List ByteArray → Int → Int
  | [], z => z
  | s :: t, z => maxGo t (if z < (s.size : Int) then s.size else z)
theorem maxGo_bd : ∀ (xs : List ByteArray) (z : Int), 0 ≤ z → z ≤ 1048576 → (∀ s ∈ xs, s.size ≤ 1048576) → 0 ≤ maxGo xs z ∧ maxGo xs z ≤ 1048576
  | [], z, h0, h1, _ => ⟨h0, h1⟩
  | s :: t, z, h0, h1, h => by
    have hs := h s (List.mem_cons_self ..)
    unfold maxGo
    exact maxGo_bd t _ (by split <;> omega) (by split <;> omega) (fun x hx => h x (List.mem_cons_of_mem _ hx))

set_option maxHeartbeats 400000 in
theorem maxLen_any (F : Nat → Prop) (v : Value) (xs : List ByteArray) (w : World) (h : Strs F w v xs) (hs : Small xs) :
    Calls Try.prog 27 #[v] w fun e w' => e = .returned (.int .i64 (maxGo xs 0)) ∧ w' = w := by
  obtain ⟨a, cap, rfl, hc, hz⟩ := h
  have HC : Hid (∀ i, i < xs.length → ∃ b off, a = some ⟨b, off, none⟩ ∧ F b ∧ b < w.heap.size ∧ w.cell? ⟨b, off + i, none⟩ = some (.string (xs.getD i ByteArray.empty))) := hc
  obtain ⟨hs1, hs2⟩ := hs
  clear hc hz
  go_enter Try.func27, Try.ntmps27
  go_wp2_with fail
  go_loop [3, 4] (fun n i => ∃ (k : Nat) (z : Int), k ≤ xs.length ∧ i = .int .i64 k ∧ n = .int .i64 z ∧ 0 ≤ z ∧ z ≤ 1048576 ∧ Hid (maxGo xs 0 = maxGo (xs.drop k) z)) (fun _ i => xs.length - (intOf i).toNat)
  case atStart => exact ⟨0, 0, Nat.zero_le _, rfl, rfl, by omega, by omega, rfl⟩
  case round =>
    obtain ⟨k, z, hk, rfl, rfl, hz0, hz1, hsm⟩ := hrel
    by_cases hlt : k < xs.length
    · obtain ⟨b, off, rfl, _, _, hcell⟩ := HC.out k hlt
      have HG := hsm.out
      rw [drop_getD xs k hlt] at HG
      obtain ⟨s, hs⟩ : ∃ s, xs.getD k ByteArray.empty = s := ⟨_, rfl⟩
      rw [hs] at hcell
      conv at HG => rhs; rw [hs]; unfold maxGo
      have hss : s.size ≤ 1048576 := hs ▸ hs2 _ (getD_mem xs k hlt)
      clear hs HC hs2 hsm
      by_cases h3 : z < (s.size : Int)
      · rw [if_pos h3] at HG
        have HH : Hid (maxGo xs 0 = maxGo (xs.drop (k + 1)) s.size) := HG
        clear HG
        go_wp2_with fail
        go_round
        case rel => exact ⟨k + 1, s.size, by omega, by go_num, rfl, by omega, by omega, HH⟩
        case measure => simp [intOf]; omega
      · rw [if_neg h3] at HG
        have HH : Hid (maxGo xs 0 = maxGo (xs.drop (k + 1)) z) := HG
        clear HG
        go_wp2_with fail
        go_round
        case rel => exact ⟨k + 1, z, by omega, by go_num, rfl, by omega, by omega, HH⟩
        case measure => simp [intOf]; omega
    · have HF : Hid (maxGo xs 0 = z) := by
        have := hsm.out
        rw [List.drop_of_length_le (by omega)] at this
        exact this
      clear hsm HC
      go_wp2_with fail
      go_ret
      exact ⟨by rw [HF.out]; rfl, rfl⟩
end Go.Proofs.Qxb6606306aRR
