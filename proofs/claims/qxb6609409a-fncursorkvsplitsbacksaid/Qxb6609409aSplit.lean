/- SplitKey; ZZNewCursor; kv; ZZCursorKV. -/
import Derived.Test.Qxb6609409aKeys
namespace Go.Proofs.Qxb6609409a
open Go.RowKit

theorem idx_miss (k : ByteArray) (hk : dotB k = false) (w : World) : Calls Try.prog 13 #[.string k, .int .u8 46] w fun r w' => r = .returned (.int .i64 (-1)) ∧ w' = w :=
  (Try.strings_IndexByte k 46 w).mono fun _ _ h => by rw [show (46 : Int).toNat.toUInt8 = 46 from rfl, idx_none k hk] at h; exact h
theorem join_data (t n : ByteArray) : (t ++ ⟨#[46]⟩ ++ n : ByteArray).data.toList = t.data.toList ++ 46 :: n.data.toList := by
  rw [ByteArray.data_append, ByteArray.data_append]
  simp
theorem join_size (t n : ByteArray) : (t ++ ⟨#[46]⟩ ++ n : ByteArray).size = t.size + 1 + n.size := by
  rw [Lib.size_eq, join_data, Lib.size_eq t, Lib.size_eq n]
  simp
  omega
theorem idx_join (t n : ByteArray) (ht : dotB t = false) (w : World) : Calls Try.prog 13 #[.string (t ++ ⟨#[46]⟩ ++ n), .int .u8 46] w fun r w' => r = .returned (.int .i64 (t.size : Int)) ∧ w' = w :=
  (Try.strings_IndexByte _ 46 w).mono fun _ _ h => by
    rw [show (46 : Int).toNat.toUInt8 = 46 from rfl, join_data, idx_app _ _ (idx_none t ht), ← Lib.size_eq] at h
    exact h
theorem join_left (t n : ByteArray) : (t ++ ⟨#[46]⟩ ++ n : ByteArray).extract 0 t.size = t := by
  apply ByteArray.ext
  apply Array.toList_inj.1
  rw [Lib.extract_data, join_data, Lib.size_eq t]
  simp
theorem join_right (t n : ByteArray) (m : Nat) (hm : m = t.size + 1 + n.size) : (t ++ ⟨#[46]⟩ ++ n : ByteArray).extract (t.size + 1) m = n := by
  apply ByteArray.ext
  apply Array.toList_inj.1
  rw [Lib.extract_data, join_data, hm]
  have e1 : (t.data.toList ++ 46 :: n.data.toList).drop (t.size + 1) = n.data.toList := by
    rw [List.drop_append, List.drop_of_length_le (by rw [← Lib.size_eq]; omega), ← Lib.size_eq, show t.size + 1 - t.size = 1 from by omega]
    rfl
  rw [e1, List.take_of_length_le (by rw [← Lib.size_eq]; omega)]

set_option maxHeartbeats 400000 in
theorem split_none (k : ByteArray) (w : World) (hk : dotB k = false) :
    Calls Try.prog 10 #[.string k] w fun e w' => e = .returned (.tuple #[.string ⟨#[109, 97, 105, 110]⟩, .string k]) ∧ w' = w := by
  have H := idx_miss k hk
  have HH : Hid (∀ w, Calls Try.prog 13 #[.string k, .int .u8 46] w fun r w' => r = .returned (.int .i64 (-1)) ∧ w' = w) := H
  clear H hk
  go_enter Try.func10, Try.ntmps10
  go_wp2_with (go_at_call 13; refine (HH.out _).mono ?_; rintro e w9 ⟨rfl, rfl⟩)
  go_ret2
  exact ⟨rfl, rfl⟩

set_option maxHeartbeats 400000 in
theorem split_at (t n : ByteArray) (w : World) (ht : dotB t = false) (h1 : t.size ≤ 1048576) (h2 : n.size ≤ 1048576) :
    Calls Try.prog 10 #[.string (t ++ ⟨#[46]⟩ ++ n)] w fun e w' => e = .returned (.tuple #[.string t, .string n]) ∧ Below w.heap.size w w' := by
  have H := idx_join t n ht
  obtain ⟨k, hk⟩ : ∃ k, k = t ++ ⟨#[46]⟩ ++ n := ⟨_, rfl⟩
  have hks : k.size = t.size + 1 + n.size := by rw [hk]; exact join_size t n
  have hl : k.extract 0 t.size = t := by rw [hk]; exact join_left t n
  have hr : k.extract (t.size + 1) k.size = n := by rw [hks, hk]; exact join_right t n _ rfl
  rw [← hk]
  rw [← hk] at H
  have HH : Hid (∀ w, Calls Try.prog 13 #[.string k, .int .u8 46] w fun r w' => r = .returned (.int .i64 (t.size : Int)) ∧ w' = w) := H
  have HL : Hid (k.extract 0 t.size = t) := hl
  have HR : Hid (k.extract (t.size + 1) k.size = n) := hr
  have hk1 : t.size + 1 ≤ k.size := by omega
  have hk2 : k.size ≤ 3000000 := by omega
  clear H ht hk hl hr hks
  go_enter Try.func10, Try.ntmps10
  go_wp2_with (go_at_call 13; refine (HH.out _).mono ?_; rintro e w9 ⟨rfl, rfl⟩)
  go_region
  all_goals go_wp2
  all_goals go_ret2
  all_goals exact ⟨by rw [HL.out, HR.out]; rfl, (Below.refl _ _).drew⟩

set_option maxHeartbeats 400000 in
theorem cursor_any (t : ByteArray) (w : World) :
    Calls Try.prog 8 #[.string t] w fun e w' => e = .returned (.pointer (some ⟨w.heap.size, 0, none⟩)) ∧ w'.cell? ⟨w.heap.size, 1, none⟩ = some (.string t) ∧ Below w.heap.size w w' ∧ w.heap.size < w'.heap.size := by
  go_enter Try.func8, Try.ntmps8
  go_wp2
  go_ret
  exact ⟨rfl, by go_simp, (Below.refl _ _).alloc (Nat.le_refl _) _, by simp⟩

set_option maxHeartbeats 400000 in
theorem kv_any (b : Nat) (t n K : ByteArray) (a : Option Addr) (len cap : Nat) (w : World) (hb : b < w.heap.size) (hc : w.cell? ⟨b, 1, none⟩ = some (.string t))
    (hj : Hid (∀ w, Calls Try.prog 14 #[.string t, .string n] w fun e w' => e = .returned (.string K) ∧ w' = w)) :
    Calls Try.prog 12 #[.pointer (some ⟨b, 0, none⟩), .string n, .slice a len cap] w fun e w' => e = .returned (.agg #[.string K, .slice a len cap]) ∧ Below w.heap.size w w' := by
  have hc1 : ∀ o, (w.alloc o).cell? ⟨b, 1, none⟩ = some (.string t) := fun o => (World.cell?_alloc_lt w o ⟨b, 1, none⟩ hb).trans hc
  go_enter Try.func12, Try.ntmps12
  go_wp2_with (go_at_call 14; refine (hj.out _).mono ?_; rintro e w9 ⟨rfl, rfl⟩)
  exact bodyPost_ret (v := .agg #[.string K, .slice a len cap]) (by simp [results, Try.results12, go_sem]) rfl ⟨rfl, (Below.refl _ _).alloc (Nat.le_refl _) _⟩

set_option maxHeartbeats 400000 in
theorem zzkv_any (b : Nat) (t n K : ByteArray) (a : Option Addr) (len cap : Nat) (w : World) (hb : b < w.heap.size) (hc : w.cell? ⟨b, 1, none⟩ = some (.string t))
    (hj : Hid (∀ w, Calls Try.prog 14 #[.string t, .string n] w fun e w' => e = .returned (.string K) ∧ w' = w)) :
    Calls Try.prog 9 #[.pointer (some ⟨b, 0, none⟩), .string n, .slice a len cap] w fun e w' => e = .returned (.agg #[.string K, .slice a len cap]) ∧ Below w.heap.size w w' := by
  have hc1 : ∀ o, (w.alloc o).cell? ⟨b, 1, none⟩ = some (.string t) := fun o => (World.cell?_alloc_lt w o ⟨b, 1, none⟩ hb).trans hc
  have HC : Hid (∀ o, (w.alloc o).cell? ⟨b, 1, none⟩ = some (.string t)) := hc1
  clear hc hc1
  go_enter Try.func9, Try.ntmps9
  go_wp2_with fail
  refine (kv_any b t n K a len cap _ (by simp; omega) (HC.out _) hj).mono ?_
  rintro e w1 ⟨rfl, hb1⟩
  have c0 := hb1.cell (p := ⟨w.heap.size, 0, none⟩) (by simp)
  have c1 := hb1.cell (p := ⟨w.heap.size, 1, none⟩) (by simp)
  have f0 := hb1.frozen (p := ⟨w.heap.size, 0, none⟩) (by simp)
  have f1 := hb1.frozen (p := ⟨w.heap.size, 1, none⟩) (by simp)
  have hz := hb1.size
  have HB : Hid (Below w.heap.size w w1) := ((Below.refl _ _).alloc (Nat.le_refl _) _).trans (hb1.mono (by simp))
  simp at hz
  simp [go_sem] at c0 c1 f0 f1
  clear hb1
  go_wp2_with fail
  have hp0 : w.heap.size ≤ (⟨w.heap.size, 0, none⟩ : Addr).block := Nat.le_refl _
  have hp1 : w.heap.size ≤ (⟨w.heap.size, 1, none⟩ : Addr).block := Nat.le_refl _
  exact bodyPost_ret (v := .agg #[.string K, .slice a len cap]) (by simp [results, Try.results9, go_sem, c0, c1]) rfl ⟨rfl, (HB.out.setCell hp0 _).setCell hp1 _⟩
end Go.Proofs.Qxb6609409a
