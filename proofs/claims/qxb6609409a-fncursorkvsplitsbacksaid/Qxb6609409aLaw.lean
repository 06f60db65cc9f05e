/- The walk of FnCursorKVSplitsBack. -/
import Derived.Test.Qxb6609409aSplit
import Derived.Test.Qxb6609409aClone
import Derived.Deep.QuietTactic
import Derived.BigQuiet
import Derived.Lib.Builder
namespace Go.Proofs.Qxb6609409a
open Go.RowKit

set_option maxHeartbeats 400000 in
theorem bytes_any (t n : ByteArray) (a : Option Addr) (len cap : Nat) (w : World) :
    Calls Try.prog 5 #[.string t, .string n, .slice a len cap] w fun e w' => (∃ r, e = .returned (.bool r)) ∧ w' = w := by
  go_enter Try.func5, Try.ntmps5
  go_wp2
  all_goals
    go_ret
    exact ⟨⟨_, rfl⟩, rfl⟩

/-- What the clone is: nil, or a row of the call's own. -/
def Cloned (w w' : World) (len : Nat) (a : Option Addr) (c : Nat) : Prop :=
  (a = none ∧ len = 0 ∧ c = 0) ∨
  ∃ l : List Int, a = some ⟨w.heap.size, 0, none⟩ ∧ c = len ∧ w.heap.size < w'.heap.size ∧ ∀ i, i < len → w'.cell? ⟨w.heap.size, i, none⟩ = some (.int .u8 (l.getD i 0))

set_option maxHeartbeats 1000000 in
theorem law_core (t n K : ByteArray) (a : Option Addr) (len cap : Nat) (w : World) (h1 : t.size ≤ 1048576) (h2 : n.size ≤ 1048576) (h3 : len ≤ 1048576) (hsum : t.size + n.size + len ≤ 1048576)
    (H6 : Hid (∀ w, Calls Try.prog 6 #[.string t] w fun e w' => e = .returned (.bool false) ∧ w' = w))
    (hj : Hid (∀ w, Calls Try.prog 14 #[.string t, .string n] w fun e w' => e = .returned (.string K) ∧ w' = w))
    (hsp : Hid (∀ w, Calls Try.prog 10 #[.string K] w fun e w' => e = .returned (.tuple #[.string t, .string n]) ∧ Below w.heap.size w w'))
    (H7 : Hid (Calls Try.prog 7 #[.slice a len cap] w fun e w' => ∃ a' c', e = .returned (.slice a' len c') ∧ Below w.heap.size w w' ∧ Cloned w w' len a' c')) :
    Calls Try.prog 3 #[.string t, .string n, .slice a len cap] w fun e w' => e = .returned (.bool true) ∧ Below w.heap.size w w' := by
  have hnil := fun w' (a : Option Addr) (n c : Nat) => Lib.run_eql_slice_nil (P := Try.prog) w' 22 5 a n c 0 0 Try.underlying22
  go_enter Try.func3, Try.ntmps3
  go_wp2_with fail
  refine (bytes_any t n a len cap _).mono ?_
  rintro e w' ⟨⟨r, rfl⟩, rfl⟩
  cases r
  · go_wp2_with fail
    go_ret
    exact ⟨rfl, Below.refl _ _⟩
  · go_wp2_with fail
    refine (H6.out _).mono ?_
    rintro e w9 ⟨rfl, rfl⟩
    go_wp2_with fail
    refine H7.out.mono ?_
    rintro e w1 ⟨a1, c1, rfl, hb1, hcl⟩
    have HB1 : Hid (Below _ _ w1) := hb1
    have HCL : Hid (Cloned _ w1 len a1 c1) := hcl
    clear hb1 hcl
    go_wp2_with fail
    refine (cursor_any t _).mono ?_
    rintro e w2 ⟨rfl, hct, hb2, hs2⟩
    have HB2 : Hid (Below _ _ w2) := hb2
    clear hb2
    go_wp2_with fail
    refine (zzkv_any _ t n K a1 len c1 _ hs2 hct hj).mono ?_
    rintro e w3 ⟨rfl, hb3⟩
    have HB3 : Hid (Below _ _ w3) := hb3
    clear hb3 hct hs2
    go_wp2_with fail
    refine (hsp.out _).mono ?_
    rintro e w4 ⟨rfl, hb4⟩
    have c0 := hb4.cell (p := ⟨w3.heap.size, 0, none⟩) (by simp)
    have c1f := hb4.cell (p := ⟨w3.heap.size, 1, none⟩) (by simp)
    simp [go_sem] at c0 c1f
    have hz2 := HB2.out.size
    have hz3 := HB3.out.size
    have HB4 : Hid (Below w3.heap.size w3 w4) := ((Below.refl _ _).alloc (Nat.le_refl _) _).trans (hb4.mono (by simp))
    have hz1 := HB1.out.size
    have HB : Hid (Below w9.heap.size w9 w4) := HB1.out.trans ((HB2.out.mono hz1).trans ((HB3.out.mono (by omega)).trans (HB4.out.mono (by omega))))
    have HC14 : Hid (Below w1.heap.size w1 w4) := HB2.out.trans ((HB3.out.mono hz2).trans (HB4.out.mono (by omega)))
    have hz40 := hb4.size
    simp at hz40
    clear hb4
    rcases HCL.out with ⟨ha, hl0, hc⟩ | ⟨l, ha, hc, hlt, hcells⟩
    · subst ha hl0 hc
      clear HCL H7 H6 hj hsp HB1 HB2 HB3 HB4 HC14 hz1 hz2 hz3
      go_wp2_with fail
      refine wp_loop_rounds 1 ?_
      rw [rounds_succ]
      go_wp2_with fail
      go_quiet (fail)
      go_wp2_with fail
      go_ret
      exact ⟨rfl, below_drewN HB.out _⟩
    · subst ha
      have hc' := hc.symm
      subst hc'
      have HC4 : Hid (∀ i, i < len → w4.cell? ⟨w9.heap.size, i, none⟩ = some (.int .u8 (l.getD i 0))) := fun i hi => (HC14.out.cell (by exact hlt)).trans (hcells i hi)
      have hz4 : w3.heap.size < w4.heap.size := hz40
      have hz9 : w9.heap.size < w4.heap.size := by omega
      clear HCL H7 H6 hj hsp HB1 HB2 HB3 HB4 HC14 hz1 hz2 hz3 hcells hlt
      go_wp2_with fail
      go_loopw [11] (fun i wr => ∃ k : Nat, k ≤ len ∧ i = .int .i64 k ∧ Below w4.heap.size w4 wr) (fun i _ => len - (intOf i).toNat)
      case atStart => exact ⟨0, Nat.zero_le _, rfl, Below.refl _ _⟩
      case round =>
        obtain ⟨k, hk, rfl, hbr⟩ := hrel
        have c1r : wr.cell? ⟨w3.heap.size, 1, none⟩ = some (.slice (some ⟨w9.heap.size, 0, none⟩) len len) := (hbr.cell (by exact hz4)).trans c1f
        have HBr : Hid (Below w9.heap.size w9 wr) := HB.out.trans (hbr.mono (by omega))
        have HBR : Hid (Below w4.heap.size w4 wr) := hbr
        by_cases hlt : k < len
        · have ck : wr.cell? ⟨w9.heap.size, k, none⟩ = some (.int .u8 (l.getD k 0)) := (hbr.cell (by exact hz9)).trans (HC4.out k hlt)
          clear hbr c1f c0
          go_wp2_with fail
          go_quiet (fail)
          go_wp2_with fail
          go_roundw
          case rel => exact ⟨k + 1, by omega, by go_num, below_drewN HBR.out _⟩
          case measure => simp [intOf]; omega
        · clear hbr c1f c0
          by_cases h0 : 0 < len
          · have hd : decide (0 < (len : Int)) = true := by simp; omega
            obtain ⟨i0, hi, hz0, hz1, hz2⟩ := info_parts info5
            have hne := fun w' => Lib.run_neq_ptr_same (P := Try.prog) w' (tp := 33) ⟨w9.heap.size, 0, none⟩ Try.underlying33 hi
            go_wp2_with fail
            go_quiet (fail)
            go_wp2_with fail
            go_ret
            exact ⟨rfl, below_drewN HBr.out _⟩
          · have hd : decide (0 < (len : Int)) = false := by simp; omega
            go_wp2_with fail
            go_quiet (fail)
            go_wp2_with fail
            go_ret
            exact ⟨rfl, below_drewN HBr.out _⟩
end Go.Proofs.Qxb6609409a
