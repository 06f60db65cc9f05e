/- zzCloneBytes. -/
import Derived.Test.Qxb6609409aRows
import Derived.WalkKit
import Derived.WalkSpells
import Derived.WalkLawsBesides
import Derived.Laws.OwnMore
namespace Go.Proofs.Qxb6609409a
open Go.RowKit
theorem info5 : (Try.prog.info? 5).map (fun i => (i.zero, i.size, i.bytes)) = some (some (.int .u8 0), 1, 1) := by kernel_rfl
def ints (l : List Int) : List Value := l.map (Value.int .u8)
theorem ints_set (l : List Int) (k : Nat) (z : Int) : ints (l.set k z) = (ints l).set k (.int .u8 z) := by simp [ints, List.map_set]

set_option maxHeartbeats 400000 in
theorem clone_nil (w : World) :
    Calls Try.prog 7 #[.slice none 0 0] w fun e w' => e = .returned (.slice none 0 0) ∧ w' = w := by
  have h := fun w' => Lib.run_eql_slice_nil (P := Try.prog) w' 22 5 none 0 0 0 0 Try.underlying22
  go_enter Try.func7, Try.ntmps7
  go_wp2_with fail
  go_ret
  exact ⟨rfl, rfl⟩

set_option maxHeartbeats 400000 in
theorem clone_empty (x : Addr) (cap : Nat) (w : World) :
    Calls Try.prog 7 #[.slice (some x) 0 cap] w fun e w' => e = .returned (.slice (some ⟨w.heap.size, 0, none⟩) 0 0) ∧ Below w.heap.size w w' ∧ w.heap.size < w'.heap.size := by
  have h := fun w' => Lib.run_eql_slice_nil (P := Try.prog) w' 22 5 (some x) 0 cap 0 0 Try.underlying22
  obtain ⟨i0, hi, hz0, hz1, hz2⟩ := info_parts info5
  go_enter Try.func7, Try.ntmps7
  go_wp2_with (at_make; refine wpList_make_full _ rfl _ _ 22 rfl w.heap.size 5 i0 (.int .u8 0) 1 Try.underlying22 hi hz0 hz1 .i64 .i64 _ _ 0 rfl rfl rfl rfl (by omega) (by unfold maxLen; omega) (Nat.le_refl _) ?_; intro w1 hown1 hgrow1)
  have hb1 : Below w.heap.size w w1 := (Below.refl _ _).grown hgrow1 (Nat.le_refl _) (by simp)
  have hl1 := (hown1.lt w.heap.size rfl).2
  clear hown1 hgrow1
  refine wp_loop_rounds 1 ?_
  rw [rounds_succ]
  go_wp2_with fail
  go_ret
  exact ⟨rfl, hb1, hl1⟩

set_option maxHeartbeats 400000 in
theorem clone_some (b off len cap : Nat) (zs : List Int) (w : World) (hlen : len ≤ 1048576) (hbw : b < w.heap.size) (hcell : ∀ i, i < len → w.cell? ⟨b, off + i, none⟩ = some (.int .u8 (zs.getD i 0))) :
    Calls Try.prog 7 #[.slice (some ⟨b, off, none⟩) len cap] w fun e w' => e = .returned (.slice (some ⟨w.heap.size, 0, none⟩) len len) ∧ Below w.heap.size w w' ∧ w.heap.size < w'.heap.size ∧
      ∃ l : List Int, l.length = len ∧ ∀ i, i < len → w'.cell? ⟨w.heap.size, i, none⟩ = some (.int .u8 (l.getD i 0)) := by
  have h := fun w' => Lib.run_eql_slice_nil (P := Try.prog) w' 22 5 (some ⟨b, off, none⟩) len cap 0 0 Try.underlying22
  obtain ⟨i0, hi, hz0, hz1, hz2⟩ := info_parts info5
  have HC : Hid (∀ i, i < len → w.cell? ⟨b, off + i, none⟩ = some (.int .u8 (zs.getD i 0))) := hcell
  clear hcell
  go_enter Try.func7, Try.ntmps7
  go_wp2_with (at_make; refine wpList_make_full _ rfl _ _ 22 rfl w.heap.size 5 i0 (.int .u8 0) 1 Try.underlying22 hi hz0 hz1 .i64 .i64 _ _ len rfl rfl rfl rfl (by rw [hz2]; omega) (by unfold maxLen; omega) (Nat.le_refl _) ?_; intro w1 hown1 hgrow1)
  have hb1 : Below w.heap.size w w1 := (Below.refl _ _).grown hgrow1 (Nat.le_refl _) (by simp)
  have hown2 : w1.ownsRow w.heap.size 5 1 (.slice (some ⟨w.heap.size, 0, none⟩) len len) len (ints (List.replicate len 0)) := by
    have e : (madeCells (Value.int IntKind.u8 0).cells (len * 1)).toList = ints (List.replicate len 0) := by
      show (madeCells #[Value.int IntKind.u8 0] (len * 1)).toList = _
      rw [toList_madeCells_one]
      simp [ints]
    rw [e] at hown1
    exact hown1
  clear hown1 hgrow1
  go_loopw [4] (fun i wr => ∃ k : Nat, ∃ l : List Int, k ≤ len ∧ i = .int .i64 k ∧ l.length = len ∧ wr.ownsRow w.heap.size 5 1 (.slice (some ⟨w.heap.size, 0, none⟩) len len) len (ints l) ∧ Below w.heap.size w wr) (fun i _ => len - (intOf i).toNat)
  case atStart => exact ⟨0, _, Nat.zero_le _, rfl, by simp, hown2, hb1⟩
  case round =>
    clear hown2 hb1
    obtain ⟨k, l, hk, rfl, hl, hown, hb⟩ := hrel
    by_cases hlt : k < len
    · have hcx : wr.cell? ⟨b, off + k, none⟩ = some (.int .u8 (zs.getD k 0)) := (hb.cell (by exact hbw)).trans (HC.out k hlt)
      have hco : wr.cell? ⟨w.heap.size, k, none⟩ = some (.int .u8 (l.getD k 0)) := by
        rw [hown.cellAt k (by omega)]
        simp [ints, List.getD, hl, hlt]
      have hfo := hown.frozenAt k
      have R : Hid ((wr.setCell ⟨w.heap.size, k, none⟩ (.int .u8 (zs.getD k 0))).ownsRow w.heap.size 5 1 (.slice (some ⟨w.heap.size, 0, none⟩) len len) len (ints (l.set k (zs.getD k 0)))) := by
        show World.ownsRow _ _ _ _ _ _ _
        rw [ints_set]
        exact (hown.stored k (.int .u8 (zs.getD k 0))).1
      have hp : w.heap.size ≤ (⟨w.heap.size, k, none⟩ : Addr).block := Nat.le_refl _
      have HB : Hid (Below w.heap.size w (wr.setCell ⟨w.heap.size, k, none⟩ (.int .u8 (zs.getD k 0)))) := hb.setCell hp _
      clear hown hb hp
      go_wp2_with fail
      go_roundw
      case rel => exact ⟨k + 1, l.set k (zs.getD k 0), by omega, by go_num, by simp [hl], R.out, HB.out⟩
      case measure => simp [intOf]; omega
    · have HH : Hid (∀ i, i < len → wr.cell? ⟨w.heap.size, i, none⟩ = some (.int .u8 (l.getD i 0))) := fun i hi => by
        rw [hown.cellAt i (by omega)]
        simp [ints, List.getD, hl, hi]
      have hl1 := (hown.lt w.heap.size rfl).2
      clear hown
      go_wp2_with fail
      go_ret
      exact ⟨rfl, hb, hl1, l, hl, HH.out⟩
end Go.Proofs.Qxb6609409a
