/- cloneStrs. -/
import Derived.Test.Qxb6606306aRRG1
import Derived.Laws.OwnMore
namespace Go.Proofs.Qxb6606306aRR
open Go.RowKit
theorem info9 : (Try.prog.info? 9).map (fun i => (i.zero, i.size, i.bytes)) = some (some (.string ⟨#[]⟩), 1, 16) := by kernel_rfl
def strV (l : List ByteArray) : List Value := l.map Value.string
theorem strV_set (l : List ByteArray) (k : Nat) (z : ByteArray) : strV (l.set k z) = (strV l).set k (.string z) := by simp [strV, List.map_set]
def New (w : World) (b : Nat) : Prop := w.heap.size ≤ b
/-- It returned a slice of these strings, in new memory. -/
def RetStrs (w w' : World) (xs : List ByteArray) (e : Ending) : Prop := ∃ v, e = .returned v ∧ Strs (New w) w' v xs

theorem strV_get (l : List ByteArray) (i : Nat) (h : i < l.length) : (strV l)[i]? = some (.string (l.getD i ByteArray.empty)) := by
  simp [strV, List.getElem?_eq_getElem h]

/-- The first k of xs, the rest as l has it. -/
def firstOf (xs l : List ByteArray) (k : Nat) : Prop := l.length = xs.length ∧ ∀ j, j < k → l.getD j ByteArray.empty = xs.getD j ByteArray.empty
theorem firstOf_step (xs l : List ByteArray) (k : Nat) (h : firstOf xs l k) (hk : k < xs.length) : firstOf xs (l.set k (xs.getD k ByteArray.empty)) (k + 1) := by
  obtain ⟨h1, h2⟩ := h
  refine ⟨by simpa using h1, fun j hj => ?_⟩
  by_cases e : j = k
  · subst e
    rw [List.getD_eq_getElem?_getD, List.getElem?_set_self (by omega)]; rfl
  · have : (l.set k (xs.getD k ByteArray.empty)).getD j ByteArray.empty = l.getD j ByteArray.empty := by
      rw [List.getD_eq_getElem?_getD, List.getElem?_set_ne (by omega), ← List.getD_eq_getElem?_getD]
    rw [this]
    exact h2 j (by omega)

set_option maxHeartbeats 1000000 in
theorem cloneStrs_any (F : Nat → Prop) (v : Value) (xs : List ByteArray) (w : World) (h : Strs F w v xs) (hn : xs.length ≤ 1048576) :
    Calls Try.prog 30 #[v] w fun e w' => RetStrs w w' xs e ∧ Below w.heap.size w w' := by
  have HH : Hid (∀ w', Below w.heap.size w w' → Strs F w' v xs) := fun w' hb => h.same (Same.of_below hb)
  obtain ⟨a, cap, rfl, hc, hz⟩ := h
  have HZ : Hid (∀ s ∈ xs, s.size ≤ Go.maxLen) := hz
  clear hz
  have hnil := fun w' (n c : Nat) => Lib.run_eql_slice_nil (P := Try.prog) w' 24 9 a n c 0 0 Try.underlying24
  cases a with
  | none =>
    have hx : xs = [] := by
      cases xs with
      | nil => rfl
      | cons s t => obtain ⟨b, off, ha, _⟩ := hc 0 (by simp); cases ha
    subst hx
    clear hc HH
    go_enter Try.func30, Try.ntmps30
    go_wp2_with fail
    go_ret
    exact ⟨⟨_, rfl, none, 0, rfl, fun i hi => absurd hi (Nat.not_lt_zero _), HZ.out⟩, Below.refl _ _⟩
  | some x =>
    clear hc
    obtain ⟨i0, hi, hz0, hz1, hz2⟩ := info_parts info9
    go_enter Try.func30, Try.ntmps30
    go_wp2_with (at_make; refine wpList_make_full _ rfl _ _ 24 rfl w.heap.size 9 i0 (.string ⟨#[]⟩) 1 Try.underlying24 hi hz0 hz1 .i64 .i64 _ _ xs.length rfl rfl rfl rfl (by rw [hz2]; omega) (by unfold Go.maxLen; omega) (Nat.le_refl _) ?_; intro w1 hown1 hgrow1)
    have hb1 : Below w.heap.size w w1 := (Below.refl _ _).grown hgrow1 (Nat.le_refl _) (by simp)
    have hown2 : w1.ownsRow w.heap.size 9 1 (.slice (some ⟨w.heap.size, 0, none⟩) xs.length xs.length) xs.length (strV (List.replicate xs.length ⟨#[]⟩)) := by
      have e : (madeCells (Value.string ⟨#[]⟩).cells (xs.length * 1)).toList = strV (List.replicate xs.length ⟨#[]⟩) := by
        show (madeCells #[Value.string ⟨#[]⟩] (xs.length * 1)).toList = _
        rw [toList_madeCells_one]
        simp [strV]
      rw [e] at hown1
      exact hown1
    clear hown1 hgrow1
    go_loopw [4] (fun i wr => ∃ k : Nat, ∃ l : List ByteArray, k ≤ xs.length ∧ i = .int .i64 k ∧ Hid (firstOf xs l k) ∧ wr.ownsRow w.heap.size 9 1 (.slice (some ⟨w.heap.size, 0, none⟩) xs.length xs.length) xs.length (strV l) ∧ Below w.heap.size w wr) (fun i _ => xs.length - (intOf i).toNat)
    case atStart => exact ⟨0, _, Nat.zero_le _, rfl, ⟨by simp, fun j hj => absurd hj (Nat.not_lt_zero _)⟩, hown2, hb1⟩
    case round =>
      clear hown2 hb1
      obtain ⟨k, l, hk, rfl, hf, hown, hb⟩ := hrel
      by_cases hlt : k < xs.length
      · obtain ⟨a', cap', he, hcs, _⟩ := HH.out wr hb
        obtain ⟨b, off, ha, _, hbl, hcell⟩ := hcs k hlt
        have hae : x = ⟨b, off, none⟩ := by cases he; cases ha; rfl
        subst hae
        obtain ⟨s, hs⟩ : ∃ s, xs.getD k ByteArray.empty = s := ⟨_, rfl⟩
        rw [hs] at hcell
        have hco : wr.cell? ⟨w.heap.size, k, none⟩ = some (.string (l.getD k ByteArray.empty)) := by
          rw [hown.cellAt k (by omega), strV_get l k (by have := hf.out.1; omega)]
        have hfo := hown.frozenAt k
        have R : Hid ((wr.setCell ⟨w.heap.size, k, none⟩ (.string s)).ownsRow w.heap.size 9 1 (.slice (some ⟨w.heap.size, 0, none⟩) xs.length xs.length) xs.length (strV (l.set k s))) := by
          show World.ownsRow _ _ _ _ _ _ _
          rw [strV_set]
          exact (hown.stored k (.string s)).1
        have hp : w.heap.size ≤ (⟨w.heap.size, k, none⟩ : Addr).block := Nat.le_refl _
        have HB : Hid (Below w.heap.size w (wr.setCell ⟨w.heap.size, k, none⟩ (.string s))) := hb.setCell hp _
        have HF : Hid (firstOf xs (l.set k s) (k + 1)) := by have := firstOf_step xs l k hf.out hlt; rw [hs] at this; exact this
        clear hown hb hp hcs he ha HH hs hf
        go_wp2_with fail
        go_roundw
        case rel => exact ⟨k + 1, l.set k s, by omega, by go_num, HF, R.out, HB.out⟩
        case measure => simp [intOf]; omega
      · obtain rfl : k = xs.length := by omega
        have HS : Hid (Strs (New w) wr (.slice (some ⟨w.heap.size, 0, none⟩) xs.length xs.length) xs) := by
          refine ⟨_, _, rfl, fun i hi => ⟨w.heap.size, 0, rfl, Nat.le_refl _, (hown.lt w.heap.size rfl).2, ?_⟩, HZ.out⟩
          rw [Nat.zero_add, hown.cellAt i (by omega), strV_get l i (by have := hf.out.1; omega), hf.out.2 i hi]
        have HB : Hid (Below w.heap.size w wr) := hb
        clear hown hb HH hlt
        go_wp2_with fail
        go_ret
        exact ⟨⟨_, rfl, HS.out⟩, HB.out⟩
end Go.Proofs.Qxb6606306aRR
