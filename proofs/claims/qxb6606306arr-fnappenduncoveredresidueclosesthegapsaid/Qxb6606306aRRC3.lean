/- cloneRules. -/
import Derived.Test.Qxb6606306aRRRow
import Derived.Test.Qxb6606306aRRG4
namespace Go.Proofs.Qxb6606306aRR
open Go.RowKit
theorem info26 : (Try.prog.info? 26).map (fun i => (i.zero, i.size, i.bytes)) = some (some (.agg #[.slice none 0 0, .slice none 0 0, .slice none 0 0, .slice none 0 0, .slice none 0 0, .bool false]), 6, 128) := by kernel_rfl

/-- The first k rules stand in block B. -/
def RowR (F : Nat → Prop) (w : World) (B : Nat) (rs : List RuleD) (k : Nat) : Prop :=
  ∀ i, i < k → ∃ c0 c1 c2 c3 c4, (w.cell? ⟨B, i * 6, none⟩ = some c0 ∧ w.cell? ⟨B, i * 6 + 1, none⟩ = some c1 ∧ w.cell? ⟨B, i * 6 + 2, none⟩ = some c2 ∧ w.cell? ⟨B, i * 6 + 3, none⟩ = some c3 ∧
      w.cell? ⟨B, i * 6 + 4, none⟩ = some c4 ∧ w.cell? ⟨B, i * 6 + 5, none⟩ = some (.bool (rs.getD i noRule).any)) ∧ RuleV F w c0 c1 c2 c3 c4 (rs.getD i noRule)
/-- New memory that is not the row itself. -/
def Off (w : World) (B b : Nat) : Prop := w.heap.size ≤ b ∧ b ≠ B
theorem RowR.same {F G : Nat → Prop} {w w' : World} {B : Nat} {rs : List RuleD} {k : Nat} (h : RowR F w B rs k) (s : Same G w w') (hB : G B) (hl : B < w.heap.size) (hFG : ∀ b, F b → G b) : RowR F w' B rs k := fun i hi => by
  obtain ⟨c0, c1, c2, c3, c4, ⟨h0, h1, h2, h3, h4, h5⟩, hv⟩ := h i hi
  have e : ∀ j, w'.cell? ⟨B, j, none⟩ = w.cell? ⟨B, j, none⟩ := fun j => s.cell (p := ⟨B, j, none⟩) hB hl
  exact ⟨c0, c1, c2, c3, c4, ⟨(e _).trans h0, (e _).trans h1, (e _).trans h2, (e _).trans h3, (e _).trans h4, (e _).trans h5⟩, hv.same (s.mono hFG)⟩
theorem RowR.put {F : Nat → Prop} {w : World} {B t m : Nat} {rs : List RuleD} {k : Nat} (h : RowR F w B rs k) (hb : Blk w B t m) (hm : k * 6 + 6 ≤ m) (hF : ∀ b, F b → b ≠ B) {c0 c1 c2 c3 c4 : Value} (hv : RuleV F w c0 c1 c2 c3 c4 (rs.getD k noRule)) :
    RowR F (w.setCells B (k * 6) [c0, c1, c2, c3, c4, .bool (rs.getD k noRule).any]) B rs (k + 1) := fun i hi => by
  have hs : Same F w (w.setCells B (k * 6) [c0, c1, c2, c3, c4, .bool (rs.getD k noRule).any]) := (Same.sets w B _ _).mono hF
  rcases Nat.lt_or_ge i k with hik | hik
  · obtain ⟨d0, d1, d2, d3, d4, ⟨h0, h1, h2, h3, h4, h5⟩, hd⟩ := h i hik
    have e : ∀ j, j < k * 6 → (w.setCells B (k * 6) [c0, c1, c2, c3, c4, .bool (rs.getD k noRule).any]).cell? ⟨B, j, none⟩ = w.cell? ⟨B, j, none⟩ := fun j hj => sets_out w B _ _ j (.inl hj)
    exact ⟨d0, d1, d2, d3, d4, ⟨(e _ (by omega)).trans h0, (e _ (by omega)).trans h1, (e _ (by omega)).trans h2, (e _ (by omega)).trans h3, (e _ (by omega)).trans h4, (e _ (by omega)).trans h5⟩, hd.same hs⟩
  · obtain rfl : i = k := by omega
    have e := fun j hj => sets_at hb (i * 6) [c0, c1, c2, c3, c4, .bool (rs.getD i noRule).any] (by simpa using hm) j hj
    exact ⟨c0, c1, c2, c3, c4, ⟨e 0 (by simp), e 1 (by simp), e 2 (by simp), e 3 (by simp), e 4 (by simp), e 5 (by simp)⟩, hv.same hs⟩
/-- It returned a slice of these rules, in new memory. -/
def RetRules (w w' : World) (rs : List RuleD) (e : Ending) : Prop := ∃ v, e = .returned v ∧ Rules (New w) w' v rs
theorem RowR.rules {w w' : World} {B cap : Nat} {rs : List RuleD} (h : RowR (Off w B) w' B rs rs.length) (hB : w.heap.size ≤ B) (hl : B < w'.heap.size) : Rules (New w) w' (.slice (some ⟨B, 0, none⟩) rs.length cap) rs :=
  ⟨_, _, rfl, fun i hi => by
    obtain ⟨c0, c1, c2, c3, c4, hc, hv⟩ := h i hi
    refine ⟨B, 0, c0, c1, c2, c3, c4, rfl, hB, hl, ?_, hv.mono (fun b _ hb => hb.1)⟩
    simpa only [Nat.zero_add] using hc⟩

set_option maxHeartbeats 1000000 in
theorem cloneRules_any (F : Nat → Prop) (v : Value) (rs : List RuleD) (w : World) (h : Rules F w v rs) (hs : SmallRs rs) :
    Calls Try.prog 31 #[v] w fun e w' => RetRules w w' rs e ∧ Below w.heap.size w w' := by
  have HH : Hid (∀ w', Below w.heap.size w w' → Rules F w' v rs) := fun w' hb => h.same (Same.of_below hb)
  obtain ⟨a, cap, rfl, hc⟩ := h
  have hn := hs.1
  have HS : Hid (∀ r ∈ rs, SmallR r) := hs.2
  clear hs
  have hnil := fun w' (n c : Nat) => Lib.run_eql_slice_nil (P := Try.prog) w' 29 26 a n c 0 0 Try.underlying29
  cases a with
  | none =>
    have hx : rs = [] := by
      cases rs with
      | nil => rfl
      | cons s t => obtain ⟨b, off, _, _, _, _, _, ha, _⟩ := hc 0 (by simp); cases ha
    subst hx
    clear hc HH
    go_enter Try.func31, Try.ntmps31
    go_wp2_with fail
    go_ret
    exact ⟨⟨_, rfl, none, 0, rfl, fun i hi => absurd hi (Nat.not_lt_zero _)⟩, Below.refl _ _⟩
  | some x =>
    clear hc
    obtain ⟨i0, hi, hz0, hz1, hz2⟩ := info_parts info26
    go_enter Try.func31, Try.ntmps31
    go_wp2_with (at_make; refine wpList_make_full _ rfl _ _ 29 rfl w.heap.size 26 i0 _ 6 Try.underlying29 hi hz0 hz1 .i64 .i64 _ _ rs.length rfl rfl rfl rfl (by rw [hz2]; omega) (by unfold Go.maxLen; omega) (Nat.le_refl _) ?_; intro w1 hown1 hgrow1)
    have hb1 : Below w.heap.size w w1 := (Below.refl _ _).grown hgrow1 (Nat.le_refl _) (by simp)
    have hk1 : Blk w1 w.heap.size 26 (rs.length * 6) := Blk.of_owns hown1
    clear hown1 hgrow1
    go_loopw [4] (fun i wr => ∃ k : Nat, k ≤ rs.length ∧ i = .int .i64 k ∧ Hid (RowR (Off w w.heap.size) wr w.heap.size rs k) ∧ Hid (Blk wr w.heap.size 26 (rs.length * 6)) ∧ Below w.heap.size w wr) (fun i _ => rs.length - (intOf i).toNat)
    case atStart => exact ⟨0, Nat.zero_le _, rfl, fun i hi => absurd hi (Nat.not_lt_zero _), hk1, hb1⟩
    case round =>
      clear hk1 hb1
      obtain ⟨k, hk, rfl, hrow, hblk, hb⟩ := hrel
      by_cases hlt : k < rs.length
      · obtain ⟨a', cap', he, hcs⟩ := HH.out wr hb
        obtain ⟨b, off, c0, c1, c2, c3, c4, ha, _, hl, ⟨q0, q1, q2, q3, q4, q5⟩, hV⟩ := hcs k hlt
        have hae : x = ⟨b, off, none⟩ := by cases he; cases ha; rfl
        subst hae
        obtain ⟨r, hr⟩ : ∃ r, rs.getD k noRule = r := ⟨_, rfl⟩
        rw [hr] at q5 hV
        have hsr : SmallR r := hr ▸ HS.out _ (getR_mem rs k hlt)
        have HRr : Hid (rs.getD k noRule = r) := hr
        have HB : Hid (Below w.heap.size w wr) := hb
        clear hcs he ha hr hb HH
        go_wp2_with fail
        refine (cloneRule_any F c0 c1 c2 c3 c4 r _ hV hsr).mono ?_
        rintro e w2 ⟨⟨d0, d1, d2, d3, d4, rfl, hVd⟩, hb2⟩
        have hblk2 : Blk w2 w.heap.size 26 (rs.length * 6) := hblk.out.same (F := Any) trivial (Same.of_below hb2)
        obtain ⟨u0, y0⟩ := hblk2.cell (k * 6) (by omega)
        obtain ⟨u1, y1⟩ := hblk2.cell (k * 6 + 1) (by omega)
        obtain ⟨u2, y2⟩ := hblk2.cell (k * 6 + 2) (by omega)
        obtain ⟨u3, y3⟩ := hblk2.cell (k * 6 + 3) (by omega)
        obtain ⟨u4, y4⟩ := hblk2.cell (k * 6 + 4) (by omega)
        obtain ⟨u5, y5⟩ := hblk2.cell (k * 6 + 5) (by omega)
        have f := hblk2.frozen
        have hzr := hblk.out.lt
        have HRow : Hid (RowR (Off w w.heap.size) (w2.setCells w.heap.size (k * 6) [d0, d1, d2, d3, d4, .bool r.any]) w.heap.size rs (k + 1)) := by
          have h1 : RowR (Off w w.heap.size) w2 w.heap.size rs k := hrow.out.same (G := Any) (Same.of_below hb2) trivial hzr (fun _ _ => trivial)
          have h2 : RuleV (Off w w.heap.size) w2 d0 d1 d2 d3 d4 (rs.getD k noRule) := by rw [HRr.out]; exact hVd.mono (fun b _ hn => ⟨by unfold New at hn; omega, by unfold New at hn; omega⟩)
          have := h1.put hblk2 (by omega) (fun b hb => hb.2) h2
          rw [HRr.out] at this
          exact this
        have HBlk : Hid (Blk (w2.setCells w.heap.size (k * 6) [d0, d1, d2, d3, d4, .bool r.any]) w.heap.size 26 (rs.length * 6)) := Blk.sets _ hblk2 _
        have HB2 : Hid (Below w.heap.size w (w2.setCells w.heap.size (k * 6) [d0, d1, d2, d3, d4, .bool r.any])) := below_sets (Nat.le_refl _) _ (HB.out.trans (hb2.mono HB.out.size)) _
        obtain ⟨a0, p0, rfl, _, _⟩ := hVd.verbs
        obtain ⟨a1, p1, rfl, _, _⟩ := hVd.groups
        obtain ⟨a2, p2, rfl, _, _⟩ := hVd.resources
        obtain ⟨a3, p3, rfl, _, _⟩ := hVd.names
        obtain ⟨a4, p4, rfl, _, _⟩ := hVd.bys
        clear hVd hb2 q0 q1 q2 q3 q4 q5 hV hsr hblk2 hrow hblk HB
        go_wp2_with fail
        go_roundw
        case rel => exact ⟨k + 1, by omega, by go_num, HRow.out, HBlk.out, HB2.out⟩
        case measure => simp [intOf]; omega
      · obtain rfl : k = rs.length := by omega
        have HF : Hid (Rules (New w) wr (.slice (some ⟨w.heap.size, 0, none⟩) rs.length rs.length) rs) := hrow.out.rules (Nat.le_refl _) hblk.out.lt
        have HB : Hid (Below w.heap.size w wr) := hb
        clear hb HH hlt hrow hblk
        go_wp2_with fail
        go_ret
        exact ⟨⟨_, rfl, HF.out⟩, HB.out⟩
end Go.Proofs.Qxb6606306aRR
