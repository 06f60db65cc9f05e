/- toRR, toRRs. -/
import Derived.Test.Qxb6606306aRRC5
namespace Go.Proofs.Qxb6606306aRR
open Go.RowKit
theorem info41 : (Try.prog.info? 41).map (fun i => (i.zero, i.size, i.bytes)) = some (some (.agg #[.slice none 0 0, .slice none 0 0, .slice none 0 0, .slice none 0 0, .slice none 0 0, .bool false]), 6, 128) := by kernel_rfl

set_option maxHeartbeats 400000 in
theorem toRR_any (F : Nat → Prop) (c0 c1 c2 c3 c4 : Value) (r : RuleD) (w : World) (h : RuleV F w c0 c1 c2 c3 c4 r) :
    Calls Try.prog 16 #[.agg #[c0, c1, c2, c3, c4, .bool r.any]] w fun e w' => e = .returned (.agg #[c0, c1, c2, c3, c4, .bool r.any]) ∧ Below w.heap.size w w' := by
  obtain ⟨a0, p0, rfl, _, _⟩ := h.verbs
  obtain ⟨a1, p1, rfl, _, _⟩ := h.groups
  obtain ⟨a2, p2, rfl, _, _⟩ := h.resources
  obtain ⟨a3, p3, rfl, _, _⟩ := h.names
  obtain ⟨a4, p4, rfl, _, _⟩ := h.bys
  clear h
  go_enter Try.func16, Try.ntmps16
  go_wp2_with fail
  obtain ⟨W, hW⟩ : ∃ W, (w.alloc (.cells #[.slice a0 r.verbs.length p0, .slice a1 r.groups.length p1, .slice a2 r.resources.length p2, .slice a3 r.names.length p3, .slice a4 r.bys.length p4, .bool r.any] 26)).alloc (.cells #[.slice a0 r.verbs.length p0, .slice a1 r.groups.length p1, .slice a2 r.resources.length p2, .slice a3 r.names.length p3, .slice a4 r.bys.length p4, .bool r.any] 41) = W := ⟨_, rfl⟩
  obtain ⟨_, ⟨z0, z1, z2, z3, z4, z5⟩, _, _, _, hB⟩ := two_new w _ _ _ _ _ _ _ _ _ _ _ _ 26 41 W hW
  rw [hW]
  exact bodyPost_ret (v := .agg #[.slice a0 r.verbs.length p0, .slice a1 r.groups.length p1, .slice a2 r.resources.length p2, .slice a3 r.names.length p3, .slice a4 r.bys.length p4, .bool r.any]) (by simp [results, Try.results16, go_sem, z0, z1, z2, z3, z4, z5]) rfl ⟨rfl, hB⟩

/-- F, and what is new since w. -/
def FN (F : Nat → Prop) (w : World) (b : Nat) : Prop := F b ∧ b < w.heap.size ∨ w.heap.size ≤ b
/-- F as it stood in w, or new, but not block B. -/
def FO (F : Nat → Prop) (w : World) (B b : Nat) : Prop := F b ∧ b < w.heap.size ∨ w.heap.size ≤ b ∧ b ≠ B
/-- It returned a slice of these rules, over F or in new memory. -/
def RetRulesF (F : Nat → Prop) (w w' : World) (rs : List RuleD) (e : Ending) : Prop := ∃ v, e = .returned v ∧ Rules (FN F w) w' v rs
theorem RowR.rulesF {F : Nat → Prop} {w w' : World} {B cap : Nat} {rs : List RuleD} (h : RowR (FO F w B) w' B rs rs.length) (hB : w.heap.size ≤ B) (hl : B < w'.heap.size) : Rules (FN F w) w' (.slice (some ⟨B, 0, none⟩) rs.length cap) rs :=
  ⟨_, _, rfl, fun i hi => by
    obtain ⟨c0, c1, c2, c3, c4, hc, hv⟩ := h i hi
    refine ⟨B, 0, c0, c1, c2, c3, c4, rfl, .inr hB, hl, ?_, hv.mono (fun b _ hb => hb.imp id (fun h => h.1))⟩
    simpa only [Nat.zero_add] using hc⟩
theorem RuleV.below {F : Nat → Prop} {w w' : World} {c0 c1 c2 c3 c4 : Value} {r : RuleD} (h : RuleV F w c0 c1 c2 c3 c4 r) (hb : Below w.heap.size w w') : RuleV (fun b => F b ∧ b < w.heap.size) w' c0 c1 c2 c3 c4 r :=
  RuleV.same (F := fun b => F b ∧ b < w.heap.size) (h.mono (fun _ hl hF => ⟨hF, hl⟩)) (Same.of_below hb)

set_option maxRecDepth 8000 in
set_option maxHeartbeats 1000000 in
theorem toRRs_any (F : Nat → Prop) (v : Value) (rs : List RuleD) (w : World) (h : Rules F w v rs) (hn : rs.length ≤ 1048576) :
    Calls Try.prog 35 #[v] w fun e w' => RetRulesF F w w' rs e ∧ Below w.heap.size w w' := by
  have HH : Hid (Rules F w v rs) := h
  obtain ⟨a, cap, rfl, hc⟩ := h
  clear hc
  obtain ⟨i0, hi, hz0, hz1, hz2⟩ := info_parts info41
  go_enter Try.func35, Try.ntmps35
  go_wp2_with (at_make; refine wpList_make_full _ rfl _ _ 43 rfl w.heap.size 41 i0 _ 6 Try.underlying43 hi hz0 hz1 .i64 .i64 _ _ rs.length rfl rfl rfl rfl (by rw [hz2]; omega) (by unfold Go.maxLen; omega) (Nat.le_refl _) ?_; intro w1 hown1 hgrow1)
  have hb1 : Below w.heap.size w w1 := (Below.refl _ _).grown hgrow1 (Nat.le_refl _) (by simp)
  have hk1 : Blk w1 w.heap.size 41 (rs.length * 6) := Blk.of_owns hown1
  clear hown1 hgrow1
  go_loopw [4] (fun i wr => ∃ k : Nat, k ≤ rs.length ∧ i = .int .i64 k ∧ Hid (RowR (FO F w w.heap.size) wr w.heap.size rs k) ∧ Hid (Blk wr w.heap.size 41 (rs.length * 6)) ∧ Below w.heap.size w wr) (fun i _ => rs.length - (intOf i).toNat)
  case atStart => exact ⟨0, Nat.zero_le _, rfl, fun i hi => absurd hi (Nat.not_lt_zero _), hk1, hb1⟩
  case round =>
    clear hk1 hb1
    obtain ⟨k, hk, rfl, hrow, hblk, hb⟩ := hrel
    by_cases hlt : k < rs.length
    · obtain ⟨a', cap', he, hcs⟩ := HH.out
      obtain ⟨b, off, c0, c1, c2, c3, c4, ha, _, hl, ⟨q0, q1, q2, q3, q4, q5⟩, hV⟩ := hcs k hlt
      have hae : a = some ⟨b, off, none⟩ := by cases he; cases ha; rfl
      subst hae
      have e : ∀ j, wr.cell? ⟨b, j, none⟩ = w.cell? ⟨b, j, none⟩ := fun j => hb.cell (p := ⟨b, j, none⟩) hl
      rw [← e] at q0 q1 q2 q3 q4 q5
      have hV' := hV.below hb
      obtain ⟨r, hr⟩ : ∃ r, rs.getD k noRule = r := ⟨_, rfl⟩
      rw [hr] at q5 hV hV'
      have HRr : Hid (rs.getD k noRule = r) := hr
      have HB : Hid (Below w.heap.size w wr) := hb
      have HV' : Hid _ := hV'
      obtain ⟨a0, p0, rfl, _, _⟩ := hV.verbs
      obtain ⟨a1, p1, rfl, _, _⟩ := hV.groups
      obtain ⟨a2, p2, rfl, _, _⟩ := hV.resources
      obtain ⟨a3, p3, rfl, _, _⟩ := hV.names
      obtain ⟨a4, p4, rfl, _, _⟩ := hV.bys
      clear hcs he ha hr hb HH hV hV' e
      go_wp2_with fail
      refine (toRR_any (fun b => F b ∧ b < w.heap.size) _ _ _ _ _ r _ HV'.out).mono ?_
      rintro e w2 ⟨rfl, hb2⟩
      have hblk2 : Blk w2 w.heap.size 41 (rs.length * 6) := hblk.out.same (F := Any) trivial (Same.of_below hb2)
      obtain ⟨u0, y0⟩ := hblk2.cell (k * 6) (by omega)
      obtain ⟨u1, y1⟩ := hblk2.cell (k * 6 + 1) (by omega)
      obtain ⟨u2, y2⟩ := hblk2.cell (k * 6 + 2) (by omega)
      obtain ⟨u3, y3⟩ := hblk2.cell (k * 6 + 3) (by omega)
      obtain ⟨u4, y4⟩ := hblk2.cell (k * 6 + 4) (by omega)
      obtain ⟨u5, y5⟩ := hblk2.cell (k * 6 + 5) (by omega)
      have f := hblk2.frozen
      have hzr := hblk.out.lt
      have HRow : Hid (RowR (FO F w w.heap.size) (w2.setCells w.heap.size (k * 6) [.slice a0 r.verbs.length p0, .slice a1 r.groups.length p1, .slice a2 r.resources.length p2, .slice a3 r.names.length p3, .slice a4 r.bys.length p4, .bool r.any]) w.heap.size rs (k + 1)) := by
        have h1 : RowR (FO F w w.heap.size) w2 w.heap.size rs k := hrow.out.same (G := Any) (Same.of_below hb2) trivial hzr (fun _ _ => trivial)
        have h2 : RuleV (FO F w w.heap.size) w2 (.slice a0 r.verbs.length p0) (.slice a1 r.groups.length p1) (.slice a2 r.resources.length p2) (.slice a3 r.names.length p3) (.slice a4 r.bys.length p4) (rs.getD k noRule) := by rw [HRr.out]; exact (HV'.out.same (Same.of_below hb2)).mono (fun b _ hn => .inl hn)
        have := h1.put hblk2 (by omega) (fun b hb => by rcases hb with h | h <;> omega) h2
        rw [HRr.out] at this
        exact this
      have HBlk : Hid (Blk (w2.setCells w.heap.size (k * 6) [.slice a0 r.verbs.length p0, .slice a1 r.groups.length p1, .slice a2 r.resources.length p2, .slice a3 r.names.length p3, .slice a4 r.bys.length p4, .bool r.any]) w.heap.size 41 (rs.length * 6)) := Blk.sets _ hblk2 _
      have HB2 : Hid (Below w.heap.size w (w2.setCells w.heap.size (k * 6) [.slice a0 r.verbs.length p0, .slice a1 r.groups.length p1, .slice a2 r.resources.length p2, .slice a3 r.names.length p3, .slice a4 r.bys.length p4, .bool r.any])) := below_sets (Nat.le_refl _) _ (HB.out.trans (hb2.mono HB.out.size)) _
      clear hb2 q0 q1 q2 q3 q4 q5 hblk2 hrow hblk HB HV'
      go_wp2_with fail
      go_roundw
      case rel => exact ⟨k + 1, by omega, by go_num, HRow.out, HBlk.out, HB2.out⟩
      case measure => simp [intOf]; omega
    · obtain rfl : k = rs.length := by omega
      have HF : Hid (Rules (FN F w) wr (.slice (some ⟨w.heap.size, 0, none⟩) rs.length rs.length) rs) := hrow.out.rulesF (Nat.le_refl _) hblk.out.lt
      have HB : Hid (Below w.heap.size w wr) := hb
      clear hb HH hlt hrow hblk
      go_wp2_with fail
      go_ret
      exact ⟨⟨_, rfl, HF.out⟩, HB.out⟩
end Go.Proofs.Qxb6606306aRR
