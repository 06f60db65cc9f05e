/- cloneEntries. -/
import Derived.Test.Qxb6606306aRRC4
import Derived.Test.Qxb6606306aRRG5
namespace Go.Proofs.Qxb6606306aRR
open Go.RowKit
/-- It returned a slice of these entries, in new memory. -/
def RetEntries (w w' : World) (es : List EntryD) (e : Ending) : Prop := ∃ v, e = .returned v ∧ Entries (New w) w' v es
def EntE (F : Nat → Prop) (es : List EntryD) (w : World) (i : Nat) (c0 c1 : Value) : Prop := Rules F w c0 (es.getD i noEntry).rules ∧ Paths F w c1 (es.getD i noEntry).paths
theorem Row2.entries {w w' : World} {B cap : Nat} {es : List EntryD} (h : Row2 (EntE (Off w B) es) w' B es.length) (hB : w.heap.size ≤ B) (hl : B < w'.heap.size) : Entries (New w) w' (.slice (some ⟨B, 0, none⟩) es.length cap) es :=
  ⟨_, _, rfl, fun i hi => by
    obtain ⟨c0, c1, hc, hv⟩ := h i hi
    refine ⟨B, 0, c0, c1, rfl, hB, hl, ?_, hv.1.mono (fun b _ hb => hb.1), hv.2.mono (fun b _ hb => hb.1)⟩
    simpa only [Nat.zero_add] using hc⟩
theorem ent_fin (w wr w1 w2 : World) (es : List EntryD) (k m : Nat) (v0 v1 : Value) (hrow : Row2 (EntE (Off w w.heap.size) es) wr w.heap.size k) (hblk : Blk wr w.heap.size 32 m) (hm : k * 2 + 2 ≤ m) (hb : Below w.heap.size w wr)
    (hb1 : Below wr.drew.heap.size wr.drew w1) (hb2 : Below w1.heap.size w1 w2) (s0 : Rules (New wr.drew) w1 v0 (es.getD k noEntry).rules) (s1 : Paths (New w1) w2 v1 (es.getD k noEntry).paths) :
    Row2 (EntE (Off w w.heap.size) es) ((w2.setCell ⟨w.heap.size, k * 2, none⟩ v0).setCell ⟨w.heap.size, k * 2 + 1, none⟩ v1) w.heap.size (k + 1) ∧ Blk ((w2.setCell ⟨w.heap.size, k * 2, none⟩ v0).setCell ⟨w.heap.size, k * 2 + 1, none⟩ v1) w.heap.size 32 m ∧ Below w.heap.size w ((w2.setCell ⟨w.heap.size, k * 2, none⟩ v0).setCell ⟨w.heap.size, k * 2 + 1, none⟩ v1) := by
  have hlr := hblk.lt
  have hr2 : Below wr.heap.size wr w2 := (Below.refl _ _).drew.trans (hb1.trans (hb2.mono hb1.size))
  have hl2 : wr.heap.size ≤ w1.heap.size := hb1.size
  have hk2 : Blk w2 w.heap.size 32 m := hblk.same (F := Any) trivial (Same.of_below hr2)
  have hp : ∀ j, w.heap.size ≤ (⟨w.heap.size, j, none⟩ : Addr).block := fun j => Nat.le_refl _
  have hE : ∀ {a b : World}, Same (Off w w.heap.size) a b → ∀ i c0 c1, EntE (Off w w.heap.size) es a i c0 c1 → EntE (Off w w.heap.size) es b i c0 c1 := fun s i c0 c1 h => ⟨h.1.same s, h.2.same s⟩
  have h2 : Row2 (EntE (Off w w.heap.size) es) w2 w.heap.size k := hrow.same (G := Any) (Same.of_below hr2) trivial hlr (hE (Same.of_below hr2))
  have hv : EntE (Off w w.heap.size) es w2 k v0 v1 :=
    ⟨(s0.same (Same.of_below hb2)).mono (fun b _ hn => ⟨by unfold New at hn; simp at hn; omega, by unfold New at hn; simp at hn; omega⟩), s1.mono (fun b _ hn => ⟨by unfold New at hn; omega, by unfold New at hn; omega⟩)⟩
  exact ⟨h2.put hk2 hm (c0 := v0) (c1 := v1) (hE ((Same.sets w2 w.heap.size _ _).mono (fun b hb => hb.2))) hv, (hk2.set _ _).set _ _, ((hb.trans (hr2.mono hb.size)).setCell (hp _) _).setCell (hp _) _⟩

set_option maxRecDepth 8000 in
set_option maxHeartbeats 1000000 in
theorem cloneEntries_any (F : Nat → Prop) (v : Value) (es : List EntryD) (w : World) (h : Entries F w v es) (hs : SmallEs es) :
    Calls Try.prog 15 #[v] w fun e w' => RetEntries w w' es e ∧ Below w.heap.size w w' := by
  have HH : Hid (∀ w', Below w.heap.size w w' → Entries F w' v es) := fun w' hb => h.same (Same.of_below hb)
  obtain ⟨a, cap, rfl, hc⟩ := h
  have hn := hs.1
  have HS : Hid (∀ r ∈ es, SmallE r) := hs.2
  clear hs
  have hnil := fun w' (n c : Nat) => Lib.run_eql_slice_nil (P := Try.prog) w' 33 32 a n c 0 0 Try.underlying33
  cases a with
  | none =>
    have hx : es = [] := by
      cases es with
      | nil => rfl
      | cons s t => obtain ⟨b, off, _, _, ha, _⟩ := hc 0 (by simp); cases ha
    subst hx
    clear hc HH
    go_enter Try.func15, Try.ntmps15
    go_wp2_with fail
    go_ret
    exact ⟨⟨_, rfl, none, 0, rfl, fun i hi => absurd hi (Nat.not_lt_zero _)⟩, Below.refl _ _⟩
  | some x =>
    clear hc
    obtain ⟨i0, hi, hz0, hz1, hz2⟩ := info_parts info32
    go_enter Try.func15, Try.ntmps15
    go_wp2_with (at_make; refine wpList_make_full _ rfl _ _ 33 rfl w.heap.size 32 i0 _ 2 Try.underlying33 hi hz0 hz1 .i64 .i64 _ _ es.length rfl rfl rfl rfl (by rw [hz2]; omega) (by unfold Go.maxLen; omega) (Nat.le_refl _) ?_; intro w1 hown1 hgrow1)
    have hb1 : Below w.heap.size w w1 := (Below.refl _ _).grown hgrow1 (Nat.le_refl _) (by simp)
    have hk1 : Blk w1 w.heap.size 32 (es.length * 2) := Blk.of_owns hown1
    clear hown1 hgrow1
    go_loopw [4] (fun i wr => ∃ k : Nat, k ≤ es.length ∧ i = .int .i64 k ∧ Hid (Row2 (EntE (Off w w.heap.size) es) wr w.heap.size k) ∧ Hid (Blk wr w.heap.size 32 (es.length * 2)) ∧ Below w.heap.size w wr) (fun i _ => es.length - (intOf i).toNat)
    case atStart => exact ⟨0, Nat.zero_le _, rfl, fun i hi => absurd hi (Nat.not_lt_zero _), hk1, hb1⟩
    case round =>
      clear hk1 hb1
      obtain ⟨k, hk, rfl, hrow, hblk, hb⟩ := hrel
      by_cases hlt : k < es.length
      · obtain ⟨a', cap', he, hcs⟩ := HH.out w (Below.refl _ _)
        obtain ⟨b, off, c0, c1, ha, _, hl, ⟨q0, q1⟩, hV⟩ := hcs k hlt
        have hae : x = ⟨b, off, none⟩ := by cases he; cases ha; rfl
        subst hae
        have HV : Hid (∀ w', Below w.heap.size w w' → Rules F w' c0 (es.getD k noEntry).rules ∧ Paths F w' c1 (es.getD k noEntry).paths) := fun w' hb => ⟨hV.1.same (Same.of_below hb), hV.2.same (Same.of_below hb)⟩
        have hsp : SmallE (es.getD k noEntry) := HS.out _ (getE_mem es k hlt)
        have hl0 : SmallRs (es.getD k noEntry).rules := hsp.1
        have hl1 : SmallPs (es.getD k noEntry).paths := hsp.2
        obtain ⟨p, hp⟩ : ∃ p, es.getD k noEntry = p := ⟨_, rfl⟩
        have HP : Hid (es.getD k noEntry = p) := hp
        rw [hp] at hl0 hl1 HV hV
        have HFIN : Hid (∀ w1 w2 v0 v1, Below wr.drew.heap.size wr.drew w1 → Below w1.heap.size w1 w2 → Rules (New wr.drew) w1 v0 (es.getD k noEntry).rules → Paths (New w1) w2 v1 (es.getD k noEntry).paths → _) := fun w1 w2 v0 v1 => ent_fin w wr w1 w2 es k (es.length * 2) v0 v1 hrow.out hblk.out (by omega) hb
        obtain ⟨a0, p0, rfl, _⟩ := hV.1
        obtain ⟨a1, p1, rfl, _⟩ := hV.2
        have HBk : Hid (Blk wr.drew w.heap.size 32 (es.length * 2)) := hblk.out
        have HB : Hid (Below w.heap.size w wr.drew) := hb.drew
        have hm : k * 2 + 2 ≤ es.length * 2 := by omega
        have H0 : Hid _ := q0
        have H1 : Hid _ := q1
        rw [hp] at HFIN
        clear hcs he ha hb HH hV hsp hrow hblk hp q0 q1
        go_wp2_with fail
        go_region_held3 (fun w' => (w'.cell? ⟨b, off + k * 2, none⟩ = some (.slice a0 p.rules.length p0) ∧ w'.cell? ⟨b, off + k * 2 + 1, none⟩ = some (.slice a1 p.paths.length p1)) ∧ ((w'.cell? ⟨w.heap.size, k * 2, none⟩).isSome = true ∧ (w'.cell? ⟨w.heap.size, k * 2 + 1, none⟩).isSome = true) ∧ (w'.frozen? ⟨w.heap.size, k * 2, none⟩ = false ∧ w'.frozen? ⟨w.heap.size, k * 2 + 1, none⟩ = false) ∧ Blk w' w.heap.size 32 (es.length * 2) ∧ Below w.heap.size w w') (first | (with_reducible refine keep2_set hl H0.out H1.out hm ?_; assumption) | (with_reducible exact keep2 hl H0.out H1.out hm HBk.out HB.out) | (refine keep2_next hl H0.out H1.out hm (by assumption) ?_; assumption)) (first | (go_at_call_of 31 a0; refine (cloneRules_any F _ p.rules _ ?_ hl0).mono ?_; exact (HV.out _ (below_of_keep2 (by assumption))).1; rintro e w0 ⟨⟨_, rfl, b0, q0, rfl, hs0⟩, hb0⟩) | (go_at_call_of 32 a1; refine (clonePaths_any F _ p.paths _ ?_ hl1).mono ?_; exact (HV.out _ (below_of_keep2 (by assumption))).2; rintro e w1 ⟨⟨_, rfl, b1, q1, rfl, hs1⟩, hb1⟩; obtain ⟨u0, u1, y0, y1⟩ := dest2 (w := w) (k := k) (t := 32) hm hb1 (by assumption)))
        have HR : Hid _ := HFIN.out w0 w1 (.slice b0 p.rules.length q0) (.slice b1 p.paths.length q1) hb0 hb1 ⟨b0, q0, rfl, hs0⟩ ⟨b1, q1, rfl, hs1⟩
        clear HFIN hb0 hb1 hs0 hs1 HV HBk HB
        go_wp2_with fail
        go_roundw
        case rel => exact ⟨k + 1, by omega, by go_num, HR.out.1, HR.out.2.1, HR.out.2.2⟩
        case measure => simp [intOf]; omega
      · obtain rfl : k = es.length := by omega
        have HF : Hid (Entries (New w) wr (.slice (some ⟨w.heap.size, 0, none⟩) es.length es.length) es) := hrow.out.entries (Nat.le_refl _) hblk.out.lt
        have HB : Hid (Below w.heap.size w wr) := hb
        clear hb HH hlt hrow hblk
        go_wp2_with fail
        go_ret
        exact ⟨⟨_, rfl, HF.out⟩, HB.out⟩
end Go.Proofs.Qxb6606306aRR
