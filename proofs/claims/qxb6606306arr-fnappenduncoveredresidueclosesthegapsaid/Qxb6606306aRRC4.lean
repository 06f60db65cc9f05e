/- clonePaths. -/
import Derived.Test.Qxb6606306aRRC3
namespace Go.Proofs.Qxb6606306aRR
open Go.RowKit
theorem info58 : (Try.prog.info? 58).map (fun i => (i.zero, i.size, i.bytes)) = some (some (.agg #[.slice none 0 0, .slice none 0 0]), 2, 48) := by kernel_rfl
theorem info32 : (Try.prog.info? 32).map (fun i => (i.zero, i.size, i.bytes)) = some (some (.agg #[.slice none 0 0, .slice none 0 0]), 2, 48) := by kernel_rfl
theorem Paths.mono {F G : Nat → Prop} {w : World} {v : Value} {ps : List PathD} (h : Paths F w v ps) (hG : ∀ b, b < w.heap.size → F b → G b) : Paths G w v ps := by
  obtain ⟨a, cap, rfl, hc⟩ := h
  refine ⟨a, cap, rfl, fun i hi => ?_⟩
  obtain ⟨b, off, c0, c1, ha, hF, hl, hcell, hr0, hr1⟩ := hc i hi
  exact ⟨b, off, c0, c1, ha, hG b hl hF, hl, hcell, hr0.mono hG, hr1.mono hG⟩
theorem Rules.mono {F G : Nat → Prop} {w : World} {v : Value} {rs : List RuleD} (h : Rules F w v rs) (hG : ∀ b, b < w.heap.size → F b → G b) : Rules G w v rs := by
  obtain ⟨a, cap, rfl, hc⟩ := h
  refine ⟨a, cap, rfl, fun i hi => ?_⟩
  obtain ⟨b, off, c0, c1, c2, c3, c4, ha, hF, hl, hcell, hr⟩ := hc i hi
  exact ⟨b, off, c0, c1, c2, c3, c4, ha, hG b hl hF, hl, hcell, hr.mono hG⟩

/-- The first k pairs stand in block B. -/
def Row2 (E : World → Nat → Value → Value → Prop) (w : World) (B k : Nat) : Prop :=
  ∀ i, i < k → ∃ c0 c1, (w.cell? ⟨B, i * 2, none⟩ = some c0 ∧ w.cell? ⟨B, i * 2 + 1, none⟩ = some c1) ∧ E w i c0 c1
theorem Row2.same {E : World → Nat → Value → Value → Prop} {G : Nat → Prop} {w w' : World} {B k : Nat} (h : Row2 E w B k) (s : Same G w w') (hB : G B) (hl : B < w.heap.size) (hE : ∀ i c0 c1, E w i c0 c1 → E w' i c0 c1) : Row2 E w' B k := fun i hi => by
  obtain ⟨c0, c1, ⟨h0, h1⟩, hv⟩ := h i hi
  have e : ∀ j, w'.cell? ⟨B, j, none⟩ = w.cell? ⟨B, j, none⟩ := fun j => s.cell (p := ⟨B, j, none⟩) hB hl
  exact ⟨c0, c1, ⟨(e _).trans h0, (e _).trans h1⟩, hE _ _ _ hv⟩
theorem Row2.put {E : World → Nat → Value → Value → Prop} {w : World} {B t m k : Nat} (h : Row2 E w B k) (hb : Blk w B t m) (hm : k * 2 + 2 ≤ m) {c0 c1 : Value} (hE : ∀ i d0 d1, E w i d0 d1 → E (w.setCells B (k * 2) [c0, c1]) i d0 d1) (hv : E w k c0 c1) :
    Row2 E (w.setCells B (k * 2) [c0, c1]) B (k + 1) := fun i hi => by
  rcases Nat.lt_or_ge i k with hik | hik
  · obtain ⟨d0, d1, ⟨h0, h1⟩, hd⟩ := h i hik
    have e : ∀ j, j < k * 2 → (w.setCells B (k * 2) [c0, c1]).cell? ⟨B, j, none⟩ = w.cell? ⟨B, j, none⟩ := fun j hj => sets_out w B _ _ j (.inl hj)
    exact ⟨d0, d1, ⟨(e _ (by omega)).trans h0, (e _ (by omega)).trans h1⟩, hE _ _ _ hd⟩
  · obtain rfl : i = k := by omega
    have e := fun j hj => sets_at hb (i * 2) [c0, c1] (by simpa using hm) j hj
    exact ⟨c0, c1, ⟨e 0 (by simp), e 1 (by simp)⟩, hE _ _ _ hv⟩

/-- What a round keeps: the source's two cells, room in the row, and what lay below. -/
theorem keep2 {w w' : World} {b o t m k : Nat} {c0 c1 : Value} (hb : b < w.heap.size) (h0 : w.cell? ⟨b, o, none⟩ = some c0) (h1 : w.cell? ⟨b, o + 1, none⟩ = some c1) (hm : k * 2 + 2 ≤ m) (hk : Blk w' w.heap.size t m) (hl : Below w.heap.size w w') :
    (w'.cell? ⟨b, o, none⟩ = some c0 ∧ w'.cell? ⟨b, o + 1, none⟩ = some c1) ∧ ((w'.cell? ⟨w.heap.size, k * 2, none⟩).isSome = true ∧ (w'.cell? ⟨w.heap.size, k * 2 + 1, none⟩).isSome = true) ∧ (w'.frozen? ⟨w.heap.size, k * 2, none⟩ = false ∧ w'.frozen? ⟨w.heap.size, k * 2 + 1, none⟩ = false) ∧ Blk w' w.heap.size t m ∧ Below w.heap.size w w' := by
  have e : ∀ j, w'.cell? ⟨b, j, none⟩ = w.cell? ⟨b, j, none⟩ := fun j => hl.cell (p := ⟨b, j, none⟩) hb
  obtain ⟨u0, y0⟩ := hk.cell (k * 2) (by omega)
  obtain ⟨u1, y1⟩ := hk.cell (k * 2 + 1) (by omega)
  exact ⟨⟨(e _).trans h0, (e _).trans h1⟩, ⟨by rw [y0]; rfl, by rw [y1]; rfl⟩, ⟨hk.frozen _, hk.frozen _⟩, hk, hl⟩
theorem keep2_next {w w1 w2 : World} {b o t m k : Nat} {c0 c1 : Value} (hb : b < w.heap.size) (hq0 : w.cell? ⟨b, o, none⟩ = some c0) (hq1 : w.cell? ⟨b, o + 1, none⟩ = some c1) (hm : k * 2 + 2 ≤ m) (h12 : Below w1.heap.size w1 w2)
    (h : (w1.cell? ⟨b, o, none⟩ = some c0 ∧ w1.cell? ⟨b, o + 1, none⟩ = some c1) ∧ ((w1.cell? ⟨w.heap.size, k * 2, none⟩).isSome = true ∧ (w1.cell? ⟨w.heap.size, k * 2 + 1, none⟩).isSome = true) ∧ (w1.frozen? ⟨w.heap.size, k * 2, none⟩ = false ∧ w1.frozen? ⟨w.heap.size, k * 2 + 1, none⟩ = false) ∧ Blk w1 w.heap.size t m ∧ Below w.heap.size w w1) :
    (w2.cell? ⟨b, o, none⟩ = some c0 ∧ w2.cell? ⟨b, o + 1, none⟩ = some c1) ∧ ((w2.cell? ⟨w.heap.size, k * 2, none⟩).isSome = true ∧ (w2.cell? ⟨w.heap.size, k * 2 + 1, none⟩).isSome = true) ∧ (w2.frozen? ⟨w.heap.size, k * 2, none⟩ = false ∧ w2.frozen? ⟨w.heap.size, k * 2 + 1, none⟩ = false) ∧ Blk w2 w.heap.size t m ∧ Below w.heap.size w w2 :=
  keep2 hb hq0 hq1 hm (h.2.2.2.1.same (F := Any) trivial (Same.of_below h12)) (h.2.2.2.2.trans (h12.mono h.2.2.2.2.size))
theorem keep2_set {w w1 : World} {b o t m k : Nat} {c0 c1 v0 v1 : Value} (hb : b < w.heap.size) (hq0 : w.cell? ⟨b, o, none⟩ = some c0) (hq1 : w.cell? ⟨b, o + 1, none⟩ = some c1) (hm : k * 2 + 2 ≤ m)
    (h : (w1.cell? ⟨b, o, none⟩ = some c0 ∧ w1.cell? ⟨b, o + 1, none⟩ = some c1) ∧ ((w1.cell? ⟨w.heap.size, k * 2, none⟩).isSome = true ∧ (w1.cell? ⟨w.heap.size, k * 2 + 1, none⟩).isSome = true) ∧ (w1.frozen? ⟨w.heap.size, k * 2, none⟩ = false ∧ w1.frozen? ⟨w.heap.size, k * 2 + 1, none⟩ = false) ∧ Blk w1 w.heap.size t m ∧ Below w.heap.size w w1) :
    (((w1.setCell ⟨w.heap.size, k * 2, none⟩ v0).setCell ⟨w.heap.size, k * 2 + 1, none⟩ v1).cell? ⟨b, o, none⟩ = some c0 ∧ ((w1.setCell ⟨w.heap.size, k * 2, none⟩ v0).setCell ⟨w.heap.size, k * 2 + 1, none⟩ v1).cell? ⟨b, o + 1, none⟩ = some c1) ∧ ((((w1.setCell ⟨w.heap.size, k * 2, none⟩ v0).setCell ⟨w.heap.size, k * 2 + 1, none⟩ v1).cell? ⟨w.heap.size, k * 2, none⟩).isSome = true ∧ (((w1.setCell ⟨w.heap.size, k * 2, none⟩ v0).setCell ⟨w.heap.size, k * 2 + 1, none⟩ v1).cell? ⟨w.heap.size, k * 2 + 1, none⟩).isSome = true) ∧ (((w1.setCell ⟨w.heap.size, k * 2, none⟩ v0).setCell ⟨w.heap.size, k * 2 + 1, none⟩ v1).frozen? ⟨w.heap.size, k * 2, none⟩ = false ∧ ((w1.setCell ⟨w.heap.size, k * 2, none⟩ v0).setCell ⟨w.heap.size, k * 2 + 1, none⟩ v1).frozen? ⟨w.heap.size, k * 2 + 1, none⟩ = false) ∧ Blk ((w1.setCell ⟨w.heap.size, k * 2, none⟩ v0).setCell ⟨w.heap.size, k * 2 + 1, none⟩ v1) w.heap.size t m ∧ Below w.heap.size w ((w1.setCell ⟨w.heap.size, k * 2, none⟩ v0).setCell ⟨w.heap.size, k * 2 + 1, none⟩ v1) := by
  have hp : ∀ j, w.heap.size ≤ (⟨w.heap.size, j, none⟩ : Addr).block := fun j => Nat.le_refl _
  exact keep2 hb hq0 hq1 hm ((h.2.2.2.1.set _ _).set _ _) ((h.2.2.2.2.setCell (hp _) _).setCell (hp _) _)

theorem below_of_keep2 {w w' : World} {p q r s : Prop} (h : p ∧ q ∧ r ∧ s ∧ Below w.heap.size w w') : Below w.heap.size w w' := h.2.2.2.2
theorem dest2 {w w1 w2 : World} {t m k : Nat} {p q r : Prop} (hm : k * 2 + 2 ≤ m) (hb : Below w1.heap.size w1 w2) (h : p ∧ q ∧ r ∧ Blk w1 w.heap.size t m ∧ Below w.heap.size w w1) :
    ∃ u0 u1, w2.cell? ⟨w.heap.size, k * 2, none⟩ = some u0 ∧ w2.cell? ⟨w.heap.size, k * 2 + 1, none⟩ = some u1 := by
  have hk : Blk w2 w.heap.size t m := h.2.2.2.1.same (F := Any) trivial (Same.of_below hb)
  obtain ⟨u0, y0⟩ := hk.cell (k * 2) (by omega)
  obtain ⟨u1, y1⟩ := hk.cell (k * 2 + 1) (by omega)
  exact ⟨u0, u1, y0, y1⟩
/-- It returned a slice of these path rules, in new memory. -/
def RetPaths (w w' : World) (ps : List PathD) (e : Ending) : Prop := ∃ v, e = .returned v ∧ Paths (New w) w' v ps
def PathE (F : Nat → Prop) (ps : List PathD) (w : World) (i : Nat) (c0 c1 : Value) : Prop := Strs F w c0 (ps.getD i noPath).verbs ∧ Strs F w c1 (ps.getD i noPath).urls
def SmallPs (ps : List PathD) : Prop := ps.length ≤ 1048576 ∧ ∀ p ∈ ps, SmallP p
theorem Row2.paths {w w' : World} {B cap : Nat} {ps : List PathD} (h : Row2 (PathE (Off w B) ps) w' B ps.length) (hB : w.heap.size ≤ B) (hl : B < w'.heap.size) : Paths (New w) w' (.slice (some ⟨B, 0, none⟩) ps.length cap) ps :=
  ⟨_, _, rfl, fun i hi => by
    obtain ⟨c0, c1, hc, hv⟩ := h i hi
    refine ⟨B, 0, c0, c1, rfl, hB, hl, ?_, hv.1.mono (fun b _ hb => hb.1), hv.2.mono (fun b _ hb => hb.1)⟩
    simpa only [Nat.zero_add] using hc⟩
theorem path_fin (w wr w1 w2 : World) (ps : List PathD) (k m : Nat) (v0 v1 : Value) (hrow : Row2 (PathE (Off w w.heap.size) ps) wr w.heap.size k) (hblk : Blk wr w.heap.size 58 m) (hm : k * 2 + 2 ≤ m) (hb : Below w.heap.size w wr)
    (hb1 : Below wr.drew.heap.size wr.drew w1) (hb2 : Below w1.heap.size w1 w2) (s0 : Strs (New wr.drew) w1 v0 (ps.getD k noPath).verbs) (s1 : Strs (New w1) w2 v1 (ps.getD k noPath).urls) :
    Row2 (PathE (Off w w.heap.size) ps) ((w2.setCell ⟨w.heap.size, k * 2, none⟩ v0).setCell ⟨w.heap.size, k * 2 + 1, none⟩ v1) w.heap.size (k + 1) ∧ Blk ((w2.setCell ⟨w.heap.size, k * 2, none⟩ v0).setCell ⟨w.heap.size, k * 2 + 1, none⟩ v1) w.heap.size 58 m ∧ Below w.heap.size w ((w2.setCell ⟨w.heap.size, k * 2, none⟩ v0).setCell ⟨w.heap.size, k * 2 + 1, none⟩ v1) := by
  have hlr := hblk.lt
  have hr2 : Below wr.heap.size wr w2 := (Below.refl _ _).drew.trans (hb1.trans (hb2.mono hb1.size))
  have hl2 : wr.heap.size ≤ w1.heap.size := hb1.size
  have hk2 : Blk w2 w.heap.size 58 m := hblk.same (F := Any) trivial (Same.of_below hr2)
  have hp : ∀ j, w.heap.size ≤ (⟨w.heap.size, j, none⟩ : Addr).block := fun j => Nat.le_refl _
  have hE : ∀ {a b : World}, Same (Off w w.heap.size) a b → ∀ i c0 c1, PathE (Off w w.heap.size) ps a i c0 c1 → PathE (Off w w.heap.size) ps b i c0 c1 := fun s i c0 c1 h => ⟨h.1.same s, h.2.same s⟩
  have h2 : Row2 (PathE (Off w w.heap.size) ps) w2 w.heap.size k := hrow.same (G := Any) (Same.of_below hr2) trivial hlr (hE (Same.of_below hr2))
  have hv : PathE (Off w w.heap.size) ps w2 k v0 v1 :=
    ⟨(s0.same (Same.of_below hb2)).mono (fun b _ hn => ⟨by unfold New at hn; simp at hn; omega, by unfold New at hn; simp at hn; omega⟩), s1.mono (fun b _ hn => ⟨by unfold New at hn; omega, by unfold New at hn; omega⟩)⟩
  exact ⟨h2.put hk2 hm (c0 := v0) (c1 := v1) (hE ((Same.sets w2 w.heap.size _ _).mono (fun b hb => hb.2))) hv, (hk2.set _ _).set _ _, ((hb.trans (hr2.mono hb.size)).setCell (hp _) _).setCell (hp _) _⟩
theorem getP_mem' (ps : List PathD) (i : Nat) (h : i < ps.length) : ps.getD i noPath ∈ ps := by
  rw [List.getD_eq_getElem?_getD, List.getElem?_eq_getElem h]; exact List.getElem_mem h

set_option maxRecDepth 8000 in
set_option maxHeartbeats 1000000 in
theorem clonePaths_any (F : Nat → Prop) (v : Value) (ps : List PathD) (w : World) (h : Paths F w v ps) (hs : SmallPs ps) :
    Calls Try.prog 32 #[v] w fun e w' => RetPaths w w' ps e ∧ Below w.heap.size w w' := by
  have HH : Hid (∀ w', Below w.heap.size w w' → Paths F w' v ps) := fun w' hb => h.same (Same.of_below hb)
  obtain ⟨a, cap, rfl, hc⟩ := h
  have hn := hs.1
  have HS : Hid (∀ r ∈ ps, SmallP r) := hs.2
  clear hs
  have hnil := fun w' (n c : Nat) => Lib.run_eql_slice_nil (P := Try.prog) w' 30 58 a n c 0 0 Try.underlying30
  cases a with
  | none =>
    have hx : ps = [] := by
      cases ps with
      | nil => rfl
      | cons s t => obtain ⟨b, off, _, _, ha, _⟩ := hc 0 (by simp); cases ha
    subst hx
    clear hc HH
    go_enter Try.func32, Try.ntmps32
    go_wp2_with fail
    go_ret
    exact ⟨⟨_, rfl, none, 0, rfl, fun i hi => absurd hi (Nat.not_lt_zero _)⟩, Below.refl _ _⟩
  | some x =>
    clear hc
    obtain ⟨i0, hi, hz0, hz1, hz2⟩ := info_parts info58
    go_enter Try.func32, Try.ntmps32
    go_wp2_with (at_make; refine wpList_make_full _ rfl _ _ 30 rfl w.heap.size 58 i0 _ 2 Try.underlying30 hi hz0 hz1 .i64 .i64 _ _ ps.length rfl rfl rfl rfl (by rw [hz2]; omega) (by unfold Go.maxLen; omega) (Nat.le_refl _) ?_; intro w1 hown1 hgrow1)
    have hb1 : Below w.heap.size w w1 := (Below.refl _ _).grown hgrow1 (Nat.le_refl _) (by simp)
    have hk1 : Blk w1 w.heap.size 58 (ps.length * 2) := Blk.of_owns hown1
    clear hown1 hgrow1
    go_loopw [4] (fun i wr => ∃ k : Nat, k ≤ ps.length ∧ i = .int .i64 k ∧ Hid (Row2 (PathE (Off w w.heap.size) ps) wr w.heap.size k) ∧ Hid (Blk wr w.heap.size 58 (ps.length * 2)) ∧ Below w.heap.size w wr) (fun i _ => ps.length - (intOf i).toNat)
    case atStart => exact ⟨0, Nat.zero_le _, rfl, fun i hi => absurd hi (Nat.not_lt_zero _), hk1, hb1⟩
    case round =>
      clear hk1 hb1
      obtain ⟨k, hk, rfl, hrow, hblk, hb⟩ := hrel
      by_cases hlt : k < ps.length
      · obtain ⟨a', cap', he, hcs⟩ := HH.out w (Below.refl _ _)
        obtain ⟨b, off, c0, c1, ha, _, hl, ⟨q0, q1⟩, hV⟩ := hcs k hlt
        have hae : x = ⟨b, off, none⟩ := by cases he; cases ha; rfl
        subst hae
        have HV : Hid (∀ w', Below w.heap.size w w' → Strs F w' c0 (ps.getD k noPath).verbs ∧ Strs F w' c1 (ps.getD k noPath).urls) := fun w' hb => ⟨hV.1.same (Same.of_below hb), hV.2.same (Same.of_below hb)⟩
        have hsp : SmallP (ps.getD k noPath) := HS.out _ (getP_mem' ps k hlt)
        have hl0 : (ps.getD k noPath).verbs.length ≤ 1048576 := by have := hsp.1.1; omega
        have hl1 : (ps.getD k noPath).urls.length ≤ 1048576 := by have := hsp.2.1; omega
        obtain ⟨p, hp⟩ : ∃ p, ps.getD k noPath = p := ⟨_, rfl⟩
        have HP : Hid (ps.getD k noPath = p) := hp
        rw [hp] at hl0 hl1 HV hV
        have HFIN : Hid (∀ w1 w2 v0 v1, Below wr.drew.heap.size wr.drew w1 → Below w1.heap.size w1 w2 → Strs (New wr.drew) w1 v0 (ps.getD k noPath).verbs → Strs (New w1) w2 v1 (ps.getD k noPath).urls → _) := fun w1 w2 v0 v1 => path_fin w wr w1 w2 ps k (ps.length * 2) v0 v1 hrow.out hblk.out (by omega) hb
        obtain ⟨a0, p0, rfl, _, _⟩ := hV.1
        obtain ⟨a1, p1, rfl, _, _⟩ := hV.2
        have HBk : Hid (Blk wr.drew w.heap.size 58 (ps.length * 2)) := hblk.out
        have HB : Hid (Below w.heap.size w wr.drew) := hb.drew
        have hm : k * 2 + 2 ≤ ps.length * 2 := by omega
        have H0 : Hid _ := q0
        have H1 : Hid _ := q1
        rw [hp] at HFIN
        clear hcs he ha hb HH hV hsp hrow hblk hp q0 q1
        go_wp2_with fail
        go_region_held3 (fun w' => (w'.cell? ⟨b, off + k * 2, none⟩ = some (.slice a0 p.verbs.length p0) ∧ w'.cell? ⟨b, off + k * 2 + 1, none⟩ = some (.slice a1 p.urls.length p1)) ∧ ((w'.cell? ⟨w.heap.size, k * 2, none⟩).isSome = true ∧ (w'.cell? ⟨w.heap.size, k * 2 + 1, none⟩).isSome = true) ∧ (w'.frozen? ⟨w.heap.size, k * 2, none⟩ = false ∧ w'.frozen? ⟨w.heap.size, k * 2 + 1, none⟩ = false) ∧ Blk w' w.heap.size 58 (ps.length * 2) ∧ Below w.heap.size w w') (first | (with_reducible refine keep2_set hl H0.out H1.out hm ?_; assumption) | (with_reducible exact keep2 hl H0.out H1.out hm HBk.out HB.out) | (refine keep2_next hl H0.out H1.out hm (by assumption) ?_; assumption)) (first | (go_at_call_of 30 a0; refine (cloneStrs_any F _ p.verbs _ ?_ hl0).mono ?_; exact (HV.out _ (below_of_keep2 (by assumption))).1; rintro e w0 ⟨⟨_, rfl, b0, q0, rfl, hs0, hz0⟩, hb0⟩) | (go_at_call_of 30 a1; refine (cloneStrs_any F _ p.urls _ ?_ hl1).mono ?_; exact (HV.out _ (below_of_keep2 (by assumption))).2; rintro e w1 ⟨⟨_, rfl, b1, q1, rfl, hs1, hz1⟩, hb1⟩; obtain ⟨u0, u1, y0, y1⟩ := dest2 (w := w) (k := k) (t := 58) hm hb1 (by assumption)))
        have HR : Hid _ := HFIN.out w0 w1 (.slice b0 p.verbs.length q0) (.slice b1 p.urls.length q1) hb0 hb1 ⟨b0, q0, rfl, hs0, hz0⟩ ⟨b1, q1, rfl, hs1, hz1⟩
        clear HFIN hb0 hb1 hs0 hs1 hz0 hz1 HV HBk HB
        go_wp2_with fail
        go_roundw
        case rel => exact ⟨k + 1, by omega, by go_num, HR.out.1, HR.out.2.1, HR.out.2.2⟩
        case measure => simp [intOf]; omega
      · obtain rfl : k = ps.length := by omega
        have HF : Hid (Paths (New w) wr (.slice (some ⟨w.heap.size, 0, none⟩) ps.length ps.length) ps) := hrow.out.paths (Nat.le_refl _) hblk.out.lt
        have HB : Hid (Below w.heap.size w wr) := hb
        clear hb HH hlt hrow hblk
        go_wp2_with fail
        go_ret
        exact ⟨⟨_, rfl, HF.out⟩, HB.out⟩
end Go.Proofs.Qxb6606306aRR
