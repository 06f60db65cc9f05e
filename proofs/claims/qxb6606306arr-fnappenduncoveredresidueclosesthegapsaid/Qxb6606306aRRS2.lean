/- subjects. -/
import Derived.Test.Qxb6606306aRRS1
namespace Go.Proofs.Qxb6606306aRR
open Go.RowKit
theorem info73 : (Try.prog.info? 73).map (fun i => (i.zero, i.size, i.bytes)) = some (some (.agg #[.slice none 0 0, .slice none 0 0, .slice none 0 0]), 3, 72) := by kernel_rfl
theorem info47 : (Try.prog.info? 47).map (fun i => (i.zero, i.size, i.bytes)) = some (some (.pointer none), 1, 8) := by kernel_rfl

/-- A slice of the package's own path rules (three cells each). -/
def NPaths (F : Nat → Prop) (w : World) (v : Value) (ps : List PathD) : Prop :=
  ∃ a cap, v = .slice a ps.length cap ∧ ∀ i, i < ps.length → ∃ b off c0 c1, a = some ⟨b, off, none⟩ ∧ F b ∧ b < w.heap.size ∧
    (w.cell? ⟨b, off + i * 3, none⟩ = some c0 ∧ w.cell? ⟨b, off + i * 3 + 1, none⟩ = some c1 ∧ w.cell? ⟨b, off + i * 3 + 2, none⟩ = some (.slice none 0 0)) ∧ Strs F w c0 (ps.getD i noPath).verbs ∧ Strs F w c1 (ps.getD i noPath).urls
theorem NPaths.same {F : Nat → Prop} {w w' : World} {v : Value} {ps : List PathD} (h : NPaths F w v ps) (s : Same F w w') : NPaths F w' v ps := by
  obtain ⟨a, cap, rfl, hc⟩ := h
  refine ⟨a, cap, rfl, fun i hi => ?_⟩
  obtain ⟨b, off, c0, c1, ha, hF, hl, ⟨h0, h1, h2⟩, hr0, hr1⟩ := hc i hi
  have e : ∀ j, w'.cell? ⟨b, j, none⟩ = w.cell? ⟨b, j, none⟩ := fun j => s.cell (p := ⟨b, j, none⟩) hF hl
  exact ⟨b, off, c0, c1, ha, hF, Nat.lt_of_lt_of_le hl s.1, ⟨(e _).trans h0, (e _).trans h1, (e _).trans h2⟩, hr0.same s, hr1.same s⟩
theorem NPaths.mono {F G : Nat → Prop} {w : World} {v : Value} {ps : List PathD} (h : NPaths F w v ps) (hG : ∀ b, b < w.heap.size → F b → G b) : NPaths G w v ps := by
  obtain ⟨a, cap, rfl, hc⟩ := h
  refine ⟨a, cap, rfl, fun i hi => ?_⟩
  obtain ⟨b, off, c0, c1, ha, hF, hl, hcell, hr0, hr1⟩ := hc i hi
  exact ⟨b, off, c0, c1, ha, hG b hl hF, hl, hcell, hr0.mono hG, hr1.mono hG⟩
/-- A SubjectRules in block p. -/
def SubV (F : Nat → Prop) (w : World) (p : Nat) (e : EntryD) : Prop :=
  F p ∧ p < w.heap.size ∧ ∃ c0 c1, (w.cell? ⟨p, 5, none⟩ = some c0 ∧ w.cell? ⟨p, 6, none⟩ = some c1) ∧ Rules F w c0 e.rules ∧ NPaths F w c1 e.paths
theorem SubV.same {F : Nat → Prop} {w w' : World} {p : Nat} {e : EntryD} (h : SubV F w p e) (s : Same F w w') : SubV F w' p e := by
  obtain ⟨hF, hl, c0, c1, ⟨h0, h1⟩, hr, hn⟩ := h
  have e : ∀ j, w'.cell? ⟨p, j, none⟩ = w.cell? ⟨p, j, none⟩ := fun j => s.cell (p := ⟨p, j, none⟩) hF hl
  exact ⟨hF, Nat.lt_of_lt_of_le hl s.1, c0, c1, ⟨(e _).trans h0, (e _).trans h1⟩, hr.same s, hn.same s⟩
theorem SubV.mono {F G : Nat → Prop} {w : World} {p : Nat} {e : EntryD} (h : SubV F w p e) (hG : ∀ b, b < w.heap.size → F b → G b) : SubV G w p e := by
  obtain ⟨hF, hl, c0, c1, hc, hr, hn⟩ := h
  exact ⟨hG p hl hF, hl, c0, c1, hc, hr.mono hG, hn.mono hG⟩
/-- A slice of pointers to SubjectRules. -/
def Subs (F : Nat → Prop) (w : World) (v : Value) (es : List EntryD) : Prop :=
  ∃ a cap, v = .slice a es.length cap ∧ ∀ i, i < es.length → ∃ b off p, a = some ⟨b, off, none⟩ ∧ F b ∧ b < w.heap.size ∧ w.cell? ⟨b, off + i, none⟩ = some (.pointer (some ⟨p, 0, none⟩)) ∧ SubV F w p (es.getD i noEntry)
theorem Subs.same {F : Nat → Prop} {w w' : World} {v : Value} {es : List EntryD} (h : Subs F w v es) (s : Same F w w') : Subs F w' v es := by
  obtain ⟨a, cap, rfl, hc⟩ := h
  refine ⟨a, cap, rfl, fun i hi => ?_⟩
  obtain ⟨b, off, p, ha, hF, hl, h0, hr⟩ := hc i hi
  exact ⟨b, off, p, ha, hF, Nat.lt_of_lt_of_le hl s.1, (s.cell (p := ⟨b, off + i, none⟩) hF hl).trans h0, hr.same s⟩
theorem Subs.mono {F G : Nat → Prop} {w : World} {v : Value} {es : List EntryD} (h : Subs F w v es) (hG : ∀ b, b < w.heap.size → F b → G b) : Subs G w v es := by
  obtain ⟨a, cap, rfl, hc⟩ := h
  refine ⟨a, cap, rfl, fun i hi => ?_⟩
  obtain ⟨b, off, p, ha, hF, hl, h0, hr⟩ := hc i hi
  exact ⟨b, off, p, ha, hG b hl hF, hl, h0, hr.mono hG⟩

/-- The first k path rules stand in block B. -/
def RowN (F : Nat → Prop) (w : World) (B : Nat) (ps : List PathD) (k : Nat) : Prop :=
  ∀ i, i < k → ∃ c0 c1, (w.cell? ⟨B, i * 3, none⟩ = some c0 ∧ w.cell? ⟨B, i * 3 + 1, none⟩ = some c1 ∧ w.cell? ⟨B, i * 3 + 2, none⟩ = some (.slice none 0 0)) ∧ Strs F w c0 (ps.getD i noPath).verbs ∧ Strs F w c1 (ps.getD i noPath).urls
theorem RowN.put {F : Nat → Prop} {w : World} {B t m : Nat} {ps : List PathD} {k : Nat} (h : RowN F w B ps k) (hb : Blk w B t m) (hm : k * 3 + 3 ≤ m) (hF : ∀ b, F b → b ≠ B) {c0 c1 : Value} (hv : Strs F w c0 (ps.getD k noPath).verbs ∧ Strs F w c1 (ps.getD k noPath).urls) :
    RowN F (w.setCells B (k * 3) [c0, c1, .slice none 0 0]) B ps (k + 1) := fun i hi => by
  have hs : Same F w (w.setCells B (k * 3) [c0, c1, .slice none 0 0]) := (Same.sets w B _ _).mono hF
  rcases Nat.lt_or_ge i k with hik | hik
  · obtain ⟨d0, d1, ⟨h0, h1, h2⟩, hd⟩ := h i hik
    have e : ∀ j, j < k * 3 → (w.setCells B (k * 3) [c0, c1, .slice none 0 0]).cell? ⟨B, j, none⟩ = w.cell? ⟨B, j, none⟩ := fun j hj => sets_out w B _ _ j (.inl hj)
    exact ⟨d0, d1, ⟨(e _ (by omega)).trans h0, (e _ (by omega)).trans h1, (e _ (by omega)).trans h2⟩, hd.1.same hs, hd.2.same hs⟩
  · obtain rfl : i = k := by omega
    have e := fun j hj => sets_at hb (i * 3) [c0, c1, .slice none 0 0] (by simpa using hm) j hj
    exact ⟨c0, c1, ⟨e 0 (by simp), e 1 (by simp), e 2 (by simp)⟩, hv.1.same hs, hv.2.same hs⟩
theorem RowN.paths {F : Nat → Prop} {w : World} {B cap : Nat} {ps : List PathD} (h : RowN F w B ps ps.length) (hB : F B) (hl : B < w.heap.size) : NPaths F w (.slice (some ⟨B, 0, none⟩) ps.length cap) ps :=
  ⟨_, _, rfl, fun i hi => by
    obtain ⟨c0, c1, hc, hv⟩ := h i hi
    refine ⟨B, 0, c0, c1, rfl, hB, hl, ?_, hv⟩
    simpa only [Nat.zero_add] using hc⟩
/-- The first k pointers stand in block B. -/
def RowS (F : Nat → Prop) (w : World) (B : Nat) (es : List EntryD) (k : Nat) : Prop :=
  ∀ i, i < k → ∃ p, w.cell? ⟨B, i, none⟩ = some (.pointer (some ⟨p, 0, none⟩)) ∧ SubV F w p (es.getD i noEntry)
theorem RowS.put {F : Nat → Prop} {w : World} {B t m : Nat} {es : List EntryD} {k : Nat} (h : RowS F w B es k) (hb : Blk w B t m) (hm : k + 1 ≤ m) (hF : ∀ b, F b → b ≠ B) {p : Nat} (hv : SubV F w p (es.getD k noEntry)) :
    RowS F (w.setCell ⟨B, k, none⟩ (.pointer (some ⟨p, 0, none⟩))) B es (k + 1) := fun i hi => by
  have hs : Same F w (w.setCell ⟨B, k, none⟩ (.pointer (some ⟨p, 0, none⟩))) := (Same.set w ⟨B, k, none⟩ _).mono hF
  rcases Nat.lt_or_ge i k with hik | hik
  · obtain ⟨d0, h0, hd⟩ := h i hik
    exact ⟨d0, (sets_out w B k [.pointer (some ⟨p, 0, none⟩)] i (.inl hik)).trans h0, hd.same hs⟩
  · obtain rfl : i = k := by omega
    exact ⟨p, sets_at hb i [.pointer (some ⟨p, 0, none⟩)] (by simpa using hm) 0 (by simp), hv.same hs⟩
theorem RowS.subs {F : Nat → Prop} {w : World} {B cap : Nat} {es : List EntryD} (h : RowS F w B es es.length) {G : Nat → Prop} (hB : G B) (hl : B < w.heap.size) (hFG : ∀ b, b < w.heap.size → F b → G b) : Subs G w (.slice (some ⟨B, 0, none⟩) es.length cap) es :=
  ⟨_, _, rfl, fun i hi => by
    obtain ⟨p, hc, hv⟩ := h i hi
    refine ⟨B, 0, p, rfl, hB, hl, ?_, hv.mono hFG⟩
    simpa only [Nat.zero_add] using hc⟩
theorem RowS.same {F : Nat → Prop} {w w' : World} {B : Nat} {es : List EntryD} {k : Nat} (h : RowS F w B es k) (s : Same Any w w') (hl : B < w.heap.size) : RowS F w' B es k := fun i hi => by
  obtain ⟨p, h0, hv⟩ := h i hi
  exact ⟨p, (s.cell (p := ⟨B, i, none⟩) trivial hl).trans h0, hv.same (s.mono (fun _ _ => trivial))⟩
/-- It returned the entries' subjects, over F or in new memory. -/
def RetSubs (F : Nat → Prop) (w w' : World) (es : List EntryD) (e : Ending) : Prop := ∃ v, e = .returned v ∧ Subs (FN F w) w' v es

/-- The end of a round: the box is made and its pointer stored. -/
theorem subs_fin (F : Nat → Prop) (w wr w2 w4 : World) (es : List EntryD) (k cap : Nat) (v0 : Value) (x0 x1 x2 x3 x4 : Value) (hrow : RowS (FO F w w.heap.size) wr w.heap.size es k) (hblk : Blk wr w.heap.size 47 es.length) (hk : k < es.length) (hb : Below w.heap.size w wr)
    (hb2 : Below wr.heap.size wr w2) (h2 : Rules (FO F w w.heap.size) w2 v0 (es.getD k noEntry).rules) (hb4 : Below w2.heap.size w2 w4) (h4 : RowN (FO F w w.heap.size) w4 w2.heap.size (es.getD k noEntry).paths (es.getD k noEntry).paths.length) (hl4 : w2.heap.size < w4.heap.size) :
    RowS (FO F w w.heap.size) ((w4.alloc (.cells #[x0, x1, x2, x3, x4, v0, .slice (some ⟨w2.heap.size, 0, none⟩) (es.getD k noEntry).paths.length cap] 50)).setCell ⟨w.heap.size, k, none⟩ (.pointer (some ⟨w4.heap.size, 0, none⟩))) w.heap.size es (k + 1) ∧ Blk ((w4.alloc (.cells #[x0, x1, x2, x3, x4, v0, .slice (some ⟨w2.heap.size, 0, none⟩) (es.getD k noEntry).paths.length cap] 50)).setCell ⟨w.heap.size, k, none⟩ (.pointer (some ⟨w4.heap.size, 0, none⟩))) w.heap.size 47 es.length ∧ Below w.heap.size w ((w4.alloc (.cells #[x0, x1, x2, x3, x4, v0, .slice (some ⟨w2.heap.size, 0, none⟩) (es.getD k noEntry).paths.length cap] 50)).setCell ⟨w.heap.size, k, none⟩ (.pointer (some ⟨w4.heap.size, 0, none⟩))) := by
  have hlr := hblk.lt
  have hs2 := hb2.size
  have hs4 := hb4.size
  have hr4 : Below wr.heap.size wr w4 := hb2.trans (hb4.mono hs2)
  have h45 : Below w4.heap.size w4 (w4.alloc (.cells #[x0, x1, x2, x3, x4, v0, .slice (some ⟨w2.heap.size, 0, none⟩) (es.getD k noEntry).paths.length cap] 50)) := (Below.refl _ _).alloc (Nat.le_refl _) _
  have hr5 := hr4.trans (h45.mono (by omega))
  have hN : NPaths (FO F w w.heap.size) w4 (.slice (some ⟨w2.heap.size, 0, none⟩) (es.getD k noEntry).paths.length cap) (es.getD k noEntry).paths := h4.paths (.inr ⟨by omega, by omega⟩) hl4
  have hV : SubV (FO F w w.heap.size) (w4.alloc (.cells #[x0, x1, x2, x3, x4, v0, .slice (some ⟨w2.heap.size, 0, none⟩) (es.getD k noEntry).paths.length cap] 50)) w4.heap.size (es.getD k noEntry) := by
    refine ⟨.inr ⟨by omega, by omega⟩, by simp, v0, .slice (some ⟨w2.heap.size, 0, none⟩) (es.getD k noEntry).paths.length cap, ⟨by go_simp, by go_simp⟩, ?_, hN.same (Same.of_below h45)⟩
    exact (h2.same (Same.of_below hb4)).same (Same.of_below h45)
  have hk5 : Blk (w4.alloc (.cells #[x0, x1, x2, x3, x4, v0, .slice (some ⟨w2.heap.size, 0, none⟩) (es.getD k noEntry).paths.length cap] 50)) w.heap.size 47 es.length := hblk.same (F := Any) trivial (Same.of_below hr5)
  have hp : w.heap.size ≤ (⟨w.heap.size, k, none⟩ : Addr).block := Nat.le_refl _
  exact ⟨(hrow.same (Same.of_below hr5) hlr).put hk5 hk (fun b hb => by rcases hb with h | h <;> omega) hV, hk5.set _ _, (hb.trans (hr5.mono hb.size)).setCell hp _⟩
end Go.Proofs.Qxb6606306aRR
