/- appendUncovered: what it keeps. -/
import Derived.Test.Qxb6606306aRRD4
namespace Go.Proofs.Qxb6606306aRR
open Go.RowKit Go.Maps

/-- Is it covered? -/
def CR (cs : List CovD) (v g s : ByteArray) (b : Bool) (name : ByteArray) (named : Bool) : Bool := crB (fun t q => heldB cs v g t q name named) s b
set_option maxHeartbeats 400000 in
theorem clo41 (cs : List CovD) (sv : Value) (bs bv bg br : Nat) (v g s : ByteArray) (b : Bool) (name : ByteArray) (named : Bool) (w : World) (h : Scopes w sv cs) (hs0 : w.cell? ⟨bs, 0, none⟩ = some sv) (hv0 : w.cell? ⟨bv, 0, none⟩ = some (.string v)) (hg0 : w.cell? ⟨bg, 0, none⟩ = some (.string g)) (hr0 : w.cell? ⟨br, 0, none⟩ = some (.string s)) (hr1 : w.cell? ⟨br, 1, none⟩ = some (.bool b))
    (hv : v.size ≤ Go.maxLen) (hg : g.size ≤ Go.maxLen) (hs : s.size ≤ 1048576) (hn : name.size ≤ Go.maxLen) (hl : cs.length ≤ 1048576) :
    Calls Try.prog 41 #[.string name, .bool named, .pointer (some ⟨bs, 0, none⟩), .pointer (some ⟨bv, 0, none⟩), .pointer (some ⟨bg, 0, none⟩), .pointer (some ⟨br, 0, none⟩)] w fun e w' => e = .returned (.bool (CR cs v g s b name named)) ∧ Below w.heap.size w w' := by
  have HC := hidden (cover_any cs sv v g s b name named w h hv hg hs hn hl)
  obtain ⟨a, cap, rfl, _⟩ := h
  go_enter Try.func41, Try.ntmps41
  go_wp2_with fail
  refine HC.out.mono ?_
  rintro e w1 ⟨rfl, hb⟩
  clear HC
  go_wp2_with fail
  go_ret
  exact ⟨rfl, hb⟩

/-- The rules that have been put out: a row of six cells each. -/
def RowOut (w : World) (base : Nat) (v : Value) (rs : List RuleD) : Prop :=
  ∃ xs, w.ownsRow base 41 6 v rs.length xs ∧ ∀ i, i < rs.length → ∃ c0 c1 c2 c3 c4, (xs[i * 6]? = some c0 ∧ xs[i * 6 + 1]? = some c1 ∧ xs[i * 6 + 2]? = some c2 ∧ xs[i * 6 + 3]? = some c3 ∧ xs[i * 6 + 4]? = some c4 ∧ xs[i * 6 + 5]? = some (.bool (rs.getD i noRule).any)) ∧ RuleV (fun b => v.ownBlock ≠ some b) w c0 c1 c2 c3 c4 (rs.getD i noRule)
theorem RowOut.nil (w : World) (base : Nat) : RowOut w base (.slice none 0 0) [] := ⟨[], World.ownsRow_nil w base 41 6, fun _ hi => absurd hi (Nat.not_lt_zero _)⟩
theorem RowOut.slice {w : World} {base : Nat} {v : Value} {rs : List RuleD} (h : RowOut w base v rs) : ∃ a cap, v = .slice a rs.length cap := by
  obtain ⟨xs, ⟨_, h2⟩, _⟩ := h
  rcases h2 with ⟨rfl, h0⟩ | ⟨g, cap, cur, rfl, _⟩
  · exact ⟨none, 0, by rw [h0]⟩
  · exact ⟨_, _, rfl⟩
theorem RowOut.below {w w' : World} {base : Nat} {v : Value} {rs : List RuleD} (h : RowOut w base v rs) (hb : Below w.heap.size w w') : RowOut w' base v rs := by
  obtain ⟨xs, h1, h2⟩ := h
  refine ⟨xs, ?_, fun i hi => ?_⟩
  · obtain ⟨k1, k2⟩ := h1
    refine ⟨k1, k2.imp id ?_⟩
    rintro ⟨g, cap, cur, e, k3, k4, k5⟩
    exact ⟨g, cap, cur, e, k3, (hb.block g (Array.getElem?_eq_some_iff.1 k4).1).trans k4, k5⟩
  · obtain ⟨c0, c1, c2, c3, c4, hc, hv⟩ := h2 i hi
    exact ⟨c0, c1, c2, c3, c4, hc, hv.same (Same.of_below hb)⟩
/-- The row's block. -/
theorem RowOut.block {w : World} {base : Nat} {v : Value} {rs : List RuleD} (h : RowOut w base v rs) {g : Nat} (hg : v.ownBlock = some g) : base ≤ g ∧ g < w.heap.size ∧ ∃ cur, w.heap[g]? = some (.cells cur 41 (0, 0)) := by
  obtain ⟨xs, h1, _⟩ := h
  obtain ⟨k1, k2⟩ := h1.lt g hg
  refine ⟨k1, k2, ?_⟩
  rcases h1.2 with ⟨rfl, _⟩ | ⟨g', cap, cur, rfl, _, h5, _⟩
  · cases hg
  · cases hg; exact ⟨cur, h5⟩
theorem getD_append_last (rs : List RuleD) (x : RuleD) : (rs ++ [x]).getD rs.length noRule = x := by simp
theorem getD_append_lt (rs : List RuleD) (x : RuleD) {i : Nat} (h : i < rs.length) : (rs ++ [x]).getD i noRule = rs.getD i noRule := by
  simp [List.getElem?_append_left h]
/-- One rule more. -/
theorem RowOut.push {w w' : World} {base : Nat} {v v' : Value} {rs : List RuleD} {x : RuleD} {c0 c1 c2 c3 c4 : Value} {xs : List Value} (h1 : w.ownsRow base 41 6 v rs.length xs) (h2 : ∀ i, i < rs.length → ∃ c0 c1 c2 c3 c4, (xs[i * 6]? = some c0 ∧ xs[i * 6 + 1]? = some c1 ∧ xs[i * 6 + 2]? = some c2 ∧ xs[i * 6 + 3]? = some c3 ∧ xs[i * 6 + 4]? = some c4 ∧ xs[i * 6 + 5]? = some (.bool (rs.getD i noRule).any)) ∧ RuleV (fun b => v.ownBlock ≠ some b) w c0 c1 c2 c3 c4 (rs.getD i noRule))
    (hx : RuleV (fun b => v.ownBlock ≠ some b) w c0 c1 c2 c3 c4 x) (hr : w'.ownsRow base 41 6 v' (rs.length + 1) (xs ++ [c0, c1, c2, c3, c4, .bool x.any])) (hg : w.grownBy w' v.ownBlock) (hl : v'.ownBlock = v.ownBlock ∨ v'.ownBlock = some w.heap.size) : RowOut w' base v' (rs ++ [x]) := by
  have hlen : xs.length = rs.length * 6 := h1.1
  have hmove : ∀ {d0 d1 d2 d3 d4 : Value} {y : RuleD}, RuleV (fun b => v.ownBlock ≠ some b) w d0 d1 d2 d3 d4 y → RuleV (fun b => v'.ownBlock ≠ some b) w' d0 d1 d2 d3 d4 y := fun {d0 d1 d2 d3 d4 y} hy => by
    have hs : Same (fun b => v.ownBlock ≠ some b ∧ b < w.heap.size) w w' := Same.of_grown hg (fun b hb e => hb.1 e.symm)
    refine RuleV.mono (RuleV.same (F := fun b => v.ownBlock ≠ some b ∧ b < w.heap.size) (hy.mono (fun b hb hF => ⟨hF, hb⟩)) hs) (fun b _ hF => ?_)
    rcases hl with e | e
    · rw [e]; exact hF.1
    · rw [e]; intro e'; injection e' with e'; have := hF.2; omega
  refine ⟨xs ++ [c0, c1, c2, c3, c4, .bool x.any], by simpa using hr, fun i hi => ?_⟩
  rcases (by simp at hi; omega : i < rs.length ∨ i = rs.length) with hlt | rfl
  · obtain ⟨d0, d1, d2, d3, d4, ⟨k0, k1, k2, k3, k4, k5⟩, hv⟩ := h2 i hlt
    rw [getD_append_lt rs x hlt]
    refine ⟨d0, d1, d2, d3, d4, ⟨?_, ?_, ?_, ?_, ?_, ?_⟩, hmove hv⟩
    all_goals (rw [List.getElem?_append_left (by omega)]; assumption)
  · rw [getD_append_last]
    refine ⟨c0, c1, c2, c3, c4, ⟨?_, ?_, ?_, ?_, ?_, ?_⟩, hmove hx⟩
    all_goals (rw [List.getElem?_append_right (by omega)])
    all_goals simp [hlen]
theorem RowOut.rules {w : World} {base : Nat} {v : Value} {rs : List RuleD} (h : RowOut w base v rs) : Rules Any w v rs := by
  obtain ⟨xs, h1, h2⟩ := h
  rcases h1.2 with ⟨rfl, h0⟩ | ⟨g, cap, cur, rfl, _, hg, _⟩
  · refine ⟨none, 0, by rw [h0], fun i hi => by omega⟩
  · refine ⟨_, cap, rfl, fun i hi => ?_⟩
    obtain ⟨c0, c1, c2, c3, c4, ⟨k0, k1, k2, k3, k4, k5⟩, hv⟩ := h2 i hi
    have e : ∀ j u, xs[j]? = some u → w.cell? ⟨g, j, none⟩ = some u := fun j u hj => by
      rw [h1.cellAt j (by have := (List.getElem?_eq_some_iff.1 hj).1; have := h1.1; omega)]
      exact hj
    refine ⟨g, 0, c0, c1, c2, c3, c4, rfl, trivial, (Array.getElem?_eq_some_iff.1 hg).1, ?_, hv.mono (fun _ _ _ => trivial)⟩
    simp only [Nat.zero_add]
    exact ⟨e _ _ k0, e _ _ k1, e _ _ k2, e _ _ k3, e _ _ k4, e _ _ k5⟩
end Go.Proofs.Qxb6606306aRR
