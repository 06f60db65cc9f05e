/- appendUncovered: plain. -/
import Derived.Test.Qxb6606306aRRA1
namespace Go.Proofs.Qxb6606306aRR
open Go.RowKit Go.Maps

/-- The names of r that are not covered at a triple. -/
def restN (cs : List CovD) (r : RuleD) (v g s : ByteArray) (ns : List ByteArray) : List ByteArray := ns.filter (fun n => !CR cs v g s r.any n true)
/-- Is the triple put out? -/
def outB (cs : List CovD) (r : RuleD) (v g s : ByteArray) : Bool := (decide (r.names.length = 0) && !CR cs v g s r.any ⟨#[]⟩ false) || decide (0 < (restN cs r v g s r.names).length)
def outR (cs : List CovD) (r : RuleD) (v g s : ByteArray) : RuleD := ⟨[v], [g], [s], restN cs r v g s r.names, r.bys, r.any⟩
def vOf (r : RuleD) (a : Nat) : ByteArray := r.verbs.getD a ByteArray.empty
def gOf (r : RuleD) (a : Nat) : ByteArray := r.groups.getD a ByteArray.empty
def sOf (r : RuleD) (a : Nat) : ByteArray := r.resources.getD a ByteArray.empty
def InR (r : RuleD) (a b d : Nat) : Prop := a < r.verbs.length ∧ b < r.groups.length ∧ d < r.resources.length
/-- Each rule put out stands for a triple that is to be put out. -/
def FromR (cs : List CovD) (r x : RuleD) : Prop := ∃ a b d, InR r a b d ∧ outB cs r (vOf r a) (gOf r b) (sOf r d) = true ∧ x = outR cs r (vOf r a) (gOf r b) (sOf r d)
def idxT (r : RuleD) (a b d : Nat) : Nat := (a * r.groups.length + b) * r.resources.length + d
theorem idxT_b (r : RuleD) (a b : Nat) : idxT r a b r.resources.length = idxT r a (b + 1) 0 := by
  unfold idxT
  rw [Nat.add_zero, show a * r.groups.length + (b + 1) = (a * r.groups.length + b) + 1 from rfl, Nat.succ_mul]
theorem idxT_a (r : RuleD) (a : Nat) : idxT r a r.groups.length 0 = idxT r (a + 1) 0 0 := by
  unfold idxT
  rw [Nat.succ_mul]
  simp
theorem idxT_all (r : RuleD) : idxT r r.verbs.length 0 0 = tri r := by
  unfold idxT tri
  simp
theorem idxT_le (r : RuleD) {a b d : Nat} (h : InR r a b d) : idxT r a b d + 1 ≤ tri r := by
  obtain ⟨ha, hb, hd⟩ := h
  unfold idxT tri
  have h1 : a * r.groups.length + b + 1 ≤ r.verbs.length * r.groups.length := by
    have := Nat.mul_le_mul_right r.groups.length (show a + 1 ≤ r.verbs.length from ha)
    rw [Nat.succ_mul] at this
    omega
  have h2 := Nat.mul_le_mul_right r.resources.length h1
  rw [Nat.succ_mul] at h2
  omega
/-- What stands when all triples ahead of (a, b, d) are done. -/
def AI (cs : List CovD) (r : RuleD) (rs : List RuleD) (a b d : Nat) : Prop :=
  (∀ x ∈ rs, FromR cs r x) ∧ rs.length ≤ idxT r a b d ∧ ∀ a' b' d', InR r a' b' d' → (a' < a ∨ a' = a ∧ (b' < b ∨ b' = b ∧ d' < d)) → outB cs r (vOf r a') (gOf r b') (sOf r d') = true → outR cs r (vOf r a') (gOf r b') (sOf r d') ∈ rs
theorem AI.start (cs : List CovD) (r : RuleD) : AI cs r [] 0 0 0 := ⟨fun _ hx => (by cases hx), Nat.zero_le _, fun a' b' d' _ h => by omega⟩
theorem AI.nextB {cs : List CovD} {r : RuleD} {rs : List RuleD} {a b : Nat} (h : AI cs r rs a b r.resources.length) : AI cs r rs a (b + 1) 0 :=
  ⟨h.1, by rw [← idxT_b]; exact h.2.1, fun a' b' d' hin hlt => h.2.2 a' b' d' hin (by obtain ⟨_, _, _⟩ := hin; omega)⟩
theorem AI.nextA {cs : List CovD} {r : RuleD} {rs : List RuleD} {a : Nat} (h : AI cs r rs a r.groups.length 0) : AI cs r rs (a + 1) 0 0 :=
  ⟨h.1, by rw [← idxT_a]; exact h.2.1, fun a' b' d' hin hlt => h.2.2 a' b' d' hin (by obtain ⟨_, _, _⟩ := hin; omega)⟩
theorem AI.skip {cs : List CovD} {r : RuleD} {rs : List RuleD} {a b d : Nat} (h : AI cs r rs a b d) (ho : outB cs r (vOf r a) (gOf r b) (sOf r d) = false) : AI cs r rs a b (d + 1) := by
  refine ⟨h.1, by have := h.2.1; unfold idxT at this ⊢; omega, fun a' b' d' hin hlt hout => ?_⟩
  by_cases e : a' = a ∧ b' = b ∧ d' = d
  · obtain ⟨rfl, rfl, rfl⟩ := e
    rw [ho] at hout
    cases hout
  · exact h.2.2 a' b' d' hin (by omega) hout
theorem AI.emit {cs : List CovD} {r : RuleD} {rs : List RuleD} {a b d : Nat} (h : AI cs r rs a b d) (hin : InR r a b d) (ho : outB cs r (vOf r a) (gOf r b) (sOf r d) = true) : AI cs r (rs ++ [outR cs r (vOf r a) (gOf r b) (sOf r d)]) a b (d + 1) := by
  refine ⟨fun x hx => ?_, by have := h.2.1; unfold idxT at this ⊢; simp; omega, fun a' b' d' hin' hlt hout => ?_⟩
  · rcases List.mem_append.1 hx with hx | hx
    · exact h.1 x hx
    · simp at hx
      exact ⟨a, b, d, hin, ho, hx⟩
  · by_cases e : a' = a ∧ b' = b ∧ d' = d
    · obtain ⟨rfl, rfl, rfl⟩ := e
      simp
    · exact List.mem_append_left _ (h.2.2 a' b' d' hin' (by omega) hout)
/-- What appendUncovered leaves. -/
def Resid (cs : List CovD) (r : RuleD) (rs : List RuleD) : Prop :=
  (∀ x ∈ rs, FromR cs r x) ∧ rs.length ≤ tri r ∧ ∀ a b d, InR r a b d → outB cs r (vOf r a) (gOf r b) (sOf r d) = true → outR cs r (vOf r a) (gOf r b) (sOf r d) ∈ rs
theorem AI.done {cs : List CovD} {r : RuleD} {rs : List RuleD} (h : AI cs r rs r.verbs.length 0 0) : Resid cs r rs :=
  ⟨h.1, by rw [← idxT_all]; exact h.2.1, fun a b d hin => h.2.2 a b d hin (.inl hin.1)⟩
/-- In memory. -/
def AInv (W wr : World) (ov : Value) (cs : List CovD) (r : RuleD) (a b d : Nat) : Prop := ∃ rs, RowOut wr W.heap.size ov rs ∧ AI cs r rs a b d ∧ Below W.heap.size W wr
theorem AInv.next {W wr w' : World} {ov : Value} {cs : List CovD} {r : RuleD} {a b d : Nat} (h : AInv W wr ov cs r a b d) (hb : Below wr.heap.size wr w') : AInv W w' ov cs r a b d := by
  obtain ⟨rs, h1, h2, h3⟩ := h
  exact ⟨rs, h1.below hb, h2, h3.trans (hb.mono h3.size)⟩
theorem AInv.below {W wr : World} {ov : Value} {cs : List CovD} {r : RuleD} {a b d : Nat} (h : AInv W wr ov cs r a b d) : Below W.heap.size W wr := by obtain ⟨rs, _, _, h3⟩ := h; exact h3
theorem AInv.slice {W wr : World} {ov : Value} {cs : List CovD} {r : RuleD} {a b d : Nat} (h : AInv W wr ov cs r a b d) : ∃ ga gl gc, ov = .slice ga gl gc := by
  obtain ⟨rs, h1, _⟩ := h
  obtain ⟨ga, gc, e⟩ := h1.slice
  exact ⟨ga, _, gc, e⟩
theorem AInv.nextB {W wr : World} {ov : Value} {cs : List CovD} {r : RuleD} {a b : Nat} (h : AInv W wr ov cs r a b r.resources.length) : AInv W wr ov cs r a (b + 1) 0 := by
  obtain ⟨rs, h1, h2, h3⟩ := h
  exact ⟨rs, h1, h2.nextB, h3⟩
theorem AInv.nextA {W wr : World} {ov : Value} {cs : List CovD} {r : RuleD} {a : Nat} (h : AInv W wr ov cs r a r.groups.length 0) : AInv W wr ov cs r (a + 1) 0 0 := by
  obtain ⟨rs, h1, h2, h3⟩ := h
  exact ⟨rs, h1, h2.nextA, h3⟩
theorem AInv.skip {W wr : World} {ov : Value} {cs : List CovD} {r : RuleD} {a b d : Nat} (h : AInv W wr ov cs r a b d) (ho : outB cs r (vOf r a) (gOf r b) (sOf r d) = false) : AInv W wr ov cs r a b (d + 1) := by
  obtain ⟨rs, h1, h2, h3⟩ := h
  exact ⟨rs, h1, h2.skip ho, h3⟩
/-- The four new blocks: three slices of one word, and the rule. -/
theorem emit_world (wr : World) (v g s : ByteArray) (c3 c4 : Value) (b : Bool) (W5 : World) (hW : (((wr.alloc (.cells #[.string v] 9)).alloc (.cells #[.string g] 9)).alloc (.cells #[.string s] 9)).alloc (.cells #[.slice (some ⟨wr.heap.size, 0, none⟩) 1 1, .slice (some ⟨wr.heap.size + 1, 0, none⟩) 1 1, .slice (some ⟨wr.heap.size + 1 + 1, 0, none⟩) 1 1, c3, c4, .bool b] 41) = W5) (hv : v.size ≤ Go.maxLen) (hg : g.size ≤ Go.maxLen) (hs : s.size ≤ Go.maxLen) :
    Below wr.heap.size wr W5 ∧ W5.heap[wr.heap.size + 3]? = some (.cells #[.slice (some ⟨wr.heap.size, 0, none⟩) 1 1, .slice (some ⟨wr.heap.size + 1, 0, none⟩) 1 1, .slice (some ⟨wr.heap.size + 1 + 1, 0, none⟩) 1 1, c3, c4, .bool b] 41 (0, 0)) ∧
      Strs (fun b => wr.heap.size ≤ b) W5 (.slice (some ⟨wr.heap.size, 0, none⟩) 1 1) [v] ∧ Strs (fun b => wr.heap.size ≤ b) W5 (.slice (some ⟨wr.heap.size + 1, 0, none⟩) 1 1) [g] ∧ Strs (fun b => wr.heap.size ≤ b) W5 (.slice (some ⟨wr.heap.size + 1 + 1, 0, none⟩) 1 1) [s] ∧ W5.heap.size = wr.heap.size + 4 := by
  have hz : W5.heap.size = wr.heap.size + 4 := by rw [← hW]; simp
  have one : ∀ (n : Nat) (t : ByteArray), wr.heap.size ≤ n → n < W5.heap.size → t.size ≤ Go.maxLen → W5.cell? ⟨n, 0, none⟩ = some (.string t) → Strs (fun b => wr.heap.size ≤ b) W5 (.slice (some ⟨n, 0, none⟩) 1 1) [t] := fun n t h1 h2 h3 h4 =>
    ⟨_, _, rfl, fun i hi => by
      have : i = 0 := by simp at hi; omega
      subst this
      exact ⟨n, 0, rfl, h1, h2, h4⟩, fun x hx => by simp at hx; rw [hx]; exact h3⟩
  refine ⟨?_, ?_, one _ v (Nat.le_refl _) (by omega) hv ?_, one _ g (by omega) (by omega) hg ?_, one _ s (by omega) (by omega) hs ?_, hz⟩
  · rw [← hW]
    exact ((((Below.refl _ _).alloc (Nat.le_refl _) _).alloc (by simp) _).alloc (by simp; omega) _).alloc (by simp; omega) _
  · have := heap_alloc_new (((wr.alloc (.cells #[.string v] 9)).alloc (.cells #[.string g] 9)).alloc (.cells #[.string s] 9)) (.cells #[.slice (some ⟨wr.heap.size, 0, none⟩) 1 1, .slice (some ⟨wr.heap.size + 1, 0, none⟩) 1 1, .slice (some ⟨wr.heap.size + 1 + 1, 0, none⟩) 1 1, c3, c4, .bool b] 41)
    rw [hW] at this
    rw [← this]
    simp
  all_goals (clear one hz; subst hW; go_simp)
end Go.Proofs.Qxb6606306aRR
