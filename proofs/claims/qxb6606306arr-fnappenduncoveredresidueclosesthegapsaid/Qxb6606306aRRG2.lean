/- mulCap, triples, ruleBytes, pathBytes, ruleCost. -/
import Derived.Test.Qxb6606306aRRG1
import Derived.Deep.QuietTactic
import Derived.BigQuiet
namespace Go.Proofs.Qxb6606306aRR
open Go.RowKit

theorem le_div (a b : Int) (hb : 0 < b) : a ≤ 67108864 / b ↔ a * b ≤ 67108864 := Int.le_ediv_iff_mul_le hb
def mulC (a b : Int) : Int := if a ≤ 0 then 0 else if b ≤ 0 then 0 else if 67108864 < a then 67108865 else if 67108864 < b then 67108865 else if 67108864 / b < a then 67108865 else a * b
theorem mulC_bd (a b : Int) (ha : 0 ≤ a) (hb : 0 ≤ b) : 0 ≤ mulC a b ∧ mulC a b ≤ 67108865 ∧ (mulC a b ≤ 67108864 → mulC a b = a * b) ∧ (a * b ≤ 67108864 → mulC a b = a * b) := by
  unfold mulC
  by_cases h1 : a ≤ 0
  · have h0 : a = 0 := by omega
    subst h0
    simp
  · rw [if_neg h1]
    by_cases h2 : b ≤ 0
    · have h0 : b = 0 := by omega
      subst h0
      simp
    · rw [if_neg h2]
      have hab : a ≤ a * b := by
        have := Int.mul_le_mul_of_nonneg_left (show (1 : Int) ≤ b by omega) ha
        rwa [Int.mul_one] at this
      have hba : b ≤ a * b := by
        have := Int.mul_le_mul_of_nonneg_right (show (1 : Int) ≤ a by omega) hb
        rwa [Int.one_mul] at this
      by_cases h3 : 67108864 < a
      · rw [if_pos h3]; exact ⟨by omega, by omega, fun h => by omega, fun h => by omega⟩
      · rw [if_neg h3]
        by_cases h4 : 67108864 < b
        · rw [if_pos h4]; exact ⟨by omega, by omega, fun h => by omega, fun h => by omega⟩
        · rw [if_neg h4]
          by_cases h5 : 67108864 / b < a
          · have HN : ¬ a * b ≤ 67108864 := fun h => by have := (le_div a b (by omega)).2 h; omega
            rw [if_pos h5]; exact ⟨by omega, by omega, fun h => by omega, fun h => absurd h HN⟩
          · have HN : a * b ≤ 67108864 := (le_div a b (by omega)).1 (by omega)
            rw [if_neg h5]; exact ⟨by omega, by omega, fun _ => rfl, fun _ => rfl⟩

set_option maxHeartbeats 400000 in
theorem mulCap_any (a b : Int) (w : World) (ha : 0 ≤ a) (hb : 0 ≤ b) :
    Calls Try.prog 29 #[.int .i64 a, .int .i64 b] w fun e w' => e = .returned (.int .i64 (mulC a b)) ∧ w' = w := by
  by_cases h1 : a ≤ 0
  · have HE : Hid (mulC a b = 0) := if_pos h1
    go_enter Try.func29, Try.ntmps29
    go_wp2
    all_goals
      go_ret
      exact ⟨by rw [HE.out]; rfl, rfl⟩
  · by_cases h2 : b ≤ 0
    · have HE : Hid (mulC a b = 0) := by show _ = _; unfold mulC; rw [if_neg h1, if_pos h2]
      go_enter Try.func29, Try.ntmps29
      go_wp2
      all_goals
        go_ret
        exact ⟨by rw [HE.out]; rfl, rfl⟩
    · by_cases h3 : 67108864 < a
      · have HE : Hid (mulC a b = 67108865) := by show _ = _; unfold mulC; rw [if_neg h1, if_neg h2, if_pos h3]
        go_enter Try.func29, Try.ntmps29
        go_wp2
        all_goals
          go_ret
          exact ⟨by rw [HE.out]; rfl, rfl⟩
      · by_cases h4 : 67108864 < b
        · have HE : Hid (mulC a b = 67108865) := by show _ = _; unfold mulC; rw [if_neg h1, if_neg h2, if_neg h3, if_pos h4]
          go_enter Try.func29, Try.ntmps29
          go_wp2
          all_goals
            go_ret
            exact ⟨by rw [HE.out]; rfl, rfl⟩
        · have hb0 : 0 < b := by omega
          by_cases h5 : 67108864 / b < a
          · have HE : Hid (mulC a b = 67108865) := by show _ = _; unfold mulC; rw [if_neg h1, if_neg h2, if_neg h3, if_neg h4, if_pos h5]
            go_enter Try.func29, Try.ntmps29
            go_wp2
            all_goals
              go_ret
              exact ⟨by rw [HE.out]; rfl, rfl⟩
          · have HE : Hid (mulC a b = a * b) := by show _ = _; unfold mulC; rw [if_neg h1, if_neg h2, if_neg h3, if_neg h4, if_neg h5]
            have HN : a * b ≤ 67108864 := (le_div a b (by omega)).1 (by omega)
            have hp : 0 ≤ a * b := Int.mul_nonneg ha hb
            go_enter Try.func29, Try.ntmps29
            go_wp2
            all_goals
              go_ret
              exact ⟨by rw [HE.out]; rfl, rfl⟩

/-- The number of triples as the program counts them. -/
def triC (r : RuleD) : Int := mulC (mulC r.verbs.length r.groups.length) r.resources.length
def SmallR (r : RuleD) : Prop := Small r.verbs ∧ Small r.groups ∧ Small r.resources ∧ Small r.names ∧ Small r.bys
theorem nat0 (n : Nat) : 0 ≤ (n : Int) := by omega
theorem triC_nonneg (r : RuleD) : 0 ≤ triC r := (mulC_bd _ _ (mulC_bd _ _ (nat0 _) (nat0 _)).1 (nat0 _)).1

set_option maxHeartbeats 400000 in
theorem triples_any (F : Nat → Prop) (c0 c1 c2 c3 c4 : Value) (r : RuleD) (w : World) (h : RuleV F w c0 c1 c2 c3 c4 r) :
    Calls Try.prog 18 #[.agg #[c0, c1, c2, c3, c4, .bool r.any]] w fun e w' => e = .returned (.int .i64 (triC r)) ∧ Below w.heap.size w w' := by
  obtain ⟨a0, p0, rfl, _, _⟩ := h.verbs
  obtain ⟨a1, p1, rfl, _, _⟩ := h.groups
  obtain ⟨a2, p2, rfl, _, _⟩ := h.resources
  obtain ⟨a3, p3, rfl, _, _⟩ := h.names
  obtain ⟨a4, p4, rfl, _, _⟩ := h.bys
  go_enter Try.func18, Try.ntmps18
  go_wp2_with fail
  go_quiet ((go_at_call 29; exact Calls.quiet_of_same (mulCap_any _ _ _ (by first | exact nat0 _ | exact (mulC_bd _ _ (nat0 _) (nat0 _)).1) (nat0 _))))
  go_wp2_with fail
  go_ret
  exact ⟨rfl, below_drewN ((Below.refl _ _).alloc (Nat.le_refl _) _) _⟩
end Go.Proofs.Qxb6606306aRR
