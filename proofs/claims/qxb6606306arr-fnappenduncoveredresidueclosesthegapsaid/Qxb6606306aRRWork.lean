/- What the costs bound: plain arithmetic. -/
import Derived.Test.Qxb6606306aRRG4
namespace Go.Proofs.Qxb6606306aRR

def sumTo (f : Nat → Nat) : Nat → Nat
  | 0 => 0
  | k + 1 => sumTo f k + f k
def tri (r : RuleD) : Nat := r.verbs.length * r.groups.length * r.resources.length
def workR (r : RuleD) : Nat := tri r * (1 + r.names.length)
def workP (p : PathD) : Nat := p.verbs.length * (1 + p.urls.length)
def workRs (rs : List RuleD) (k : Nat) : Nat := sumTo (fun j => workR (rs.getD j noRule)) k
def workPs (ps : List PathD) (k : Nat) : Nat := sumTo (fun j => workP (ps.getD j noPath)) k
def workE (e : EntryD) : Nat := workRs e.rules e.rules.length + workPs e.paths e.paths.length
def workEs (es : List EntryD) (k : Nat) : Nat := sumTo (fun j => workE (es.getD j noEntry)) k

theorem triC_eq (r : RuleD) (h : triC r ≤ 67108864) : triC r = (tri r : Int) := by
  unfold triC at h ⊢
  have h1 := mulC_bd r.verbs.length r.groups.length (nat0 _) (nat0 _)
  have h2 := mulC_bd (mulC r.verbs.length r.groups.length) r.resources.length h1.1 (nat0 _)
  rw [h2.2.2.1 h]
  rw [h2.2.2.1 h] at h
  by_cases h0 : r.resources.length = 0
  · simp [tri, h0]
  · have hle : mulC r.verbs.length r.groups.length ≤ mulC r.verbs.length r.groups.length * r.resources.length := by
      have := Int.mul_le_mul_of_nonneg_left (show (1 : Int) ≤ r.resources.length by omega) h1.1
      rwa [Int.mul_one] at this
    rw [h1.2.2.1 (by omega)]
    simp [tri]
theorem triC_of (r : RuleD) (h : tri r ≤ 67108864) : triC r = (tri r : Int) := by
  have h1 := mulC_bd r.verbs.length r.groups.length (nat0 _) (nat0 _)
  by_cases h0 : r.resources.length = 0
  · unfold triC
    rw [h0]
    have : mulC (mulC r.verbs.length r.groups.length) ((0 : Nat) : Int) = 0 := by
      have h2 := mulC_bd (mulC r.verbs.length r.groups.length) ((0 : Nat) : Int) h1.1 (nat0 _)
      rw [h2.2.2.2 (by simp)]
      simp
    rw [this]
    simp [tri, h0]
  · have hle : r.verbs.length * r.groups.length ≤ tri r := by
      have := Nat.mul_le_mul_left (r.verbs.length * r.groups.length) (show 1 ≤ r.resources.length by omega)
      rwa [Nat.mul_one] at this
    have e1 : mulC r.verbs.length r.groups.length = ((r.verbs.length * r.groups.length : Nat) : Int) := by
      rw [h1.2.2.2 (by
        have : ((r.verbs.length * r.groups.length : Nat) : Int) ≤ 67108864 := by omega
        simpa using this)]
      simp
    unfold triC
    rw [e1]
    have h2 := mulC_bd ((r.verbs.length * r.groups.length : Nat) : Int) r.resources.length (nat0 _) (nat0 _)
    rw [h2.2.2.2 (by
      have : ((r.verbs.length * r.groups.length * r.resources.length : Nat) : Int) ≤ 67108864 := by unfold tri at h; omega
      simpa using this)]
    simp [tri]
theorem workR_le (r : RuleD) (hs : SmallR r) (h : costR r ≤ 67108864) : (workR r : Int) ≤ costR r := by
  have hw := widR_bd r hs
  have ht := triC_nonneg r
  have hc := mulC_bd (triC r) (widR r) ht (by omega)
  unfold costR at h ⊢
  rw [hc.2.2.1 h]
  rw [hc.2.2.1 h] at h
  have hle : triC r ≤ triC r * widR r := by
    have := Int.mul_le_mul_of_nonneg_left (show (1 : Int) ≤ widR r by omega) ht
    rwa [Int.mul_one] at this
  rw [triC_eq r (by omega)]
  have := Int.mul_le_mul_of_nonneg_left hw.1 (nat0 (tri r))
  unfold workR
  simpa using this
theorem workP_le (p : PathD) (h : mulC p.verbs.length (1 + p.urls.length) ≤ 67108864) : (workP p : Int) = mulC p.verbs.length (1 + p.urls.length) := by
  have hc := mulC_bd p.verbs.length (1 + p.urls.length) (nat0 _) (by omega)
  rw [hc.2.2.1 h]
  simp [workP]
theorem costR_bd (r : RuleD) (hs : SmallR r) : 0 ≤ costR r ∧ costR r ≤ 67108865 := by
  have hw := widR_bd r hs
  have hc := mulC_bd (triC r) (widR r) (triC_nonneg r) (by omega)
  exact ⟨hc.1, hc.2.1⟩
end Go.Proofs.Qxb6606306aRR
