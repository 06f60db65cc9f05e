/- ruleBytes, pathBytes, ruleCost. -/
import Derived.Test.Qxb6606306aRRG2
import Derived.Deep.RegionWith
namespace Go.Proofs.Qxb6606306aRR
open Go.RowKit

theorem Strs.later {F : Nat → Prop} {w : World} {v : Value} {xs : List ByteArray} (h : Strs F w v xs) (o : Obj) (n : Nat) : Strs F ((w.alloc o).drewN n) v xs :=
  h.same (Same.of_below (below_drewN ((Below.refl _ _).alloc (Nat.le_refl _) _) _))

def ruleB (r : RuleD) : Int := capB (128 + strsB r.verbs + strsB r.groups + strsB r.resources + strsB r.names + strsB r.bys)
theorem ruleB_bd (r : RuleD) : 0 ≤ ruleB r ∧ ruleB r ≤ 1048577 ∧ (ruleB r ≤ 1048576 → SmallR r) := by
  have h := capB_bd (128 + strsB r.verbs + strsB r.groups + strsB r.resources + strsB r.names + strsB r.bys)
  have h0 := strsB_bd r.verbs
  have h1 := strsB_bd r.groups
  have h2 := strsB_bd r.resources
  have h3 := strsB_bd r.names
  have h4 := strsB_bd r.bys
  exact ⟨h.1, h.2.1, fun hh => by
    have := h.2.2 hh
    exact ⟨h0.2.2 (by omega), h1.2.2 (by omega), h2.2.2 (by omega), h3.2.2 (by omega), h4.2.2 (by omega)⟩⟩

set_option maxHeartbeats 1000000 in
theorem ruleBytes_any (F : Nat → Prop) (c0 c1 c2 c3 c4 : Value) (r : RuleD) (w : World) (h : RuleV F w c0 c1 c2 c3 c4 r) :
    Calls Try.prog 10 #[.agg #[c0, c1, c2, c3, c4, .bool r.any]] w fun e w' => e = .returned (.int .i64 (ruleB r)) ∧ Below w.heap.size w w' := by
  have s0 := fun o n => strsBytes_any F c0 r.verbs _ (h.verbs.later o n)
  have s1 := fun o n => strsBytes_any F c1 r.groups _ (h.groups.later o n)
  have s2 := fun o n => strsBytes_any F c2 r.resources _ (h.resources.later o n)
  have s3 := fun o n => strsBytes_any F c3 r.names _ (h.names.later o n)
  have s4 := fun o n => strsBytes_any F c4 r.bys _ (h.bys.later o n)
  obtain ⟨a0, p0, rfl, _, _⟩ := h.verbs
  obtain ⟨a1, p1, rfl, _, _⟩ := h.groups
  obtain ⟨a2, p2, rfl, _, _⟩ := h.resources
  obtain ⟨a3, p3, rfl, _, _⟩ := h.names
  obtain ⟨a4, p4, rfl, _, _⟩ := h.bys
  have S0 : Hid _ := s0
  have S1 : Hid _ := s1
  have S2 : Hid _ := s2
  have S3 : Hid _ := s3
  have S4 : Hid _ := s4
  obtain ⟨l0, u0, _⟩ := strsB_bd r.verbs
  obtain ⟨l1, u1, _⟩ := strsB_bd r.groups
  obtain ⟨l2, u2, _⟩ := strsB_bd r.resources
  obtain ⟨l3, u3, _⟩ := strsB_bd r.names
  obtain ⟨l4, u4, _⟩ := strsB_bd r.bys
  clear s0 s1 s2 s3 s4 h
  go_enter Try.func10, Try.ntmps10
  go_wp2_with fail
  go_quiet ((first | (go_at_call_of 24 a0; exact Calls.quiet_of_same (S0.out _ _)) | (go_at_call_of 24 a1; exact Calls.quiet_of_same (S1.out _ _)) | (go_at_call_of 24 a2; exact Calls.quiet_of_same (S2.out _ _)) | (go_at_call_of 24 a3; exact Calls.quiet_of_same (S3.out _ _)) | (go_at_call_of 24 a4; exact Calls.quiet_of_same (S4.out _ _)) | (go_at_call 21; exact Calls.quiet_of_same (capBytes_any _ _))))
  go_wp2_with fail
  go_ret
  exact ⟨rfl, below_drewN ((Below.refl _ _).alloc (Nat.le_refl _) _) _⟩

def SmallP (p : PathD) : Prop := Small p.verbs ∧ Small p.urls
def pathB (p : PathD) : Int := capB (48 + strsB p.verbs + strsB p.urls)
theorem pathB_bd (p : PathD) : 0 ≤ pathB p ∧ pathB p ≤ 1048577 ∧ (pathB p ≤ 1048576 → SmallP p) := by
  have h := capB_bd (48 + strsB p.verbs + strsB p.urls)
  have h0 := strsB_bd p.verbs
  have h1 := strsB_bd p.urls
  exact ⟨h.1, h.2.1, fun hh => by
    have := h.2.2 hh
    exact ⟨h0.2.2 (by omega), h1.2.2 (by omega)⟩⟩

set_option maxHeartbeats 1000000 in
theorem pathBytes_any (F : Nat → Prop) (c0 c1 : Value) (p : PathD) (w : World) (hv : Strs F w c0 p.verbs) (hu : Strs F w c1 p.urls) :
    Calls Try.prog 26 #[.agg #[c0, c1]] w fun e w' => e = .returned (.int .i64 (pathB p)) ∧ Below w.heap.size w w' := by
  have s0 := fun o n => strsBytes_any F c0 p.verbs _ (hv.later o n)
  have s1 := fun o n => strsBytes_any F c1 p.urls _ (hu.later o n)
  obtain ⟨a0, p0, rfl, _, _⟩ := hv
  obtain ⟨a1, p1, rfl, _, _⟩ := hu
  have S0 : Hid _ := s0
  have S1 : Hid _ := s1
  obtain ⟨l0, u0, _⟩ := strsB_bd p.verbs
  obtain ⟨l1, u1, _⟩ := strsB_bd p.urls
  clear s0 s1
  go_enter Try.func26, Try.ntmps26
  go_wp2_with fail
  go_quiet ((first | (go_at_call_of 24 a0; exact Calls.quiet_of_same (S0.out _ _)) | (go_at_call_of 24 a1; exact Calls.quiet_of_same (S1.out _ _)) | (go_at_call 21; exact Calls.quiet_of_same (capBytes_any _ _))))
  go_wp2_with fail
  go_ret
  exact ⟨rfl, below_drewN ((Below.refl _ _).alloc (Nat.le_refl _) _) _⟩

def widR (r : RuleD) : Int := 1 + r.names.length + maxGo r.verbs 0 + maxGo r.groups 0 + maxGo r.resources 0
def costR (r : RuleD) : Int := mulC (triC r) (widR r)
theorem maxL_bd (xs : List ByteArray) (h : Small xs) : 0 ≤ maxGo xs 0 ∧ maxGo xs 0 ≤ 1048576 := maxGo_bd xs 0 (by omega) (by omega) h.2
theorem widR_bd (r : RuleD) (h : SmallR r) : 1 + (r.names.length : Int) ≤ widR r ∧ widR r ≤ 4000000 := by
  have h0 := maxL_bd _ h.1
  have h1 := maxL_bd _ h.2.1
  have h2 := maxL_bd _ h.2.2.1
  have h3 := h.2.2.2.1.1
  unfold widR
  omega
theorem RuleV.later {F : Nat → Prop} {w : World} {c0 c1 c2 c3 c4 : Value} {r : RuleD} (h : RuleV F w c0 c1 c2 c3 c4 r) (o : Obj) (n : Nat) : RuleV F ((w.alloc o).drewN n) c0 c1 c2 c3 c4 r :=
  h.same (Same.of_below (below_drewN ((Below.refl _ _).alloc (Nat.le_refl _) _) _))

set_option maxHeartbeats 1000000 in
theorem ruleCost_any (F : Nat → Prop) (c0 c1 c2 c3 c4 : Value) (r : RuleD) (w : World) (h : RuleV F w c0 c1 c2 c3 c4 r) (hs : SmallR r) :
    Calls Try.prog 28 #[.agg #[c0, c1, c2, c3, c4, .bool r.any]] w fun e w' => e = .returned (.int .i64 (costR r)) ∧ Below w.heap.size w w' := by
  have s0 := fun o n => maxLen_any F c0 r.verbs _ (h.verbs.later o n) hs.1
  have s1 := fun o n => maxLen_any F c1 r.groups _ (h.groups.later o n) hs.2.1
  have s2 := fun o n => maxLen_any F c2 r.resources _ (h.resources.later o n) hs.2.2.1
  have s3 := fun o n => triples_any F c0 c1 c2 c3 c4 r _ (h.later o n)
  obtain ⟨a0, p0, rfl, _, _⟩ := h.verbs
  obtain ⟨a1, p1, rfl, _, _⟩ := h.groups
  obtain ⟨a2, p2, rfl, _, _⟩ := h.resources
  obtain ⟨a3, p3, rfl, _, _⟩ := h.names
  obtain ⟨a4, p4, rfl, _, _⟩ := h.bys
  have S0 : Hid _ := s0
  have S1 : Hid _ := s1
  have S2 : Hid _ := s2
  have S3 : Hid _ := s3
  obtain ⟨l0, u0⟩ := maxL_bd _ hs.1
  obtain ⟨l1, u1⟩ := maxL_bd _ hs.2.1
  obtain ⟨l2, u2⟩ := maxL_bd _ hs.2.2.1
  have hn := hs.2.2.2.1.1
  have HT : Hid (0 ≤ triC r) := triC_nonneg r
  have HW : Hid (0 ≤ widR r) := by have := (widR_bd r hs).1; show 0 ≤ widR r; omega
  clear s0 s1 s2 s3 h hs
  go_enter Try.func28, Try.ntmps28
  go_wp2_with fail
  go_quiet ((first | (go_at_call_of 27 a0; exact Calls.quiet_of_same (S0.out _ _)) | (go_at_call_of 27 a1; exact Calls.quiet_of_same (S1.out _ _)) | (go_at_call_of 27 a2; exact Calls.quiet_of_same (S2.out _ _))))
  go_wp2_with fail
  refine (S3.out _ _).mono ?_
  rintro e w1 ⟨rfl, hb1⟩
  go_wp2_with fail
  refine (mulCap_any _ (widR r) _ HT.out HW.out).mono ?_
  rintro e w9 ⟨rfl, rfl⟩
  go_wp2_with fail
  go_ret
  exact ⟨rfl, (below_drewN ((Below.refl _ _).alloc (Nat.le_refl _) _) _).trans (hb1.mono (by simp))⟩
end Go.Proofs.Qxb6606306aRR
