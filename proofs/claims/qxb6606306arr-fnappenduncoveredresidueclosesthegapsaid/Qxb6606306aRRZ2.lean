/- zzBytes: the loops over the rules and over the paths of one entry. -/
import Derived.Test.Qxb6606306aRRZ1
namespace Go.Proofs.Qxb6606306aRR
open Go.RowKit
/-- The cell holds a slice whose elements are strings. -/
def SAt (w : World) (p : Addr) : Prop := ∃ va n vcap, w.cell? p = some (.slice va n vcap) ∧ ∀ k, k < n → ∃ vb vo s, va = some ⟨vb, vo, none⟩ ∧ w.cell? ⟨vb, vo + k, none⟩ = some (.string s)
def RAt (w : World) (ra : Option Addr) (j : Nat) : Prop := ∃ rb ro, ra = some ⟨rb, ro, none⟩ ∧ SAt w ⟨rb, ro + j * 6, none⟩ ∧ SAt w ⟨rb, ro + j * 6 + 1, none⟩ ∧ SAt w ⟨rb, ro + j * 6 + 2, none⟩ ∧ SAt w ⟨rb, ro + j * 6 + 3, none⟩ ∧ SAt w ⟨rb, ro + j * 6 + 4, none⟩
def PAt (w : World) (ra : Option Addr) (j : Nat) : Prop := ∃ rb ro, ra = some ⟨rb, ro, none⟩ ∧ SAt w ⟨rb, ro + j * 2, none⟩ ∧ SAt w ⟨rb, ro + j * 2 + 1, none⟩

set_option maxHeartbeats 40000000 in
set_option maxRecDepth 100000 in
theorem pl13 (T : Array Value) (w : World) (Q : Exit → Act → World → Prop) (i nr ns : Nat) (sb so scap rcap : Nat) (ra : Option Addr) (hF : Fr T (.slice (some ⟨sb, so, none⟩) ns scap) i) (hC : T.getD 18 undef = .int .i64 0)
    (hi : i < ns) (hn : nr ≤ 1048576) (c1 : w.cell? ⟨sb, so + i * 2 + 1, none⟩ = some (.slice ra nr rcap)) (hs : ∀ j, j < nr → PAt w ra j)
    (hout : ∀ T', Fr T' (.slice (some ⟨sb, so, none⟩) ns scap) i → Q (.exit 24) ⟨T', []⟩ w) (hret : ∀ T', T'.size = 755 → T'.getD 4 undef = .bool false → Q .ret ⟨T', []⟩ w) :
    Code.wp Try.prog (Code.loop (((Try.f9.body.map loops).getD []).getD 12 .skip)) Q ⟨T, []⟩ w := by
  refine wp_loop (fun a w' => w' = w ∧ ∃ T j, a = ⟨T, []⟩ ∧ Fr T (.slice (some ⟨sb, so, none⟩) ns scap) i ∧ j ≤ nr ∧ T.getD 18 undef = .int .i64 ((j : Nat) : Int)) (fun a _ => nr - (intOf (a.tmps.getD 18 undef)).toNat) ⟨rfl, T, 0, rfl, hF, Nat.zero_le _, hC⟩ ?_
  rintro a w' ⟨rfl, T, j, rfl, ⟨hT, h1, ⟨z, h5⟩, h11⟩, hj, hJ⟩
  obtain ⟨f, e, hf⟩ := lit755 T hT
  rw [hf] at h1 h5 h11 hJ
  rw [h1, h5, h11, hJ] at e
  subst e
  clear hf hT h1 h5 h11 hJ
  conv => arg 2; whnf
  have HO := hidden' hout
  have HR := hidden' hret
  have HS := hidden' hs
  clear hs hout hret
  by_cases hlt : j < nr
  · obtain ⟨rb, ro, rfl, s0, s1⟩ := HS.out j hlt
    obtain ⟨va0, n0, vc0, d0, q0⟩ := s0
    have HS0 := hidden' q0
    obtain ⟨va1, n1, vc1, d1, q1⟩ := s1
    have HS1 := hidden' q1
    clear HS q0 q1
    go_wp2_with fail
    all_goals try exact HR.out _ rfl rfl
    refine sl14 _ _ _ i j n0 nr ns sb so scap rb ro rcap vc0 va0 ⟨rfl, rfl, ⟨_, rfl⟩, rfl⟩ rfl rfl hi hlt (by omega) c1 d0 HS0.out ?_ (fun T' a b => HR.out T' a b)
    rintro T' ⟨hT, h1, ⟨z, h5⟩, h11⟩ hJ
    obtain ⟨f, e, hf⟩ := lit755 T' hT
    rw [hf] at h1 h5 h11 hJ
    rw [h1, h5, h11, hJ] at e
    subst e
    clear hf hT h1 h5 h11 hJ
    go_wp2_with fail
    all_goals try exact HR.out _ rfl rfl
    refine sl15 _ _ _ i j n1 nr ns sb so scap rb ro rcap vc1 va1 ⟨rfl, rfl, ⟨_, rfl⟩, rfl⟩ rfl rfl hi hlt (by omega) c1 d1 HS1.out ?_ (fun T' a b => HR.out T' a b)
    rintro T' ⟨hT, h1, ⟨z, h5⟩, h11⟩ hJ
    obtain ⟨f, e, hf⟩ := lit755 T' hT
    rw [hf] at h1 h5 h11 hJ
    rw [h1, h5, h11, hJ] at e
    subst e
    clear hf hT h1 h5 h11 hJ
    go_wp2_with fail
    refine ⟨⟨trivial, _, j + 1, rfl, ⟨rfl, rfl, ⟨_, rfl⟩, rfl⟩, by omega, by go_num⟩, ?_⟩
    simp [intOf]
    omega
  · obtain rfl : j = nr := by omega
    clear HS
    go_wp2_with fail
    exact HO.out _ ⟨rfl, rfl, ⟨_, rfl⟩, rfl⟩

set_option maxHeartbeats 40000000 in
set_option maxRecDepth 100000 in
theorem rl7 (T : Array Value) (w : World) (Q : Exit → Act → World → Prop) (i nr ns : Nat) (sb so scap rcap : Nat) (ra : Option Addr) (hF : Fr T (.slice (some ⟨sb, so, none⟩) ns scap) i) (hC : T.getD 12 undef = .int .i64 0)
    (hi : i < ns) (hn : nr ≤ 1048576) (c1 : w.cell? ⟨sb, so + i * 2, none⟩ = some (.slice ra nr rcap)) (hs : ∀ j, j < nr → RAt w ra j)
    (hout : ∀ T', Fr T' (.slice (some ⟨sb, so, none⟩) ns scap) i → Q (.exit 12) ⟨T', []⟩ w) (hret : ∀ T', T'.size = 755 → T'.getD 4 undef = .bool false → Q .ret ⟨T', []⟩ w) :
    Code.wp Try.prog (Code.loop (((Try.f9.body.map loops).getD []).getD 6 .skip)) Q ⟨T, []⟩ w := by
  refine wp_loop (fun a w' => w' = w ∧ ∃ T j, a = ⟨T, []⟩ ∧ Fr T (.slice (some ⟨sb, so, none⟩) ns scap) i ∧ j ≤ nr ∧ T.getD 12 undef = .int .i64 ((j : Nat) : Int)) (fun a _ => nr - (intOf (a.tmps.getD 12 undef)).toNat) ⟨rfl, T, 0, rfl, hF, Nat.zero_le _, hC⟩ ?_
  rintro a w' ⟨rfl, T, j, rfl, ⟨hT, h1, ⟨z, h5⟩, h11⟩, hj, hJ⟩
  obtain ⟨f, e, hf⟩ := lit755 T hT
  rw [hf] at h1 h5 h11 hJ
  rw [h1, h5, h11, hJ] at e
  subst e
  clear hf hT h1 h5 h11 hJ
  conv => arg 2; whnf
  have HO := hidden' hout
  have HR := hidden' hret
  have HS := hidden' hs
  clear hs hout hret
  by_cases hlt : j < nr
  · obtain ⟨rb, ro, rfl, s0, s1, s2, s3, s4⟩ := HS.out j hlt
    obtain ⟨va0, n0, vc0, d0, q0⟩ := s0
    have HS0 := hidden' q0
    obtain ⟨va1, n1, vc1, d1, q1⟩ := s1
    have HS1 := hidden' q1
    obtain ⟨va2, n2, vc2, d2, q2⟩ := s2
    have HS2 := hidden' q2
    obtain ⟨va3, n3, vc3, d3, q3⟩ := s3
    have HS3 := hidden' q3
    obtain ⟨va4, n4, vc4, d4, q4⟩ := s4
    have HS4 := hidden' q4
    clear HS q0 q1 q2 q3 q4
    go_wp2_with fail
    all_goals try exact HR.out _ rfl rfl
    refine sl8 _ _ _ i j n0 nr ns sb so scap rb ro rcap vc0 va0 ⟨rfl, rfl, ⟨_, rfl⟩, rfl⟩ rfl rfl hi hlt (by omega) c1 d0 HS0.out ?_ (fun T' a b => HR.out T' a b)
    rintro T' ⟨hT, h1, ⟨z, h5⟩, h11⟩ hJ
    obtain ⟨f, e, hf⟩ := lit755 T' hT
    rw [hf] at h1 h5 h11 hJ
    rw [h1, h5, h11, hJ] at e
    subst e
    clear hf hT h1 h5 h11 hJ
    go_wp2_with fail
    all_goals try exact HR.out _ rfl rfl
    refine sl9 _ _ _ i j n1 nr ns sb so scap rb ro rcap vc1 va1 ⟨rfl, rfl, ⟨_, rfl⟩, rfl⟩ rfl rfl hi hlt (by omega) c1 d1 HS1.out ?_ (fun T' a b => HR.out T' a b)
    rintro T' ⟨hT, h1, ⟨z, h5⟩, h11⟩ hJ
    obtain ⟨f, e, hf⟩ := lit755 T' hT
    rw [hf] at h1 h5 h11 hJ
    rw [h1, h5, h11, hJ] at e
    subst e
    clear hf hT h1 h5 h11 hJ
    go_wp2_with fail
    all_goals try exact HR.out _ rfl rfl
    refine sl10 _ _ _ i j n2 nr ns sb so scap rb ro rcap vc2 va2 ⟨rfl, rfl, ⟨_, rfl⟩, rfl⟩ rfl rfl hi hlt (by omega) c1 d2 HS2.out ?_ (fun T' a b => HR.out T' a b)
    rintro T' ⟨hT, h1, ⟨z, h5⟩, h11⟩ hJ
    obtain ⟨f, e, hf⟩ := lit755 T' hT
    rw [hf] at h1 h5 h11 hJ
    rw [h1, h5, h11, hJ] at e
    subst e
    clear hf hT h1 h5 h11 hJ
    go_wp2_with fail
    all_goals try exact HR.out _ rfl rfl
    refine sl11 _ _ _ i j n3 nr ns sb so scap rb ro rcap vc3 va3 ⟨rfl, rfl, ⟨_, rfl⟩, rfl⟩ rfl rfl hi hlt (by omega) c1 d3 HS3.out ?_ (fun T' a b => HR.out T' a b)
    rintro T' ⟨hT, h1, ⟨z, h5⟩, h11⟩ hJ
    obtain ⟨f, e, hf⟩ := lit755 T' hT
    rw [hf] at h1 h5 h11 hJ
    rw [h1, h5, h11, hJ] at e
    subst e
    clear hf hT h1 h5 h11 hJ
    go_wp2_with fail
    all_goals try exact HR.out _ rfl rfl
    refine sl12 _ _ _ i j n4 nr ns sb so scap rb ro rcap vc4 va4 ⟨rfl, rfl, ⟨_, rfl⟩, rfl⟩ rfl rfl hi hlt (by omega) c1 d4 HS4.out ?_ (fun T' a b => HR.out T' a b)
    rintro T' ⟨hT, h1, ⟨z, h5⟩, h11⟩ hJ
    obtain ⟨f, e, hf⟩ := lit755 T' hT
    rw [hf] at h1 h5 h11 hJ
    rw [h1, h5, h11, hJ] at e
    subst e
    clear hf hT h1 h5 h11 hJ
    go_wp2_with fail
    refine ⟨⟨trivial, _, j + 1, rfl, ⟨rfl, rfl, ⟨_, rfl⟩, rfl⟩, by omega, by go_num⟩, ?_⟩
    simp [intOf]
    omega
  · obtain rfl : j = nr := by omega
    clear HS
    go_wp2_with fail
    exact HO.out _ ⟨rfl, rfl, ⟨_, rfl⟩, rfl⟩
end Go.Proofs.Qxb6606306aRR
