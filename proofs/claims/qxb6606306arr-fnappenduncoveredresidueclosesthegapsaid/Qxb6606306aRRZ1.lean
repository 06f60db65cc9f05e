/- zzBytes: the string loops in the scope. -/
import Derived.Test.Qxb6606306aRRZ0
namespace Go.Proofs.Qxb6606306aRR
open Go.RowKit
def loops : Code → List Code
  | .loop c => c :: loops c
  | .seq a b => loops a ++ loops b
  | .block _ c => loops c
  | .scope c => loops c
  | .cond _ a b => loops a ++ loops b
  | _ => []
/-- What is known of a frame inside the scope's loop. -/
def Fr (T : Array Value) (sv : Value) (i : Nat) : Prop := T.size = 755 ∧ T.getD 1 undef = sv ∧ (∃ z, T.getD 5 undef = .int .i64 z) ∧ T.getD 11 undef = .int .i64 i
theorem hidden' {p : Prop} (h : p) : Hid p := h

set_option maxHeartbeats 8000000 in
set_option maxRecDepth 100000 in
theorem sl8 (T : Array Value) (w : World) (Q : Exit → Act → World → Prop) (i j n nr ns : Nat) (sb so scap rb ro rcap vcap : Nat) (va : Option Addr) (hF : Fr T (.slice (some ⟨sb, so, none⟩) ns scap) i) (hJ : T.getD 12 undef = .int .i64 j) (hC : T.getD 13 undef = .int .i64 0)
    (hi : i < ns) (hj : j < nr) (hn : n ≤ 1048576) (c1 : w.cell? ⟨sb, so + i * 2, none⟩ = some (.slice (some ⟨rb, ro, none⟩) nr rcap)) (c2 : w.cell? ⟨rb, ro + j * 6, none⟩ = some (.slice va n vcap)) (hs : ∀ k, k < n → ∃ vb vo s, va = some ⟨vb, vo, none⟩ ∧ w.cell? ⟨vb, vo + k, none⟩ = some (.string s))
    (hout : ∀ T', Fr T' (.slice (some ⟨sb, so, none⟩) ns scap) i → T'.getD 12 undef = .int .i64 j → Q (.exit 14) ⟨T', []⟩ w) (hret : ∀ T', T'.size = 755 → T'.getD 4 undef = .bool false → Q .ret ⟨T', []⟩ w) :
    Code.wp Try.prog (Code.loop (((Try.f9.body.map loops).getD []).getD 7 .skip)) Q ⟨T, []⟩ w := by
  refine wp_loop (fun a w' => w' = w ∧ ∃ T k, a = ⟨T, []⟩ ∧ Fr T (.slice (some ⟨sb, so, none⟩) ns scap) i ∧ T.getD 12 undef = .int .i64 j ∧ k ≤ n ∧ T.getD 13 undef = .int .i64 ((k : Nat) : Int)) (fun a _ => n - (intOf (a.tmps.getD 13 undef)).toNat) ⟨rfl, T, 0, rfl, hF, hJ, Nat.zero_le _, hC⟩ ?_
  rintro a w' ⟨rfl, T, k, rfl, ⟨hT, h1, ⟨z, h5⟩, h11⟩, hJ, hk, hC⟩
  obtain ⟨f, e, hf⟩ := lit755 T hT
  rw [hf] at h1 h5 h11 hJ hC
  rw [h1, h5, h11, hJ, hC] at e
  subst e
  clear hf hT h1 h5 h11 hJ hC
  conv => arg 2; whnf
  have HO := hidden' hout
  have HR := hidden' hret
  by_cases hlt : k < n
  · obtain ⟨vb, vo, s, rfl, c3⟩ := hs k hlt
    clear hs hout hret
    go_wp2_with fail
    all_goals first
      | exact HR.out _ rfl rfl
      | (refine ⟨⟨trivial, _, k + 1, rfl, ⟨rfl, rfl, ⟨_, rfl⟩, rfl⟩, rfl, by omega, by go_num⟩, ?_⟩
         simp [intOf]
         omega)
  · obtain rfl : k = n := by omega
    clear hs hout hret
    go_wp2_with fail
    exact HO.out _ ⟨rfl, rfl, ⟨_, rfl⟩, rfl⟩ rfl

set_option maxHeartbeats 8000000 in
set_option maxRecDepth 100000 in
theorem sl9 (T : Array Value) (w : World) (Q : Exit → Act → World → Prop) (i j n nr ns : Nat) (sb so scap rb ro rcap vcap : Nat) (va : Option Addr) (hF : Fr T (.slice (some ⟨sb, so, none⟩) ns scap) i) (hJ : T.getD 12 undef = .int .i64 j) (hC : T.getD 14 undef = .int .i64 0)
    (hi : i < ns) (hj : j < nr) (hn : n ≤ 1048576) (c1 : w.cell? ⟨sb, so + i * 2, none⟩ = some (.slice (some ⟨rb, ro, none⟩) nr rcap)) (c2 : w.cell? ⟨rb, ro + j * 6 + 1, none⟩ = some (.slice va n vcap)) (hs : ∀ k, k < n → ∃ vb vo s, va = some ⟨vb, vo, none⟩ ∧ w.cell? ⟨vb, vo + k, none⟩ = some (.string s))
    (hout : ∀ T', Fr T' (.slice (some ⟨sb, so, none⟩) ns scap) i → T'.getD 12 undef = .int .i64 j → Q (.exit 16) ⟨T', []⟩ w) (hret : ∀ T', T'.size = 755 → T'.getD 4 undef = .bool false → Q .ret ⟨T', []⟩ w) :
    Code.wp Try.prog (Code.loop (((Try.f9.body.map loops).getD []).getD 8 .skip)) Q ⟨T, []⟩ w := by
  refine wp_loop (fun a w' => w' = w ∧ ∃ T k, a = ⟨T, []⟩ ∧ Fr T (.slice (some ⟨sb, so, none⟩) ns scap) i ∧ T.getD 12 undef = .int .i64 j ∧ k ≤ n ∧ T.getD 14 undef = .int .i64 ((k : Nat) : Int)) (fun a _ => n - (intOf (a.tmps.getD 14 undef)).toNat) ⟨rfl, T, 0, rfl, hF, hJ, Nat.zero_le _, hC⟩ ?_
  rintro a w' ⟨rfl, T, k, rfl, ⟨hT, h1, ⟨z, h5⟩, h11⟩, hJ, hk, hC⟩
  obtain ⟨f, e, hf⟩ := lit755 T hT
  rw [hf] at h1 h5 h11 hJ hC
  rw [h1, h5, h11, hJ, hC] at e
  subst e
  clear hf hT h1 h5 h11 hJ hC
  conv => arg 2; whnf
  have HO := hidden' hout
  have HR := hidden' hret
  by_cases hlt : k < n
  · obtain ⟨vb, vo, s, rfl, c3⟩ := hs k hlt
    clear hs hout hret
    go_wp2_with fail
    all_goals first
      | exact HR.out _ rfl rfl
      | (refine ⟨⟨trivial, _, k + 1, rfl, ⟨rfl, rfl, ⟨_, rfl⟩, rfl⟩, rfl, by omega, by go_num⟩, ?_⟩
         simp [intOf]
         omega)
  · obtain rfl : k = n := by omega
    clear hs hout hret
    go_wp2_with fail
    exact HO.out _ ⟨rfl, rfl, ⟨_, rfl⟩, rfl⟩ rfl

set_option maxHeartbeats 8000000 in
set_option maxRecDepth 100000 in
theorem sl10 (T : Array Value) (w : World) (Q : Exit → Act → World → Prop) (i j n nr ns : Nat) (sb so scap rb ro rcap vcap : Nat) (va : Option Addr) (hF : Fr T (.slice (some ⟨sb, so, none⟩) ns scap) i) (hJ : T.getD 12 undef = .int .i64 j) (hC : T.getD 15 undef = .int .i64 0)
    (hi : i < ns) (hj : j < nr) (hn : n ≤ 1048576) (c1 : w.cell? ⟨sb, so + i * 2, none⟩ = some (.slice (some ⟨rb, ro, none⟩) nr rcap)) (c2 : w.cell? ⟨rb, ro + j * 6 + 2, none⟩ = some (.slice va n vcap)) (hs : ∀ k, k < n → ∃ vb vo s, va = some ⟨vb, vo, none⟩ ∧ w.cell? ⟨vb, vo + k, none⟩ = some (.string s))
    (hout : ∀ T', Fr T' (.slice (some ⟨sb, so, none⟩) ns scap) i → T'.getD 12 undef = .int .i64 j → Q (.exit 18) ⟨T', []⟩ w) (hret : ∀ T', T'.size = 755 → T'.getD 4 undef = .bool false → Q .ret ⟨T', []⟩ w) :
    Code.wp Try.prog (Code.loop (((Try.f9.body.map loops).getD []).getD 9 .skip)) Q ⟨T, []⟩ w := by
  refine wp_loop (fun a w' => w' = w ∧ ∃ T k, a = ⟨T, []⟩ ∧ Fr T (.slice (some ⟨sb, so, none⟩) ns scap) i ∧ T.getD 12 undef = .int .i64 j ∧ k ≤ n ∧ T.getD 15 undef = .int .i64 ((k : Nat) : Int)) (fun a _ => n - (intOf (a.tmps.getD 15 undef)).toNat) ⟨rfl, T, 0, rfl, hF, hJ, Nat.zero_le _, hC⟩ ?_
  rintro a w' ⟨rfl, T, k, rfl, ⟨hT, h1, ⟨z, h5⟩, h11⟩, hJ, hk, hC⟩
  obtain ⟨f, e, hf⟩ := lit755 T hT
  rw [hf] at h1 h5 h11 hJ hC
  rw [h1, h5, h11, hJ, hC] at e
  subst e
  clear hf hT h1 h5 h11 hJ hC
  conv => arg 2; whnf
  have HO := hidden' hout
  have HR := hidden' hret
  by_cases hlt : k < n
  · obtain ⟨vb, vo, s, rfl, c3⟩ := hs k hlt
    clear hs hout hret
    go_wp2_with fail
    all_goals first
      | exact HR.out _ rfl rfl
      | (refine ⟨⟨trivial, _, k + 1, rfl, ⟨rfl, rfl, ⟨_, rfl⟩, rfl⟩, rfl, by omega, by go_num⟩, ?_⟩
         simp [intOf]
         omega)
  · obtain rfl : k = n := by omega
    clear hs hout hret
    go_wp2_with fail
    exact HO.out _ ⟨rfl, rfl, ⟨_, rfl⟩, rfl⟩ rfl

set_option maxHeartbeats 8000000 in
set_option maxRecDepth 100000 in
theorem sl11 (T : Array Value) (w : World) (Q : Exit → Act → World → Prop) (i j n nr ns : Nat) (sb so scap rb ro rcap vcap : Nat) (va : Option Addr) (hF : Fr T (.slice (some ⟨sb, so, none⟩) ns scap) i) (hJ : T.getD 12 undef = .int .i64 j) (hC : T.getD 16 undef = .int .i64 0)
    (hi : i < ns) (hj : j < nr) (hn : n ≤ 1048576) (c1 : w.cell? ⟨sb, so + i * 2, none⟩ = some (.slice (some ⟨rb, ro, none⟩) nr rcap)) (c2 : w.cell? ⟨rb, ro + j * 6 + 3, none⟩ = some (.slice va n vcap)) (hs : ∀ k, k < n → ∃ vb vo s, va = some ⟨vb, vo, none⟩ ∧ w.cell? ⟨vb, vo + k, none⟩ = some (.string s))
    (hout : ∀ T', Fr T' (.slice (some ⟨sb, so, none⟩) ns scap) i → T'.getD 12 undef = .int .i64 j → Q (.exit 20) ⟨T', []⟩ w) (hret : ∀ T', T'.size = 755 → T'.getD 4 undef = .bool false → Q .ret ⟨T', []⟩ w) :
    Code.wp Try.prog (Code.loop (((Try.f9.body.map loops).getD []).getD 10 .skip)) Q ⟨T, []⟩ w := by
  refine wp_loop (fun a w' => w' = w ∧ ∃ T k, a = ⟨T, []⟩ ∧ Fr T (.slice (some ⟨sb, so, none⟩) ns scap) i ∧ T.getD 12 undef = .int .i64 j ∧ k ≤ n ∧ T.getD 16 undef = .int .i64 ((k : Nat) : Int)) (fun a _ => n - (intOf (a.tmps.getD 16 undef)).toNat) ⟨rfl, T, 0, rfl, hF, hJ, Nat.zero_le _, hC⟩ ?_
  rintro a w' ⟨rfl, T, k, rfl, ⟨hT, h1, ⟨z, h5⟩, h11⟩, hJ, hk, hC⟩
  obtain ⟨f, e, hf⟩ := lit755 T hT
  rw [hf] at h1 h5 h11 hJ hC
  rw [h1, h5, h11, hJ, hC] at e
  subst e
  clear hf hT h1 h5 h11 hJ hC
  conv => arg 2; whnf
  have HO := hidden' hout
  have HR := hidden' hret
  by_cases hlt : k < n
  · obtain ⟨vb, vo, s, rfl, c3⟩ := hs k hlt
    clear hs hout hret
    go_wp2_with fail
    all_goals first
      | exact HR.out _ rfl rfl
      | (refine ⟨⟨trivial, _, k + 1, rfl, ⟨rfl, rfl, ⟨_, rfl⟩, rfl⟩, rfl, by omega, by go_num⟩, ?_⟩
         simp [intOf]
         omega)
  · obtain rfl : k = n := by omega
    clear hs hout hret
    go_wp2_with fail
    exact HO.out _ ⟨rfl, rfl, ⟨_, rfl⟩, rfl⟩ rfl

set_option maxHeartbeats 8000000 in
set_option maxRecDepth 100000 in
theorem sl12 (T : Array Value) (w : World) (Q : Exit → Act → World → Prop) (i j n nr ns : Nat) (sb so scap rb ro rcap vcap : Nat) (va : Option Addr) (hF : Fr T (.slice (some ⟨sb, so, none⟩) ns scap) i) (hJ : T.getD 12 undef = .int .i64 j) (hC : T.getD 17 undef = .int .i64 0)
    (hi : i < ns) (hj : j < nr) (hn : n ≤ 1048576) (c1 : w.cell? ⟨sb, so + i * 2, none⟩ = some (.slice (some ⟨rb, ro, none⟩) nr rcap)) (c2 : w.cell? ⟨rb, ro + j * 6 + 4, none⟩ = some (.slice va n vcap)) (hs : ∀ k, k < n → ∃ vb vo s, va = some ⟨vb, vo, none⟩ ∧ w.cell? ⟨vb, vo + k, none⟩ = some (.string s))
    (hout : ∀ T', Fr T' (.slice (some ⟨sb, so, none⟩) ns scap) i → T'.getD 12 undef = .int .i64 j → Q (.exit 22) ⟨T', []⟩ w) (hret : ∀ T', T'.size = 755 → T'.getD 4 undef = .bool false → Q .ret ⟨T', []⟩ w) :
    Code.wp Try.prog (Code.loop (((Try.f9.body.map loops).getD []).getD 11 .skip)) Q ⟨T, []⟩ w := by
  refine wp_loop (fun a w' => w' = w ∧ ∃ T k, a = ⟨T, []⟩ ∧ Fr T (.slice (some ⟨sb, so, none⟩) ns scap) i ∧ T.getD 12 undef = .int .i64 j ∧ k ≤ n ∧ T.getD 17 undef = .int .i64 ((k : Nat) : Int)) (fun a _ => n - (intOf (a.tmps.getD 17 undef)).toNat) ⟨rfl, T, 0, rfl, hF, hJ, Nat.zero_le _, hC⟩ ?_
  rintro a w' ⟨rfl, T, k, rfl, ⟨hT, h1, ⟨z, h5⟩, h11⟩, hJ, hk, hC⟩
  obtain ⟨f, e, hf⟩ := lit755 T hT
  rw [hf] at h1 h5 h11 hJ hC
  rw [h1, h5, h11, hJ, hC] at e
  subst e
  clear hf hT h1 h5 h11 hJ hC
  conv => arg 2; whnf
  have HO := hidden' hout
  have HR := hidden' hret
  by_cases hlt : k < n
  · obtain ⟨vb, vo, s, rfl, c3⟩ := hs k hlt
    clear hs hout hret
    go_wp2_with fail
    all_goals first
      | exact HR.out _ rfl rfl
      | (refine ⟨⟨trivial, _, k + 1, rfl, ⟨rfl, rfl, ⟨_, rfl⟩, rfl⟩, rfl, by omega, by go_num⟩, ?_⟩
         simp [intOf]
         omega)
  · obtain rfl : k = n := by omega
    clear hs hout hret
    go_wp2_with fail
    exact HO.out _ ⟨rfl, rfl, ⟨_, rfl⟩, rfl⟩ rfl

set_option maxHeartbeats 8000000 in
set_option maxRecDepth 100000 in
theorem sl14 (T : Array Value) (w : World) (Q : Exit → Act → World → Prop) (i j n nr ns : Nat) (sb so scap rb ro rcap vcap : Nat) (va : Option Addr) (hF : Fr T (.slice (some ⟨sb, so, none⟩) ns scap) i) (hJ : T.getD 18 undef = .int .i64 j) (hC : T.getD 19 undef = .int .i64 0)
    (hi : i < ns) (hj : j < nr) (hn : n ≤ 1048576) (c1 : w.cell? ⟨sb, so + i * 2 + 1, none⟩ = some (.slice (some ⟨rb, ro, none⟩) nr rcap)) (c2 : w.cell? ⟨rb, ro + j * 2, none⟩ = some (.slice va n vcap)) (hs : ∀ k, k < n → ∃ vb vo s, va = some ⟨vb, vo, none⟩ ∧ w.cell? ⟨vb, vo + k, none⟩ = some (.string s))
    (hout : ∀ T', Fr T' (.slice (some ⟨sb, so, none⟩) ns scap) i → T'.getD 18 undef = .int .i64 j → Q (.exit 26) ⟨T', []⟩ w) (hret : ∀ T', T'.size = 755 → T'.getD 4 undef = .bool false → Q .ret ⟨T', []⟩ w) :
    Code.wp Try.prog (Code.loop (((Try.f9.body.map loops).getD []).getD 13 .skip)) Q ⟨T, []⟩ w := by
  refine wp_loop (fun a w' => w' = w ∧ ∃ T k, a = ⟨T, []⟩ ∧ Fr T (.slice (some ⟨sb, so, none⟩) ns scap) i ∧ T.getD 18 undef = .int .i64 j ∧ k ≤ n ∧ T.getD 19 undef = .int .i64 ((k : Nat) : Int)) (fun a _ => n - (intOf (a.tmps.getD 19 undef)).toNat) ⟨rfl, T, 0, rfl, hF, hJ, Nat.zero_le _, hC⟩ ?_
  rintro a w' ⟨rfl, T, k, rfl, ⟨hT, h1, ⟨z, h5⟩, h11⟩, hJ, hk, hC⟩
  obtain ⟨f, e, hf⟩ := lit755 T hT
  rw [hf] at h1 h5 h11 hJ hC
  rw [h1, h5, h11, hJ, hC] at e
  subst e
  clear hf hT h1 h5 h11 hJ hC
  conv => arg 2; whnf
  have HO := hidden' hout
  have HR := hidden' hret
  by_cases hlt : k < n
  · obtain ⟨vb, vo, s, rfl, c3⟩ := hs k hlt
    clear hs hout hret
    go_wp2_with fail
    all_goals first
      | exact HR.out _ rfl rfl
      | (refine ⟨⟨trivial, _, k + 1, rfl, ⟨rfl, rfl, ⟨_, rfl⟩, rfl⟩, rfl, by omega, by go_num⟩, ?_⟩
         simp [intOf]
         omega)
  · obtain rfl : k = n := by omega
    clear hs hout hret
    go_wp2_with fail
    exact HO.out _ ⟨rfl, rfl, ⟨_, rfl⟩, rfl⟩ rfl

set_option maxHeartbeats 8000000 in
set_option maxRecDepth 100000 in
theorem sl15 (T : Array Value) (w : World) (Q : Exit → Act → World → Prop) (i j n nr ns : Nat) (sb so scap rb ro rcap vcap : Nat) (va : Option Addr) (hF : Fr T (.slice (some ⟨sb, so, none⟩) ns scap) i) (hJ : T.getD 18 undef = .int .i64 j) (hC : T.getD 20 undef = .int .i64 0)
    (hi : i < ns) (hj : j < nr) (hn : n ≤ 1048576) (c1 : w.cell? ⟨sb, so + i * 2 + 1, none⟩ = some (.slice (some ⟨rb, ro, none⟩) nr rcap)) (c2 : w.cell? ⟨rb, ro + j * 2 + 1, none⟩ = some (.slice va n vcap)) (hs : ∀ k, k < n → ∃ vb vo s, va = some ⟨vb, vo, none⟩ ∧ w.cell? ⟨vb, vo + k, none⟩ = some (.string s))
    (hout : ∀ T', Fr T' (.slice (some ⟨sb, so, none⟩) ns scap) i → T'.getD 18 undef = .int .i64 j → Q (.exit 28) ⟨T', []⟩ w) (hret : ∀ T', T'.size = 755 → T'.getD 4 undef = .bool false → Q .ret ⟨T', []⟩ w) :
    Code.wp Try.prog (Code.loop (((Try.f9.body.map loops).getD []).getD 14 .skip)) Q ⟨T, []⟩ w := by
  refine wp_loop (fun a w' => w' = w ∧ ∃ T k, a = ⟨T, []⟩ ∧ Fr T (.slice (some ⟨sb, so, none⟩) ns scap) i ∧ T.getD 18 undef = .int .i64 j ∧ k ≤ n ∧ T.getD 20 undef = .int .i64 ((k : Nat) : Int)) (fun a _ => n - (intOf (a.tmps.getD 20 undef)).toNat) ⟨rfl, T, 0, rfl, hF, hJ, Nat.zero_le _, hC⟩ ?_
  rintro a w' ⟨rfl, T, k, rfl, ⟨hT, h1, ⟨z, h5⟩, h11⟩, hJ, hk, hC⟩
  obtain ⟨f, e, hf⟩ := lit755 T hT
  rw [hf] at h1 h5 h11 hJ hC
  rw [h1, h5, h11, hJ, hC] at e
  subst e
  clear hf hT h1 h5 h11 hJ hC
  conv => arg 2; whnf
  have HO := hidden' hout
  have HR := hidden' hret
  by_cases hlt : k < n
  · obtain ⟨vb, vo, s, rfl, c3⟩ := hs k hlt
    clear hs hout hret
    go_wp2_with fail
    all_goals first
      | exact HR.out _ rfl rfl
      | (refine ⟨⟨trivial, _, k + 1, rfl, ⟨rfl, rfl, ⟨_, rfl⟩, rfl⟩, rfl, by omega, by go_num⟩, ?_⟩
         simp [intOf]
         omega)
  · obtain rfl : k = n := by omega
    clear hs hout hret
    go_wp2_with fail
    exact HO.out _ ⟨rfl, rfl, ⟨_, rfl⟩, rfl⟩ rfl
end Go.Proofs.Qxb6606306aRR
