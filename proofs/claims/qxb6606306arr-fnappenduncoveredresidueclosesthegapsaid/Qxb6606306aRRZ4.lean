/- zzBytes_FnAppendUncoveredResidueClosesTheGap: it returns some bool, and writes nothing that was there. -/
import Derived.Test.Qxb6606306aRRZ3
import Derived.Test.Qxb6606306aRRL2
namespace Go.Proofs.Qxb6606306aRR
open Go.RowKit

theorem cell_new (w : World) (b i : Nat) (v : Value) (hl : b < w.heap.size) (hc : w.cell? ⟨b, i, none⟩ = some v) : ∀ o, (w.alloc o).cell? ⟨b, i, none⟩ = some v := fun o => (World.cell?_alloc_lt w o ⟨b, i, none⟩ hl).trans hc

set_option maxHeartbeats 40000000 in
set_option maxRecDepth 100000 in
theorem zzBytes_any (F : Nat → Prop) (c0 c1 c2 c3 c4 sv : Value) (r : RuleD) (es : List EntryD) (w : World) (h : RuleV F w c0 c1 c2 c3 c4 r) (he : Entries F w sv es) :
    Calls Try.prog 9 #[.agg #[c0, c1, c2, c3, c4, .bool r.any], sv] w fun e w' => SomeBool e ∧ Below w.heap.size w w' := by
  obtain ⟨a0, p0, rfl, hc0, hz0⟩ := h.verbs
  obtain ⟨a1, p1, rfl, hc1, hz1⟩ := h.groups
  obtain ⟨a2, p2, rfl, hc2, hz2⟩ := h.resources
  obtain ⟨a3, p3, rfl, hc3, hz3⟩ := h.names
  obtain ⟨a4, p4, rfl, hc4, hz4⟩ := h.bys
  obtain ⟨sa, sp, rfl, hce⟩ := he
  clear h
  have HC0 : Hid (∀ i, i < r.verbs.length → ∃ b off, a0 = some ⟨b, off, none⟩ ∧ F b ∧ b < w.heap.size ∧ w.cell? ⟨b, off + i, none⟩ = some (.string (r.verbs.getD i ByteArray.empty))) := hc0
  have HZ0 : Hid (∀ s ∈ r.verbs, s.size ≤ Go.maxLen) := hz0
  have HC1 : Hid (∀ i, i < r.groups.length → ∃ b off, a1 = some ⟨b, off, none⟩ ∧ F b ∧ b < w.heap.size ∧ w.cell? ⟨b, off + i, none⟩ = some (.string (r.groups.getD i ByteArray.empty))) := hc1
  have HZ1 : Hid (∀ s ∈ r.groups, s.size ≤ Go.maxLen) := hz1
  have HC2 : Hid (∀ i, i < r.resources.length → ∃ b off, a2 = some ⟨b, off, none⟩ ∧ F b ∧ b < w.heap.size ∧ w.cell? ⟨b, off + i, none⟩ = some (.string (r.resources.getD i ByteArray.empty))) := hc2
  have HZ2 : Hid (∀ s ∈ r.resources, s.size ≤ Go.maxLen) := hz2
  have HC3 : Hid (∀ i, i < r.names.length → ∃ b off, a3 = some ⟨b, off, none⟩ ∧ F b ∧ b < w.heap.size ∧ w.cell? ⟨b, off + i, none⟩ = some (.string (r.names.getD i ByteArray.empty))) := hc3
  have HZ3 : Hid (∀ s ∈ r.names, s.size ≤ Go.maxLen) := hz3
  have HC4 : Hid (∀ i, i < r.bys.length → ∃ b off, a4 = some ⟨b, off, none⟩ ∧ F b ∧ b < w.heap.size ∧ w.cell? ⟨b, off + i, none⟩ = some (.string (r.bys.getD i ByteArray.empty))) := hc4
  have HZ4 : Hid (∀ s ∈ r.bys, s.size ≤ Go.maxLen) := hz4
  have HCE : Hid (∀ o, ∀ i, i < es.length → EAt (w.alloc o) sa i) := fun o => (EAt.of ((show Entries F w (.slice sa es.length sp) es from ⟨sa, sp, rfl, hce⟩).same (Same.of_below ((Below.refl _ _).alloc (Nat.le_refl _) o)))).2
  clear hce hc0 hz0 hc1 hz1 hc2 hz2 hc3 hz3 hc4 hz4
  go_enter Try.func9, Try.ntmps9
  go_wp2_with fail
  first | (go_ret; refine ⟨⟨false, rfl⟩, ?_⟩; exact (Below.refl _ _).alloc (Nat.le_refl _) _) | skip
  go_loop [5, 6] (fun n i => ∃ (k : Nat) (z : Int), k ≤ r.verbs.length ∧ i = .int .i64 k ∧ n = .int .i64 z ∧ 0 ≤ z ∧ z ≤ 1048576) (fun _ i => r.verbs.length - (intOf i).toNat)
  case atStart => exact ⟨0, _, Nat.zero_le _, rfl, rfl, by omega, by omega⟩
  case round =>
    obtain ⟨k, z, hk, rfl, rfl, hz0, hz1⟩ := hrel
    by_cases hlt : k < r.verbs.length
    · obtain ⟨b, off, rfl, _, hl, hcell⟩ := HC0.out k hlt
      obtain ⟨s, hs⟩ : ∃ s, r.verbs.getD k ByteArray.empty = s := ⟨_, rfl⟩
      rw [hs] at hcell
      have hss : s.size ≤ Go.maxLen := hs ▸ HZ0.out _ (getD_mem _ k hlt)
      have hcl := cell_new w b _ _ hl hcell
      unfold Go.maxLen at hss
      clear hs hcell hl
      go_wp2_with fail
      all_goals first | (go_ret; refine ⟨⟨false, rfl⟩, ?_⟩; exact (Below.refl _ _).alloc (Nat.le_refl _) _) | (go_round; (case rel => exact ⟨k + 1, z + s.size, by omega, by go_num, rfl, by omega, by omega⟩); (case measure => (simp [intOf]; omega)))
    · obtain rfl : k = r.verbs.length := by omega
      clear hlt
      clear HC0 HZ0 hk
      go_wp2_with fail
      all_goals try (go_ret; refine ⟨⟨false, rfl⟩, ?_⟩; exact (Below.refl _ _).alloc (Nat.le_refl _) _)
      go_loop [5, 7] (fun n i => ∃ (k : Nat) (z : Int), k ≤ r.groups.length ∧ i = .int .i64 k ∧ n = .int .i64 z ∧ 0 ≤ z ∧ z ≤ 1048576) (fun _ i => r.groups.length - (intOf i).toNat)
      case atStart => exact ⟨0, _, Nat.zero_le _, rfl, rfl, by omega, by omega⟩
      case round =>
        obtain ⟨k, z, hk, rfl, rfl, hz0, hz1⟩ := hrel
        by_cases hlt : k < r.groups.length
        · obtain ⟨b, off, rfl, _, hl, hcell⟩ := HC1.out k hlt
          obtain ⟨s, hs⟩ : ∃ s, r.groups.getD k ByteArray.empty = s := ⟨_, rfl⟩
          rw [hs] at hcell
          have hss : s.size ≤ Go.maxLen := hs ▸ HZ1.out _ (getD_mem _ k hlt)
          have hcl := cell_new w b _ _ hl hcell
          unfold Go.maxLen at hss
          clear hs hcell hl
          go_wp2_with fail
          all_goals first | (go_ret; refine ⟨⟨false, rfl⟩, ?_⟩; exact (Below.refl _ _).alloc (Nat.le_refl _) _) | (go_round; (case rel => exact ⟨k + 1, z + s.size, by omega, by go_num, rfl, by omega, by omega⟩); (case measure => (simp [intOf]; omega)))
        · obtain rfl : k = r.groups.length := by omega
          clear hlt
          clear HC1 HZ1 hk
          go_wp2_with fail
          all_goals try (go_ret; refine ⟨⟨false, rfl⟩, ?_⟩; exact (Below.refl _ _).alloc (Nat.le_refl _) _)
          go_loop [5, 8] (fun n i => ∃ (k : Nat) (z : Int), k ≤ r.resources.length ∧ i = .int .i64 k ∧ n = .int .i64 z ∧ 0 ≤ z ∧ z ≤ 1048576) (fun _ i => r.resources.length - (intOf i).toNat)
          case atStart => exact ⟨0, _, Nat.zero_le _, rfl, rfl, by omega, by omega⟩
          case round =>
            obtain ⟨k, z, hk, rfl, rfl, hz0, hz1⟩ := hrel
            by_cases hlt : k < r.resources.length
            · obtain ⟨b, off, rfl, _, hl, hcell⟩ := HC2.out k hlt
              obtain ⟨s, hs⟩ : ∃ s, r.resources.getD k ByteArray.empty = s := ⟨_, rfl⟩
              rw [hs] at hcell
              have hss : s.size ≤ Go.maxLen := hs ▸ HZ2.out _ (getD_mem _ k hlt)
              have hcl := cell_new w b _ _ hl hcell
              unfold Go.maxLen at hss
              clear hs hcell hl
              go_wp2_with fail
              all_goals first | (go_ret; refine ⟨⟨false, rfl⟩, ?_⟩; exact (Below.refl _ _).alloc (Nat.le_refl _) _) | (go_round; (case rel => exact ⟨k + 1, z + s.size, by omega, by go_num, rfl, by omega, by omega⟩); (case measure => (simp [intOf]; omega)))
            · obtain rfl : k = r.resources.length := by omega
              clear hlt
              clear HC2 HZ2 hk
              go_wp2_with fail
              all_goals try (go_ret; refine ⟨⟨false, rfl⟩, ?_⟩; exact (Below.refl _ _).alloc (Nat.le_refl _) _)
              go_loop [5, 9] (fun n i => ∃ (k : Nat) (z : Int), k ≤ r.names.length ∧ i = .int .i64 k ∧ n = .int .i64 z ∧ 0 ≤ z ∧ z ≤ 1048576) (fun _ i => r.names.length - (intOf i).toNat)
              case atStart => exact ⟨0, _, Nat.zero_le _, rfl, rfl, by omega, by omega⟩
              case round =>
                obtain ⟨k, z, hk, rfl, rfl, hz0, hz1⟩ := hrel
                by_cases hlt : k < r.names.length
                · obtain ⟨b, off, rfl, _, hl, hcell⟩ := HC3.out k hlt
                  obtain ⟨s, hs⟩ : ∃ s, r.names.getD k ByteArray.empty = s := ⟨_, rfl⟩
                  rw [hs] at hcell
                  have hss : s.size ≤ Go.maxLen := hs ▸ HZ3.out _ (getD_mem _ k hlt)
                  have hcl := cell_new w b _ _ hl hcell
                  unfold Go.maxLen at hss
                  clear hs hcell hl
                  go_wp2_with fail
                  all_goals first | (go_ret; refine ⟨⟨false, rfl⟩, ?_⟩; exact (Below.refl _ _).alloc (Nat.le_refl _) _) | (go_round; (case rel => exact ⟨k + 1, z + s.size, by omega, by go_num, rfl, by omega, by omega⟩); (case measure => (simp [intOf]; omega)))
                · obtain rfl : k = r.names.length := by omega
                  clear hlt
                  clear HC3 HZ3 hk
                  go_wp2_with fail
                  all_goals try (go_ret; refine ⟨⟨false, rfl⟩, ?_⟩; exact (Below.refl _ _).alloc (Nat.le_refl _) _)
                  go_loop [5, 10] (fun n i => ∃ (k : Nat) (z : Int), k ≤ r.bys.length ∧ i = .int .i64 k ∧ n = .int .i64 z ∧ 0 ≤ z ∧ z ≤ 1048576) (fun _ i => r.bys.length - (intOf i).toNat)
                  case atStart => exact ⟨0, _, Nat.zero_le _, rfl, rfl, by omega, by omega⟩
                  case round =>
                    obtain ⟨k, z, hk, rfl, rfl, hz0, hz1⟩ := hrel
                    by_cases hlt : k < r.bys.length
                    · obtain ⟨b, off, rfl, _, hl, hcell⟩ := HC4.out k hlt
                      obtain ⟨s, hs⟩ : ∃ s, r.bys.getD k ByteArray.empty = s := ⟨_, rfl⟩
                      rw [hs] at hcell
                      have hss : s.size ≤ Go.maxLen := hs ▸ HZ4.out _ (getD_mem _ k hlt)
                      have hcl := cell_new w b _ _ hl hcell
                      unfold Go.maxLen at hss
                      clear hs hcell hl
                      go_wp2_with fail
                      all_goals first | (go_ret; refine ⟨⟨false, rfl⟩, ?_⟩; exact (Below.refl _ _).alloc (Nat.le_refl _) _) | (go_round; (case rel => exact ⟨k + 1, z + s.size, by omega, by go_num, rfl, by omega, by omega⟩); (case measure => (simp [intOf]; omega)))
                    · obtain rfl : k = r.bys.length := by omega
                      clear hlt
                      clear HC4 HZ4 hk
                      go_wp2_with fail
                      all_goals try (go_ret; refine ⟨⟨false, rfl⟩, ?_⟩; exact (Below.refl _ _).alloc (Nat.le_refl _) _)
                      refine el6 _ _ _ es.length sp sa rfl rfl ⟨_, rfl⟩ rfl (by omega) (HCE.out _) ?_ ?_
                      · intro T' hT
                        obtain ⟨f, e, hf⟩ := lit755 T' hT
                        subst e
                        clear hf hT
                        go_wp2_with fail
                        go_ret
                        exact ⟨⟨true, rfl⟩, (Below.refl _ _).alloc (Nat.le_refl _) _⟩
                      · intro T' hT h4
                        obtain ⟨f, e, hf⟩ := lit755 T' hT
                        rw [hf] at h4
                        rw [h4] at e
                        subst e
                        clear hf hT h4
                        go_wp2_with fail
                        go_ret
                        exact ⟨⟨false, rfl⟩, (Below.refl _ _).alloc (Nat.le_refl _) _⟩
end Go.Proofs.Qxb6606306aRR
