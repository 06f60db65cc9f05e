/- zzBytes: the loop over the scope. -/
import Derived.Test.Qxb6606306aRRZ2
namespace Go.Proofs.Qxb6606306aRR
open Go.RowKit
def EAt (w : World) (a : Option Addr) (i : Nat) : Prop := ∃ sb so, a = some ⟨sb, so, none⟩ ∧ (∃ ra nr rcap, w.cell? ⟨sb, so + i * 2, none⟩ = some (.slice ra nr rcap) ∧ ∀ j, j < nr → RAt w ra j) ∧
  (∃ pa np pcap, w.cell? ⟨sb, so + i * 2 + 1, none⟩ = some (.slice pa np pcap) ∧ ∀ j, j < np → PAt w pa j)
theorem SAt.of {F : Nat → Prop} {w : World} {p : Addr} {c : Value} {xs : List ByteArray} (hc : w.cell? p = some c) (h : Strs F w c xs) : SAt w p := by
  obtain ⟨a, cap, rfl, hk, _⟩ := h
  refine ⟨_, _, _, hc, fun k hk' => ?_⟩
  obtain ⟨b, off, ha, _, _, hcell⟩ := hk k hk'
  exact ⟨b, off, _, ha, hcell⟩
theorem EAt.of {F : Nat → Prop} {w : World} {a : Option Addr} {cap len : Nat} {es : List EntryD} (h : Entries F w (.slice a len cap) es) : len = es.length ∧ ∀ i, i < len → EAt w a i := by
  obtain ⟨a, cap, e, hk⟩ := h
  cases e
  refine ⟨rfl, fun i hi => ?_⟩
  obtain ⟨b, off, c0, c1, rfl, _, _, ⟨h0, h1⟩, hr, hp⟩ := hk i hi
  obtain ⟨ra, rcap, rfl, hrk⟩ := hr
  obtain ⟨pa, pcap, rfl, hpk⟩ := hp
  refine ⟨b, off, rfl, ⟨_, _, _, h0, fun j hj => ?_⟩, ⟨_, _, _, h1, fun j hj => ?_⟩⟩
  · obtain ⟨rb, ro, d0, d1, d2, d3, d4, rfl, _, _, ⟨g0, g1, g2, g3, g4, _⟩, hv⟩ := hrk j hj
    exact ⟨rb, ro, rfl, SAt.of g0 hv.verbs, SAt.of g1 hv.groups, SAt.of g2 hv.resources, SAt.of g3 hv.names, SAt.of g4 hv.bys⟩
  · obtain ⟨rb, ro, d0, d1, rfl, _, _, ⟨g0, g1⟩, hv0, hv1⟩ := hpk j hj
    exact ⟨rb, ro, rfl, SAt.of g0 hv0, SAt.of g1 hv1⟩

set_option maxHeartbeats 40000000 in
set_option maxRecDepth 100000 in
theorem el6 (T : Array Value) (w : World) (Q : Exit → Act → World → Prop) (ns scap : Nat) (sa : Option Addr) (hT0 : T.size = 755) (hs1 : T.getD 1 undef = .slice sa ns scap) (hs5 : ∃ z, T.getD 5 undef = .int .i64 z) (hC : T.getD 11 undef = .int .i64 0)
    (hn : ns ≤ 1048576) (hs : ∀ i, i < ns → EAt w sa i)
    (hout : ∀ T', T'.size = 755 → Q (.exit 10) ⟨T', []⟩ w) (hret : ∀ T', T'.size = 755 → T'.getD 4 undef = .bool false → Q .ret ⟨T', []⟩ w) :
    Code.wp Try.prog (Code.loop (((Try.f9.body.map loops).getD []).getD 5 .skip)) Q ⟨T, []⟩ w := by
  refine wp_loop (fun a w' => w' = w ∧ ∃ T i, a = ⟨T, []⟩ ∧ Fr T (.slice sa ns scap) i ∧ i ≤ ns) (fun a _ => ns - (intOf (a.tmps.getD 11 undef)).toNat) ⟨rfl, T, 0, rfl, ⟨hT0, hs1, hs5, hC⟩, Nat.zero_le _⟩ ?_
  rintro a w' ⟨rfl, T, i, rfl, ⟨hT, h1, ⟨z, h5⟩, h11⟩, hi⟩
  obtain ⟨f, e, hf⟩ := lit755 T hT
  rw [hf] at h1 h5 h11
  rw [h1, h5, h11] at e
  subst e
  clear hf hT h1 h5 h11
  conv => arg 2; whnf
  have HO := hidden' hout
  have HR := hidden' hret
  have HS := hidden' hs
  clear hs hout hret hs1 hs5 hC hT0
  by_cases hlt : i < ns
  · obtain ⟨sb, so, rfl, ⟨ra, nr, rcap, c1, q1⟩, ⟨pa, np, pcap, c2, q2⟩⟩ := HS.out i hlt
    have H1 := hidden' q1
    have H2 := hidden' q2
    clear HS q1 q2
    go_wp2_with fail
    all_goals try exact HR.out _ rfl rfl
    refine rl7 _ _ _ i nr ns sb so scap rcap ra ⟨rfl, rfl, ⟨_, rfl⟩, rfl⟩ rfl hlt (by omega) c1 H1.out ?_ (fun T' a b => HR.out T' a b)
    rintro T' ⟨hT, h1, ⟨z, h5⟩, h11⟩
    obtain ⟨f, e, hf⟩ := lit755 T' hT
    rw [hf] at h1 h5 h11
    rw [h1, h5, h11] at e
    subst e
    clear hf hT h1 h5 h11
    go_wp2_with fail
    all_goals try exact HR.out _ rfl rfl
    refine pl13 _ _ _ i np ns sb so scap pcap pa ⟨rfl, rfl, ⟨_, rfl⟩, rfl⟩ rfl hlt (by omega) c2 H2.out ?_ (fun T' a b => HR.out T' a b)
    rintro T' ⟨hT, h1, ⟨z, h5⟩, h11⟩
    obtain ⟨f, e, hf⟩ := lit755 T' hT
    rw [hf] at h1 h5 h11
    rw [h1, h5, h11] at e
    subst e
    clear hf hT h1 h5 h11
    go_wp2_with fail
    refine ⟨⟨trivial, _, i + 1, rfl, ⟨rfl, rfl, ⟨_, rfl⟩, by go_num⟩, by omega⟩, ?_⟩
    simp [intOf]
    omega
  · obtain rfl : i = ns := by omega
    clear HS
    go_wp2_with fail
    exact HO.out _ rfl
end Go.Proofs.Qxb6606306aRR
