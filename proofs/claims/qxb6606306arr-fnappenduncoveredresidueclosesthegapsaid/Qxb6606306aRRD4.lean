/- ZZMade, ZZNewCoverage, build. -/
import Derived.Test.Qxb6606306aRRD3
namespace Go.Proofs.Qxb6606306aRR
open Go.RowKit Go.Maps
theorem newCov_any (a : Option Addr) (n cap : Nat) (w : World) :
    Calls Try.prog 20 #[.slice a n cap] w fun e w' => e = .returned (.pointer (some ⟨w.heap.size, 0, none⟩)) ∧ w' = w.alloc (.cells #[.slice a n cap, .map none, .map none] 70) := by
  go_enter Try.func20, Try.ntmps20
  go_wp2_with fail
  go_ret
  exact ⟨rfl, rfl⟩
theorem box70 (w : World) (ev : Value) (W : World) (hW : w.alloc (.cells #[ev, .map none, .map none] 70) = W) : W.cell? ⟨w.heap.size, 0, none⟩ = some ev ∧ W.cell? ⟨w.heap.size, 1, none⟩ = some (.map none) ∧ W.cell? ⟨w.heap.size, 2, none⟩ = some (.map none) ∧ W.frozen? ⟨w.heap.size, 1, none⟩ = false ∧ W.frozen? ⟨w.heap.size, 2, none⟩ = false ∧ Below w.heap.size w W := by
  subst hW
  refine ⟨?_, ?_, ?_, ?_, ?_, (Below.refl _ _).alloc (Nat.le_refl _) _⟩
  all_goals go_simp
/-- A coverage that grants all of these rules; what was there stands. -/
def CovOk (w w' : World) (d : CovD) (es : List EntryD) : Prop :=
  d.at w' ∧ (∀ i j, i < es.length → j < (es.getD i noEntry).rules.length → AllGr d.A d.N ((es.getD i noEntry).rules.getD j noRule)) ∧ Below w.heap.size w w'
/-- It returned such a coverage. -/
def RetCov (w w' : World) (es : List EntryD) (e : Ending) : Prop := ∃ d : CovD, e = .returned (.pointer (some ⟨d.c, 0, none⟩)) ∧ CovOk w w' d es
set_option maxHeartbeats 400000 in
theorem zzMade_any (c : Nat) (ev : Value) (es : List EntryD) (w : World) (hS : Subs (fun b => b < c) w ev es) (h0 : w.cell? ⟨c, 0, none⟩ = some ev) (h1 : w.cell? ⟨c, 1, none⟩ = some (.map none)) (h2 : w.cell? ⟨c, 2, none⟩ = some (.map none)) (f1 : w.frozen? ⟨c, 1, none⟩ = false) (f2 : w.frozen? ⟨c, 2, none⟩ = false) (hB : Bears es) :
    Calls Try.prog 19 #[.pointer (some ⟨c, 0, none⟩)] w fun e w' => e = .returned (.pointer (some ⟨c, 0, none⟩)) ∧ MadeOk w w' c es := by
  have HC := hidden (made_any c ev es w hS h0 h1 h2 f1 f2 hB)
  clear hS h0 h1 h2 f1 f2
  go_enter Try.func19, Try.ntmps19
  go_wp2_with fail
  refine HC.out.mono ?_
  rintro e w1 ⟨rfl, hm⟩
  go_wp2_with fail
  go_ret
  exact ⟨rfl, hm⟩
/-- Both, one behind the other. -/
theorem newMade (F : Nat → Prop) (ev : Value) (es : List EntryD) (w : World) (hS : Subs F w ev es) (hB : Bears es) (W : World) (hW : w.alloc (.cells #[ev, .map none, .map none] 70) = W) :
    Calls Try.prog 19 #[.pointer (some ⟨w.heap.size, 0, none⟩)] W fun e w' => e = .returned (.pointer (some ⟨w.heap.size, 0, none⟩)) ∧ ∃ d : CovD, d.c = w.heap.size ∧ CovOk w w' d es := by
  obtain ⟨h0, h1, h2, f1, f2, hb⟩ := box70 w ev W hW
  have hS' : Subs (fun b => b < w.heap.size) W ev es := Subs.same (F := fun b => b < w.heap.size) (hS.mono (fun b hb _ => hb)) (Same.of_below hb)
  refine (zzMade_any w.heap.size ev es W hS' h0 h1 h2 f1 f2 hB).mono ?_
  rintro e w' ⟨rfl, d, hc, hd, hg, hb'⟩
  exact ⟨rfl, d, hc, hd, hg, hb.trans hb'⟩
set_option maxHeartbeats 400000 in
theorem build_any (F : Nat → Prop) (v : Value) (es : List EntryD) (w : World) (h : Entries F w v es) (hs : SmallEs es) (hB : Bears es) :
    Calls Try.prog 7 #[v] w fun e w' => RetCov w w' es e := by
  have HC := hidden (subjects_any F v es w h hs)
  obtain ⟨a, cap, rfl, _⟩ := h
  go_enter Try.func7, Try.ntmps7
  go_wp2_with fail
  refine HC.out.mono ?_
  rintro e w1 ⟨⟨sv, rfl, hS⟩, hb1⟩
  have HS := hidden hS
  obtain ⟨sa, scap, rfl, _⟩ := hS
  clear HC
  go_wp2_with fail
  refine (newCov_any _ _ _ _).mono ?_
  rintro e w2 ⟨rfl, hw2⟩
  have HM := hidden (newMade _ _ es w1 HS.out hB w2 hw2.symm)
  clear hw2
  go_wp2_with fail
  refine HM.out.mono ?_
  rintro e w3 ⟨rfl, d, hc, hd, hg, hb3⟩
  clear HM
  go_wp2_with fail
  go_ret
  exact ⟨d, by rw [hc]; rfl, hd, hg, hb1.trans (hb3.mono hb1.size)⟩
end Go.Proofs.Qxb6606306aRR
