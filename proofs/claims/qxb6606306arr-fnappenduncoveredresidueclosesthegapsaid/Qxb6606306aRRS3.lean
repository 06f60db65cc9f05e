/- subjects, walked. -/
import Derived.Test.Qxb6606306aRRS2
namespace Go.Proofs.Qxb6606306aRR
open Go.RowKit
theorem Blk.three {w : World} {B t m k : Nat} (h : Blk w B t m) (hm : k * 3 + 3 ≤ m) : ∃ u0 u1 u2, w.cell? ⟨B, k * 3, none⟩ = some u0 ∧ w.cell? ⟨B, k * 3 + 1, none⟩ = some u1 ∧ w.cell? ⟨B, k * 3 + 2, none⟩ = some u2 := by
  obtain ⟨u0, y0⟩ := h.cell (k * 3) (by omega)
  obtain ⟨u1, y1⟩ := h.cell (k * 3 + 1) (by omega)
  obtain ⟨u2, y2⟩ := h.cell (k * 3 + 2) (by omega)
  exact ⟨u0, u1, u2, y0, y1, y2⟩
/-- F as it stood in w (the row B is newer). -/
def FI (F : Nat → Prop) (w : World) (B b : Nat) : Prop := (F b ∧ b < w.heap.size) ∧ b ≠ B
theorem Strs.below {F : Nat → Prop} {w w' : World} {v : Value} {r : List ByteArray} (h : Strs F w v r) (hb : Below w.heap.size w w') (B : Nat) (hB : w.heap.size ≤ B) : Strs (FI F w B) w' v r :=
  Strs.mono (Strs.same (F := fun b => F b ∧ b < w.heap.size) (h.mono (fun _ hl hF => ⟨hF, hl⟩)) (Same.of_below hb)) (fun b _ h => ⟨h, by omega⟩)
theorem Rules.below {F : Nat → Prop} {w w' : World} {v : Value} {r : List RuleD} (h : Rules F w v r) (hb : Below w.heap.size w w') : Rules (fun b => F b ∧ b < w.heap.size) w' v r :=
  Rules.same (F := fun b => F b ∧ b < w.heap.size) (h.mono (fun _ hl hF => ⟨hF, hl⟩)) (Same.of_below hb)
theorem inner_fin (F : Nat → Prop) (w w2 wi : World) (ps : List PathD) (k m : Nat) (c0 c1 : Value) (hb2 : Below w.heap.size w w2) (hlt : w.heap.size < w2.heap.size) (h : RowN (FI F w w2.heap.size) wi w2.heap.size ps k) (hk : Blk wi w2.heap.size 73 m) (hm : k * 3 + 3 ≤ m) (hbi : Below w2.heap.size w2 wi)
    (h0 : Strs F w c0 (ps.getD k noPath).verbs) (h1 : Strs F w c1 (ps.getD k noPath).urls) : RowN (FI F w w2.heap.size) (wi.setCells w2.heap.size (k * 3) [c0, c1, .slice none 0 0]).drew w2.heap.size ps (k + 1) ∧ Blk (wi.setCells w2.heap.size (k * 3) [c0, c1, .slice none 0 0]).drew w2.heap.size 73 m ∧ Below w2.heap.size w2 (wi.setCells w2.heap.size (k * 3) [c0, c1, .slice none 0 0]).drew := by
  have hd : Below w.heap.size w wi := hb2.trans (hbi.mono hb2.size)
  have e1 : RowN (FI F w w2.heap.size) (wi.setCells w2.heap.size (k * 3) [c0, c1, .slice none 0 0]) w2.heap.size ps (k + 1) := h.put hk hm (fun b hb => hb.2) ⟨h0.below hd _ (by omega), h1.below hd _ (by omega)⟩
  exact ⟨e1, Blk.sets _ hk _, (below_sets (Nat.le_refl _) _ hbi _).drew⟩
theorem RowN.mono {F G : Nat → Prop} {w : World} {B : Nat} {ps : List PathD} {k : Nat} (h : RowN F w B ps k) (hG : ∀ b, b < w.heap.size → F b → G b) : RowN G w B ps k := fun i hi => by
  obtain ⟨c0, c1, hc, h0, h1⟩ := h i hi
  exact ⟨c0, c1, hc, h0.mono hG, h1.mono hG⟩
set_option maxRecDepth 8000 in
set_option maxHeartbeats 2000000 in
theorem subjects_any (F : Nat → Prop) (v : Value) (es : List EntryD) (w : World) (h : Entries F w v es) (hs : SmallEs es) :
    Calls Try.prog 22 #[v] w fun e w' => RetSubs F w w' es e ∧ Below w.heap.size w w' := by
  have HH : Hid (Entries F w v es) := h
  obtain ⟨a, cap, rfl, hc⟩ := h
  have hn := hs.1
  have HS : Hid (∀ e ∈ es, SmallE e) := hs.2
  clear hc hs
  obtain ⟨i0, hi, hz0, hz1, hz2⟩ := info_parts info47
  go_enter Try.func22, Try.ntmps22
  go_wp2_with (at_make; refine wpList_make_full _ rfl _ _ 51 rfl w.heap.size 47 i0 _ 1 Try.underlying51 hi hz0 hz1 .i64 .i64 _ _ es.length rfl rfl rfl rfl (by rw [hz2]; omega) (by unfold Go.maxLen; omega) (Nat.le_refl _) ?_; intro w1 hown1 hgrow1)
  have hb1 : Below w.heap.size w w1 := (Below.refl _ _).grown hgrow1 (Nat.le_refl _) (by simp)
  have hk1 : Blk w1 w.heap.size 47 es.length := by have := Blk.of_owns hown1; rwa [Nat.mul_one] at this
  clear hown1 hgrow1
  go_loopw [4] (fun i wr => ∃ k : Nat, k ≤ es.length ∧ i = .int .i64 k ∧ Hid (RowS (FO F w w.heap.size) wr w.heap.size es k) ∧ Hid (Blk wr w.heap.size 47 es.length) ∧ Below w.heap.size w wr) (fun i _ => es.length - (intOf i).toNat)
  case atStart => exact ⟨0, Nat.zero_le _, rfl, fun i hi => absurd hi (Nat.not_lt_zero _), hk1, hb1⟩
  case round =>
    clear hk1 hb1
    obtain ⟨k, hk, rfl, hrow, hblk, hb⟩ := hrel
    by_cases hlt : k < es.length
    · obtain ⟨a', cap', he, hcs⟩ := HH.out
      obtain ⟨b, off, c0, c1, ha, _, hl, ⟨q0, q1⟩, hR, hP⟩ := hcs k hlt
      have hae : a = some ⟨b, off, none⟩ := by cases he; cases ha; rfl
      subst hae
      have HQ : Hid (∀ w', Below w.heap.size w w' → w'.cell? ⟨b, off + k * 2, none⟩ = some c0 ∧ w'.cell? ⟨b, off + k * 2 + 1, none⟩ = some c1) := fun w' hb => ⟨(hb.cell (p := ⟨b, off + k * 2, none⟩) hl).trans q0, (hb.cell (p := ⟨b, off + k * 2 + 1, none⟩) hl).trans q1⟩
      obtain ⟨ent, hent⟩ : ∃ r, es.getD k noEntry = r := ⟨_, rfl⟩
      rw [hent] at hR hP
      have hsE : SmallE ent := hent ▸ HS.out _ (getE_mem es k hlt)
      have HE : Hid (es.getD k noEntry = ent) := hent
      have HR' : Hid (Rules (fun b => F b ∧ b < w.heap.size) wr c0 ent.rules) := hR.below hb
      have HP : Hid (Paths F w c1 ent.paths) := hP
      have HB : Hid (Below w.heap.size w wr) := hb
      obtain ⟨a0, p0, rfl, _⟩ := hR
      obtain ⟨a1, p1, rfl, _⟩ := hP
      obtain ⟨q0, q1⟩ := HQ.out wr hb
      obtain ⟨wo, rfl⟩ : ∃ wo : World, wo = wr := ⟨_, rfl⟩
      have HRW : Hid _ := hrow
      have HBK : Hid _ := hblk
      clear hcs he ha hent hb HH hrow hblk HS
      go_wp2_with fail
      refine (toRRs_any (fun b => F b ∧ b < w.heap.size) _ ent.rules _ HR'.out hsE.1.1).mono ?_
      rintro e w2 ⟨⟨v2, rfl, hR2⟩, hb2⟩
      have HR2 : Hid (Rules (FN (fun b => F b ∧ b < w.heap.size) wo) w2 v2 ent.rules) := hR2
      obtain ⟨q2, q3⟩ := HQ.out w2 (HB.out.trans (hb2.mono HB.out.size))
      obtain ⟨a3, p3, rfl, _⟩ := hR2
      have hn2 : ent.paths.length ≤ 1048576 := hsE.2.1
      obtain ⟨j0, hj, hj0, hj1, hj2⟩ := info_parts info73
      have HB2 : Hid (Below wo.heap.size wo w2) := hb2
      have HW2 : Hid (Below w.heap.size w w2) := HB.out.trans (hb2.mono HB.out.size)
      have hlt2 : w.heap.size < w2.heap.size := Nat.lt_of_lt_of_le HBK.out.lt hb2.size
      clear q0 q1 HR' hb2 hsE
      go_wp2_with (at_make; refine wpList_make_full _ rfl _ _ 48 rfl w2.heap.size 73 j0 _ 3 Try.underlying48 hj hj0 hj1 .i64 .i64 _ _ ent.paths.length rfl rfl rfl rfl (by rw [hj2]; omega) (by unfold Go.maxLen; omega) (Nat.le_refl _) ?_; intro w3 hown3 hgrow3)
      have hb3 : Below w2.heap.size w2 w3 := (Below.refl _ _).grown hgrow3 (Nat.le_refl _) (by simp)
      have hk3 : Blk w3 w2.heap.size 73 (ent.paths.length * 3) := Blk.of_owns hown3
      clear hown3 hgrow3
      go_loopw [8] (fun i wi => ∃ j : Nat, j ≤ ent.paths.length ∧ i = .int .i64 j ∧ Hid (RowN (FI F w w2.heap.size) wi w2.heap.size ent.paths j) ∧ Hid (Blk wi w2.heap.size 73 (ent.paths.length * 3)) ∧ Below w2.heap.size w2 wi) (fun i _ => ent.paths.length - (intOf i).toNat)
      case atStart => exact ⟨0, Nat.zero_le _, rfl, fun i hi => absurd hi (Nat.not_lt_zero _), hk3, hb3⟩
      case round =>
        clear hb3 hk3
        obtain ⟨j, hjn, rfl, hrowi, hblki, hbi⟩ := hrel
        by_cases hjl : j < ent.paths.length
        · obtain ⟨a', cap', he, hcs⟩ := HP.out
          obtain ⟨b', off', d0, d1, ha, _, hl', ⟨r0, r1⟩, hS0, hS1⟩ := hcs j hjl
          have hae : a1 = some ⟨b', off', none⟩ := by cases he; cases ha; rfl
          subst hae
          have hwi : Below w.heap.size w wr := HW2.out.trans (hbi.mono HW2.out.size)
          have e : ∀ j, wr.cell? ⟨b', j, none⟩ = w.cell? ⟨b', j, none⟩ := fun j => hwi.cell (p := ⟨b', j, none⟩) hl'
          rw [← e] at r0 r1
          have HFIN : Hid _ := inner_fin F w w2 wr ent.paths j (ent.paths.length * 3) d0 d1 HW2.out hlt2 hrowi.out hblki.out (by omega) hbi hS0 hS1
          obtain ⟨u0, u1, u2, y0, y1, y2⟩ := hblki.out.three (k := j) (by omega)
          have f0 := hblki.out.frozen
          obtain ⟨pd, hpd⟩ : ∃ p, ent.paths.getD j noPath = p := ⟨_, rfl⟩
          rw [hpd] at hS0 hS1
          obtain ⟨b0, t0, rfl, _, _⟩ := hS0
          obtain ⟨b1, t1, rfl, _, _⟩ := hS1
          clear hcs he ha hbi hrowi hblki hwi e hpd HQ HP HB HB2 HW2 HRW HBK HR2 HE q2 q3
          go_wp2_with fail
          go_region
          go_wp2_with fail
          go_roundw
          case rel => exact ⟨j + 1, by omega, by go_num, HFIN.out.1, HFIN.out.2.1, HFIN.out.2.2⟩
          case measure => simp [intOf]; omega
        · obtain rfl : j = ent.paths.length := by omega
          have HFIN : Hid _ := subs_fin F w wo w2 wr es k ent.paths.length (.slice a3 ent.rules.length p3) (.string ⟨#[]⟩) (.bool false) (.string ⟨#[]⟩) (.string ⟨#[]⟩) (.bool false) HRW.out HBK.out hlt HB.out HB2.out (by rw [HE.out]; exact Rules.mono (F := FN (fun b => F b ∧ b < w.heap.size) wo) HR2.out (fun b _ h => by rcases h with h | h; exact .inl h.1; exact .inr ⟨Nat.le_trans HB.out.size h, fun e => by have := HBK.out.lt; omega⟩)) hbi (by rw [HE.out]; exact hrowi.out.mono (fun b _ h => .inl h.1)) hblki.out.lt
          rw [HE.out] at HFIN
          have hblk' : Blk wr w.heap.size 47 es.length := HBK.out.same (F := Any) trivial (Same.of_below (HB2.out.trans (hbi.mono HB2.out.size)))
          obtain ⟨u0, y0⟩ := hblk'.cell k hlt
          have z0 : ∀ o, (wr.alloc o).cell? ⟨w.heap.size, k, none⟩ = some u0 := fun o => (((Below.refl wr.heap.size wr).alloc (Nat.le_refl _) o).cell (p := ⟨w.heap.size, k, none⟩) hblk'.lt).trans y0
          have f0 : ∀ o, (wr.alloc o).frozen? ⟨w.heap.size, k, none⟩ = false := fun o => (((Below.refl wr.heap.size wr).alloc (Nat.le_refl _) o).frozen (p := ⟨w.heap.size, k, none⟩) hblk'.lt).trans (hblk'.frozen k)
          clear hbi hrowi hblki HQ HP HB HB2 HW2 HRW HBK HR2 HE q2 q3 hblk'
          go_wp2_with fail
          go_roundw
          case rel => exact ⟨k + 1, by omega, by go_num, HFIN.out.1, HFIN.out.2.1, HFIN.out.2.2⟩
          case measure => simp [intOf]; omega
    · obtain rfl : k = es.length := by omega
      have HF : Hid (Subs (FN F w) wr (.slice (some ⟨w.heap.size, 0, none⟩) es.length es.length) es) := hrow.out.subs (.inr (Nat.le_refl _)) hblk.out.lt (fun b _ h => h.imp id (fun h => h.1))
      have HB : Hid (Below w.heap.size w wr) := hb
      clear hb HH hlt hrow hblk
      go_wp2_with fail
      go_ret
      exact ⟨⟨_, rfl, HF.out⟩, HB.out⟩
end Go.Proofs.Qxb6606306aRR
