/- rulesBytes, entriesBytes. -/
import Derived.Test.Qxb6606306aRRG3
namespace Go.Proofs.Qxb6606306aRR
open Go.RowKit

/-- It returned an int64 of which p holds. -/
def RetInt (p : Int → Prop) (e : Ending) : Prop := ∃ n, e = .returned (.int .i64 n) ∧ p n
def SmallRs (rs : List RuleD) : Prop := rs.length ≤ 1048576 ∧ ∀ r ∈ rs, SmallR r
theorem getR_mem (rs : List RuleD) (i : Nat) (h : i < rs.length) : rs.getD i noRule ∈ rs := by
  rw [List.getD_eq_getElem?_getD, List.getElem?_eq_getElem h]; exact List.getElem_mem h
theorem forallR {p : RuleD → Prop} {rs : List RuleD} (h : ∀ j, j < rs.length → p (rs.getD j noRule)) : ∀ r ∈ rs, p r := fun r hr => by
  obtain ⟨j, hj, rfl⟩ := List.getElem_of_mem hr
  have := h j hj
  rwa [List.getD_eq_getElem?_getD, List.getElem?_eq_getElem hj] at this

set_option maxHeartbeats 1000000 in
theorem rulesBytes_any (F : Nat → Prop) (v : Value) (rs : List RuleD) (w : World) (h : Rules F w v rs) :
    Calls Try.prog 25 #[v] w fun e w' => RetInt (fun n => 0 ≤ n ∧ n ≤ 1048577 ∧ (n ≤ 1048576 → SmallRs rs)) e ∧ Below w.heap.size w w' := by
  have HR : Hid (∀ w', Below w.heap.size w w' → Rules F w' v rs) := fun w' hb => h.same (Same.of_below hb)
  obtain ⟨a, cap, rfl, _⟩ := h
  by_cases h1 : 1048576 < (rs.length : Int)
  · go_enter Try.func25, Try.ntmps25
    go_wp2_with fail
    go_ret
    exact ⟨⟨_, rfl, by omega, by omega, fun h => by omega⟩, Below.refl _ _⟩
  · go_enter Try.func25, Try.ntmps25
    go_wp2_with fail
    go_loopw [3, 4] (fun n i wr => ∃ (k : Nat) (z : Int), k ≤ rs.length ∧ i = .int .i64 k ∧ n = .int .i64 z ∧ 0 ≤ z ∧ z ≤ 1048576 ∧ Hid (∀ j, j < k → SmallR (rs.getD j noRule)) ∧ Below w.heap.size w wr) (fun _ i _ => rs.length - (intOf i).toNat)
    case atStart => exact ⟨0, 0, Nat.zero_le _, rfl, rfl, by omega, by omega, fun j hj => absurd hj (Nat.not_lt_zero _), Below.refl _ _⟩
    case round =>
      obtain ⟨k, z, hk, rfl, rfl, hz0, hz1, hsm, hb⟩ := hrel
      by_cases hlt : k < rs.length
      · obtain ⟨a', cap', he, hcs⟩ := HR.out wr hb
        obtain ⟨b, off, c0, c1, c2, c3, c4, ha, _, hl, ⟨q0, q1, q2, q3, q4, q5⟩, hV⟩ := hcs k hlt
        have hae : a = some ⟨b, off, none⟩ := by cases he; exact ha
        subst hae
        obtain ⟨r, hr⟩ : ∃ r, rs.getD k noRule = r := ⟨_, rfl⟩
        rw [hr] at q5 hV
        have HRr : Hid (rs.getD k noRule = r) := hr
        have HB : Hid (Below w.heap.size w wr) := hb
        clear hcs he ha hr hb HR
        go_wp2_with fail
        refine (ruleBytes_any F c0 c1 c2 c3 c4 r _ hV).mono ?_
        rintro e w1 ⟨rfl, hb1⟩
        obtain ⟨g0, g1, g2⟩ := ruleB_bd r
        have HB1 : Hid (Below w.heap.size w w1) := HB.out.trans (hb1.mono HB.out.size)
        have G2 : Hid (ruleB r ≤ 1048576 → SmallR r) := g2
        clear hb1 g2 q0 q1 q2 q3 q4 q5 hV
        by_cases h4 : 1048576 < z + ruleB r
        · go_wp2_with fail
          go_ret
          exact ⟨⟨_, rfl, by omega, by omega, fun h => by omega⟩, HB1.out⟩
        · go_wp2_with fail
          go_roundw
          case rel =>
            refine ⟨k + 1, z + ruleB r, by omega, by go_num, rfl, by omega, by omega, fun j hj => ?_, HB1.out⟩
            rcases Nat.lt_or_ge j k with hjk | hjk
            · exact hsm.out j hjk
            · obtain rfl : j = k := by omega
              rw [HRr.out]; exact G2.out (by omega)
          case measure => simp [intOf]; omega
      · have HF : Hid (SmallRs rs) := ⟨by omega, forallR fun j hj => hsm.out j (by omega)⟩
        have HB : Hid (Below w.heap.size w wr) := hb
        clear hsm hb HR
        go_wp2_with fail
        go_ret
        exact ⟨⟨_, rfl, by omega, by omega, fun _ => HF.out⟩, HB.out⟩

def SmallE (e : EntryD) : Prop := SmallRs e.rules ∧ e.paths.length ≤ 1048576 ∧ ∀ p ∈ e.paths, SmallP p
def SmallEs (es : List EntryD) : Prop := es.length ≤ 1048576 ∧ ∀ e ∈ es, SmallE e
theorem forallP {p : PathD → Prop} {rs : List PathD} (h : ∀ j, j < rs.length → p (rs.getD j noPath)) : ∀ r ∈ rs, p r := fun r hr => by
  obtain ⟨j, hj, rfl⟩ := List.getElem_of_mem hr
  have := h j hj
  rwa [List.getD_eq_getElem?_getD, List.getElem?_eq_getElem hj] at this
theorem forallE {p : EntryD → Prop} {rs : List EntryD} (h : ∀ j, j < rs.length → p (rs.getD j noEntry)) : ∀ r ∈ rs, p r := fun r hr => by
  obtain ⟨j, hj, rfl⟩ := List.getElem_of_mem hr
  have := h j hj
  rwa [List.getD_eq_getElem?_getD, List.getElem?_eq_getElem hj] at this

set_option maxHeartbeats 2000000 in
theorem entriesBytes_any (F : Nat → Prop) (v : Value) (es : List EntryD) (w : World) (h : Entries F w v es) :
    Calls Try.prog 11 #[v] w fun e w' => RetInt (fun n => 0 ≤ n ∧ n ≤ 1048577 ∧ (n ≤ 1048576 → SmallEs es)) e ∧ Below w.heap.size w w' := by
  have HR : Hid (∀ w', Below w.heap.size w w' → Entries F w' v es) := fun w' hb => h.same (Same.of_below hb)
  obtain ⟨a, cap, rfl, _⟩ := h
  by_cases h1 : 1048576 < (es.length : Int)
  · go_enter Try.func11, Try.ntmps11
    go_wp2_with fail
    go_ret
    exact ⟨⟨_, rfl, by omega, by omega, fun h => by omega⟩, Below.refl _ _⟩
  · go_enter Try.func11, Try.ntmps11
    go_wp2_with fail
    go_loopw [3, 4] (fun n i wr => ∃ (k : Nat) (z : Int), k ≤ es.length ∧ i = .int .i64 k ∧ n = .int .i64 z ∧ 0 ≤ z ∧ z ≤ 1048576 ∧ Hid (∀ j, j < k → SmallE (es.getD j noEntry)) ∧ Below w.heap.size w wr) (fun _ i _ => es.length - (intOf i).toNat)
    case atStart => exact ⟨0, 0, Nat.zero_le _, rfl, rfl, by omega, by omega, fun j hj => absurd hj (Nat.not_lt_zero _), Below.refl _ _⟩
    case round =>
      obtain ⟨k, z, hk, rfl, rfl, hz0, hz1, hsm, hb⟩ := hrel
      by_cases hlt : k < es.length
      · obtain ⟨a', cap', he, hcs⟩ := HR.out wr hb
        obtain ⟨b, off, c0, c1, ha, hFb, hl, ⟨q0, q1⟩, hV0, hV1⟩ := hcs k hlt
        have hae : a = some ⟨b, off, none⟩ := by cases he; exact ha
        subst hae
        obtain ⟨en, hen⟩ : ∃ en, es.getD k noEntry = en := ⟨_, rfl⟩
        rw [hen] at hV0 hV1
        have HEn : Hid (es.getD k noEntry = en) := hen
        have HB : Hid (Below w.heap.size w wr) := hb
        clear hcs he ha hen hb HR
        go_wp2_with fail
        refine (rulesBytes_any F c0 en.rules _ hV0).mono ?_
        rintro e w1 ⟨⟨nr, rfl, g0, g1, g2⟩, hb1⟩
        have q1' : w1.cell? ⟨b, off + k * 2 + 1, none⟩ = some c1 := (hb1.cell (p := ⟨b, off + k * 2 + 1, none⟩) hl).trans q1
        have hV1' := hV1.same (Same.of_below hb1)
        have HB1 : Hid (Below w.heap.size w w1) := HB.out.trans (hb1.mono HB.out.size)
        have G2 : Hid (nr ≤ 1048576 → SmallRs en.rules) := g2
        clear hb1 g2 q0 q1 hV0 hV1
        by_cases h4 : 1048576 < z + (48 + nr)
        · go_wp2_with fail
          go_ret
          exact ⟨⟨_, rfl, by omega, by omega, fun h => by omega⟩, HB1.out⟩
        · have HP : Hid (∀ w', Below w1.heap.size w1 w' → Paths F w' c1 en.paths) := fun w' hb => hV1'.same (Same.of_below hb)
          obtain ⟨pa, pc, rfl, _⟩ := hV1'
          by_cases h5 : 1048576 < (en.paths.length : Int)
          · go_wp2_with fail
            go_ret
            exact ⟨⟨_, rfl, by omega, by omega, fun h => by omega⟩, HB1.out⟩
          · go_wp2_with fail
            obtain ⟨wo, hwo⟩ : ∃ wo : World, wo = wr := ⟨_, rfl⟩
            go_loopw [3, 6] (fun n i wi => ∃ (m : Nat) (y : Int), m ≤ en.paths.length ∧ i = .int .i64 m ∧ n = .int .i64 y ∧ 0 ≤ y ∧ y ≤ 1048576 ∧ Hid (∀ j, j < m → SmallP (en.paths.getD j noPath)) ∧ Below w1.heap.size w1 wi) (fun _ i _ => en.paths.length - (intOf i).toNat)
            case atStart => exact ⟨0, z + (48 + nr), Nat.zero_le _, rfl, rfl, by omega, by omega, fun j hj => absurd hj (Nat.not_lt_zero _), Below.refl _ _⟩
            case round =>
              obtain ⟨m, y, hm, rfl, rfl, hy0, hy1, hsp, hbi⟩ := hrel
              by_cases hltp : m < en.paths.length
              · obtain ⟨pa', pc', hpe, hpcs⟩ := HP.out _ hbi
                obtain ⟨pb, po, d0, d1, hpa, _, hpl, ⟨r0, r1⟩, hU0, hU1⟩ := hpcs m hltp
                have hpae : pa = some ⟨pb, po, none⟩ := by cases hpe; exact hpa
                subst hpae
                obtain ⟨pr, hpr⟩ : ∃ pr, en.paths.getD m noPath = pr := ⟨_, rfl⟩
                rw [hpr] at hU0 hU1
                have HPr : Hid (en.paths.getD m noPath = pr) := hpr
                have HBi : Hid (Below _ w1 _) := hbi
                clear hpcs hpe hpa hpr hbi HP q1'
                go_wp2_with fail
                refine (pathBytes_any F d0 d1 pr _ hU0 hU1).mono ?_
                rintro e w2 ⟨rfl, hb2⟩
                obtain ⟨e0, e1, e2⟩ := pathB_bd pr
                have HB2 : Hid (Below w1.heap.size w1 w2) := HBi.out.trans (hb2.mono HBi.out.size)
                have E2 : Hid (pathB pr ≤ 1048576 → SmallP pr) := e2
                clear hb2 e2 r0 r1 hU0 hU1
                by_cases h6 : 1048576 < y + pathB pr
                · go_wp2_with fail
                  go_ret
                  exact ⟨⟨_, rfl, by omega, by omega, fun h => by omega⟩, HB1.out.trans (HB2.out.mono HB1.out.size)⟩
                · go_wp2_with fail
                  go_roundw
                  case rel =>
                    refine ⟨m + 1, y + pathB pr, by omega, by go_num, rfl, by omega, by omega, fun j hj => ?_, HB2.out⟩
                    rcases Nat.lt_or_ge j m with hjk | hjk
                    · exact hsp.out j hjk
                    · obtain rfl : j = m := by omega
                      rw [HPr.out]; exact E2.out (by omega)
                  case measure => simp [intOf]; omega
              · have HF : Hid (SmallE en) := ⟨G2.out (by omega), by omega, forallP fun j hj => hsp.out j (by omega)⟩
                have HBi : Hid (Below _ w1 _) := hbi
                clear hsp hbi HP q1'
                go_wp2_with fail
                go_roundw
                case rel =>
                  refine ⟨k + 1, y, by omega, by go_num, rfl, by omega, by omega, fun j hj => ?_, HB1.out.trans (HBi.out.mono HB1.out.size)⟩
                  rcases Nat.lt_or_ge j k with hjk | hjk
                  · exact hsm.out j hjk
                  · obtain rfl : j = k := by omega
                    rw [HEn.out]; exact HF.out
                case measure => simp [intOf]; omega
      · have HF : Hid (SmallEs es) := ⟨by omega, forallE fun j hj => hsm.out j (by omega)⟩
        have HB : Hid (Below w.heap.size w wr) := hb
        clear hsm hb HR
        go_wp2_with fail
        go_ret
        exact ⟨⟨_, rfl, by omega, by omega, fun _ => HF.out⟩, HB.out⟩
end Go.Proofs.Qxb6606306aRR
