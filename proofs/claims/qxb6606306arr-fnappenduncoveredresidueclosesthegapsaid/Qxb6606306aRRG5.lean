/- entriesCost. -/
import Derived.Test.Qxb6606306aRRWork
namespace Go.Proofs.Qxb6606306aRR
open Go.RowKit

theorem getE_mem (rs : List EntryD) (i : Nat) (h : i < rs.length) : rs.getD i noEntry ∈ rs := by
  rw [List.getD_eq_getElem?_getD, List.getElem?_eq_getElem h]; exact List.getElem_mem h
theorem getP_mem (rs : List PathD) (i : Nat) (h : i < rs.length) : rs.getD i noPath ∈ rs := by
  rw [List.getD_eq_getElem?_getD, List.getElem?_eq_getElem h]; exact List.getElem_mem h

/-- What entriesCost's answer says. -/
def CostSaid (es : List EntryD) (t : Int) : Prop := 0 ≤ t ∧ t ≤ 300000000 ∧ (t ≤ 67108864 → (workEs es es.length : Int) ≤ t)

set_option maxHeartbeats 4000000 in
theorem entriesCost_any (F : Nat → Prop) (v : Value) (es : List EntryD) (w : World) (h : Entries F w v es) (hs : SmallEs es) :
    Calls Try.prog 13 #[v] w fun e w' => RetInt (CostSaid es) e ∧ Below w.heap.size w w' := by
  have HR : Hid (∀ w', Below w.heap.size w w' → Entries F w' v es) := fun w' hb => h.same (Same.of_below hb)
  have HS : Hid (∀ e ∈ es, SmallE e) := hs.2
  have hs1 := hs.1
  obtain ⟨a, cap, rfl, _⟩ := h
  clear hs
  go_enter Try.func13, Try.ntmps13
  go_wp2_with fail
  go_loopw [3, 4] (fun n i wr => ∃ (k : Nat) (z : Int), k ≤ es.length ∧ i = .int .i64 k ∧ n = .int .i64 z ∧ 0 ≤ z ∧ z ≤ 67108864 + k ∧ Hid ((workEs es k : Int) ≤ z) ∧ Below w.heap.size w wr) (fun _ i _ => es.length - (intOf i).toNat)
  case atStart => exact ⟨0, 0, Nat.zero_le _, rfl, rfl, by omega, by omega, Int.le_refl _, Below.refl _ _⟩
  case round =>
    obtain ⟨k, z, hk, rfl, rfl, hz0, hz1, hwk, hb⟩ := hrel
    by_cases hlt : k < es.length
    · obtain ⟨a', cap', he, hcs⟩ := HR.out wr hb
      obtain ⟨b, off, c0, c1, ha, hFb, hl, ⟨q0, q1⟩, hV0, hV1⟩ := hcs k hlt
      have hae : a = some ⟨b, off, none⟩ := by cases he; exact ha
      subst hae
      obtain ⟨en, hen⟩ : ∃ en, es.getD k noEntry = en := ⟨_, rfl⟩
      rw [hen] at hV0 hV1
      have HSe : Hid (SmallE en) := hen ▸ HS.out _ (getE_mem es k hlt)
      have hlr : en.rules.length ≤ 1048576 := HSe.out.1.1
      have hlp : en.paths.length ≤ 1048576 := HSe.out.2.1
      have HW1 : Hid ((workEs es (k + 1) : Int) = workEs es k + workE en) := by
        show ((workEs es k + workE (es.getD k noEntry) : Nat) : Int) = _
        rw [hen]; omega
      have HB : Hid (Below w.heap.size w wr) := hb
      have HRu : Hid (∀ w', Below wr.heap.size wr w' → Rules F w' c0 en.rules) := fun w' hb => hV0.same (Same.of_below hb)
      have HPu : Hid (∀ w', Below wr.heap.size wr w' → Paths F w' c1 en.paths) := fun w' hb => hV1.same (Same.of_below hb)
      have HQ : Hid (∀ w', Below wr.heap.size wr w' → w'.cell? ⟨b, off + k * 2 + 1, none⟩ = some c1) := fun w' hb => (hb.cell (p := ⟨b, off + k * 2 + 1, none⟩) hl).trans q1
      obtain ⟨ra, rc, rfl, _⟩ := hV0
      obtain ⟨pa, pc, rfl, _⟩ := hV1
      clear hcs he ha hen hb HR q1
      go_wp2_with fail
      obtain ⟨wo, rfl⟩ : ∃ wo : World, wo = wr := ⟨_, rfl⟩
      go_loopw [3, 6] (fun n i wi => ∃ (m : Nat) (y : Int), m ≤ en.rules.length ∧ i = .int .i64 m ∧ n = .int .i64 y ∧ 0 ≤ y ∧ y ≤ 67108864 + k + 1 ∧ Hid ((workEs es k : Int) + workRs en.rules m ≤ y) ∧ Below wo.heap.size wo wi) (fun _ i _ => en.rules.length - (intOf i).toNat)
      case atStart => exact ⟨0, z + 1, Nat.zero_le _, rfl, rfl, by omega, by omega, by have := hwk.out; show _ + ((0 : Nat) : Int) ≤ _; omega, Below.refl _ _⟩
      case round =>
        obtain ⟨m, y, hm, rfl, rfl, hy0, hy1, hwy, hbi⟩ := hrel
        by_cases hltr : m < en.rules.length
        · obtain ⟨ra', rc', hre, hrcs⟩ := HRu.out _ hbi
          obtain ⟨rb, ro, d0, d1, d2, d3, d4, hra, _, hrl, ⟨r0, r1, r2, r3, r4, r5⟩, hV⟩ := hrcs m hltr
          have hrae : ra = some ⟨rb, ro, none⟩ := by cases hre; exact hra
          subst hrae
          obtain ⟨r, hr⟩ : ∃ r, en.rules.getD m noRule = r := ⟨_, rfl⟩
          rw [hr] at r5 hV
          have hsr : SmallR r := hr ▸ HSe.out.1.2 _ (getR_mem en.rules m hltr)
          have HW2 : Hid ((workRs en.rules (m + 1) : Int) = workRs en.rules m + workR r) := by
            show ((workRs en.rules m + workR (en.rules.getD m noRule) : Nat) : Int) = _
            rw [hr]; omega
          have HBi : Hid (Below wo.heap.size wo wr) := hbi
          clear hrcs hre hra hr hbi HRu HPu HQ
          go_wp2_with fail
          refine (ruleCost_any F d0 d1 d2 d3 d4 r _ hV hsr).mono ?_
          rintro e w1 ⟨rfl, hb1⟩
          have HB1 : Hid (Below wo.heap.size wo w1) := HBi.out.trans (hb1.mono HBi.out.size)
          obtain ⟨g0, g1⟩ := costR_bd r hsr
          have G2 : Hid (costR r ≤ 67108864 → (workR r : Int) ≤ costR r) := workR_le r hsr
          clear hb1 r0 r1 r2 r3 r4 r5 hV hsr
          by_cases h4 : 67108864 < y + costR r
          · go_wp2_with fail
            go_ret
            exact ⟨⟨_, rfl, by omega, by omega, fun h => by omega⟩, HB.out.trans (HB1.out.mono HB.out.size)⟩
          · go_wp2_with fail
            go_roundw
            case rel => exact ⟨m + 1, y + costR r, by omega, by go_num, rfl, by omega, by omega, by have h1 := hwy.out; have h2 := HW2.out; have h3 := G2.out (by omega); show _ ≤ _; omega, HB1.out⟩
            case measure => simp [intOf]; omega
        · obtain rfl : m = en.rules.length := by omega
          have HBi : Hid (Below wo.heap.size wo wr) := hbi
          have q1 := HQ.out _ hbi
          have HPv : Hid (∀ w', Below wr.heap.size wr w' → Paths F w' (.slice pa en.paths.length pc) en.paths) := fun w' hb => HPu.out w' (hbi.trans (hb.mono hbi.size))
          clear hbi hltr HRu HPu HQ
          go_wp2_with fail
          obtain ⟨w1, rfl⟩ : ∃ w1 : World, w1 = wr := ⟨_, rfl⟩
          go_loopw [3, 8] (fun n i wi => ∃ (m : Nat) (x : Int), m ≤ en.paths.length ∧ i = .int .i64 m ∧ n = .int .i64 x ∧ 0 ≤ x ∧ x ≤ 67108864 + k + 1 ∧ Hid ((workEs es k : Int) + workRs en.rules en.rules.length + workPs en.paths m ≤ x) ∧ Below w1.heap.size w1 wi) (fun _ i _ => en.paths.length - (intOf i).toNat)
          case atStart => exact ⟨0, y, Nat.zero_le _, rfl, rfl, by omega, by omega, by have := hwy.out; show _ + ((0 : Nat) : Int) ≤ _; omega, Below.refl _ _⟩
          case round =>
            obtain ⟨j, x, hj, rfl, rfl, hx0, hx1, hwx, hbj⟩ := hrel
            by_cases hltp : j < en.paths.length
            · obtain ⟨pa', pc', hpe, hpcs⟩ := HPv.out _ hbj
              obtain ⟨pb, po, d0, d1, hpa, _, hpl, ⟨r0, r1⟩, hU0, hU1⟩ := hpcs j hltp
              have hpae : pa = some ⟨pb, po, none⟩ := by cases hpe; exact hpa
              subst hpae
              obtain ⟨pr, hpr⟩ : ∃ pr, en.paths.getD j noPath = pr := ⟨_, rfl⟩
              rw [hpr] at hU0 hU1
              have HW3 : Hid ((workPs en.paths (j + 1) : Int) = workPs en.paths j + workP pr) := by
                show ((workPs en.paths j + workP (en.paths.getD j noPath) : Nat) : Int) = _
                rw [hpr]; omega
              obtain ⟨v0, vc0, rfl, _, _⟩ := hU0
              obtain ⟨v1, vc1, rfl, _, _⟩ := hU1
              have hsp : SmallP pr := hpr ▸ HSe.out.2.2 _ (getP_mem en.paths j hltp)
              have hu1 := hsp.2.1
              have HBj : Hid (Below w1.heap.size w1 wr) := hbj
              obtain ⟨g0, g1, _, _⟩ := mulC_bd pr.verbs.length (1 + pr.urls.length) (nat0 _) (by omega)
              have G2 : Hid (mulC pr.verbs.length (1 + pr.urls.length) ≤ 67108864 → (workP pr : Int) = mulC pr.verbs.length (1 + pr.urls.length)) := workP_le pr
              clear hpcs hpe hpa hpr hbj HPv q1 hsp
              go_wp2_with fail
              go_quiet ((go_at_call 29; exact Calls.quiet_of_same (mulCap_any _ _ _ (nat0 _) (by omega))))
              by_cases h4 : 67108864 < x + mulC pr.verbs.length (1 + pr.urls.length)
              · go_wp2_with fail
                go_ret
                exact ⟨⟨_, rfl, by omega, by omega, fun h => by omega⟩, below_drewN (HB.out.trans ((HBi.out.trans (HBj.out.mono HBi.out.size)).mono HB.out.size)) _⟩
              · go_wp2_with fail
                go_roundw
                case rel => exact ⟨j + 1, x + mulC pr.verbs.length (1 + pr.urls.length), by omega, by go_num, rfl, by omega, by omega, by have h1 := hwx.out; have h2 := HW3.out; have h3 := G2.out (by omega); show _ ≤ _; omega, below_drewN HBj.out _⟩
                case measure => simp [intOf]; omega
            · obtain rfl : j = en.paths.length := by omega
              have HBj : Hid (Below w1.heap.size w1 wr) := hbj
              have HWE : Hid ((workEs es (k + 1) : Int) ≤ x) := by
                have h1 := HW1.out
                have h2 := hwx.out
                show _ ≤ _
                unfold workE at h1
                omega
              clear hbj hltp HPv q1
              go_wp2_with fail
              go_roundw
              case rel => exact ⟨k + 1, x, by omega, by go_num, rfl, by omega, by omega, HWE, HB.out.trans ((HBi.out.trans (HBj.out.mono HBi.out.size)).mono HB.out.size)⟩
              case measure => simp [intOf]; omega
    · obtain rfl : k = es.length := by omega
      have HB : Hid (Below w.heap.size w wr) := hb
      clear hb HR hlt
      go_wp2_with fail
      go_ret
      exact ⟨⟨_, rfl, by omega, by omega, fun _ => hwk.out⟩, HB.out⟩
end Go.Proofs.Qxb6606306aRR
