/- The law, walked; the guard zzBytes by a contract that is handed in. -/
import Derived.Test.Qxb6606306aRRL1
import Derived.Test.Qxb6606306aRRG6
namespace Go.Proofs.Qxb6606306aRR
open Go.RowKit Go.Maps
def SomeBool (e : Ending) : Prop := ∃ b, e = .returned (.bool b)
theorem box26 (w : World) (c0 c1 c2 c3 c4 c5 : Value) (W : World) (hW : w.alloc (.cells #[c0, c1, c2, c3, c4, c5] 26) = W) : (W.cell? ⟨w.heap.size, 0, none⟩ = some c0 ∧ W.cell? ⟨w.heap.size, 1, none⟩ = some c1 ∧ W.cell? ⟨w.heap.size, 2, none⟩ = some c2 ∧ W.cell? ⟨w.heap.size, 3, none⟩ = some c3 ∧ W.cell? ⟨w.heap.size, 4, none⟩ = some c4 ∧ W.cell? ⟨w.heap.size, 5, none⟩ = some c5) ∧ Blk W w.heap.size 26 6 ∧ Below w.heap.size w W := by
  subst hW
  refine ⟨⟨?_, ?_, ?_, ?_, ?_, ?_⟩, ⟨_, heap_alloc_new w _, rfl⟩, (Below.refl _ _).alloc (Nat.le_refl _) _⟩
  all_goals go_simp
theorem Entries.mono {F G : Nat → Prop} {w : World} {v : Value} {es : List EntryD} (h : Entries F w v es) (hG : ∀ b, b < w.heap.size → F b → G b) : Entries G w v es := by
  obtain ⟨a, cap, rfl, hc⟩ := h
  refine ⟨a, cap, rfl, fun i hi => ?_⟩
  obtain ⟨b, off, c0, c1, ha, hF, hl, hcell, hr0, hr1⟩ := hc i hi
  exact ⟨b, off, c0, c1, ha, hG b hl hF, hl, hcell, hr0.mono hG, hr1.mono hG⟩
theorem costs {r : RuleD} {t : Int} (hs : SmallR r) (ht : 0 ≤ t) (h : appC r + t ≤ 67108864) : workR r ≤ 67108864 ∧ tri r ≤ 67108864 ∧ t ≤ 67108864 ∧ triC r = (tri r : Int) := by
  have h0 := costR_bd r hs
  have hm := maxL_bd r.resources hs.2.2.1
  have h1 := mulC_bd (triC r) (1 + r.names.length) (triC_nonneg r) (by omega)
  have h2 := mulC_bd (maxGo r.resources 0 + 1) (maxGo r.resources 0 + 1) (by omega) (by omega)
  have h3 := mulC_bd (mulC (triC r) (1 + r.names.length)) (mulC (maxGo r.resources 0 + 1) (maxGo r.resources 0 + 1)) h1.1 h2.1
  unfold appC at h
  have hc : costR r ≤ 67108864 := by have := h3.1; omega
  have hw := workR_le r hs hc
  have htr : tri r ≤ workR r := by
    unfold workR
    have := Nat.mul_le_mul_left (tri r) (show 1 ≤ 1 + r.names.length by omega)
    rwa [Nat.mul_one] at this
  refine ⟨by omega, by omega, by have := h3.1; omega, triC_of r (by omega)⟩
theorem bears_of {es : List EntryD} (hs : SmallEs es) (hw : workEs es es.length ≤ 67108864) : Bears es := by
  refine ⟨by have := hs.1; omega, fun e he => ?_, hw⟩
  obtain ⟨h1, h2, h3⟩ := hs.2 e he
  refine ⟨by have := h1.1; omega, fun r hr => ?_, by omega, fun p hp => ?_⟩
  · obtain ⟨k1, k2, k3, k4, _⟩ := h1.2 r hr
    exact ⟨by have := k1.1; omega, by have := k2.1; omega, by have := k3.1; omega, by have := k4.1; omega⟩
  · obtain ⟨k1, k2⟩ := h3 p hp
    exact ⟨by have := k1.1; omega, by have := k2.1; omega⟩
theorem law_store (w W w5 w6 W6 : World) (r : RuleD) (d0 d1 d2 d3 d4 : Value) (hk : Blk W w.heap.size 26 6) (hBW : Below w.heap.size w W) (hb5 : Below W.heap.size W w5) (hb6 : Below w5.heap.size w5 w6) (hv : RuleV (New w5) w6 d0 d1 d2 d3 d4 r)
    (hW6 : (((((w6.setCell ⟨w.heap.size, 0, none⟩ d0).setCell ⟨w.heap.size, 1, none⟩ d1).setCell ⟨w.heap.size, 2, none⟩ d2).setCell ⟨w.heap.size, 3, none⟩ d3).setCell ⟨w.heap.size, 4, none⟩ d4).setCell ⟨w.heap.size, 5, none⟩ (.bool r.any) = W6) :
    (W6.cell? ⟨w.heap.size, 0, none⟩ = some d0 ∧ W6.cell? ⟨w.heap.size, 1, none⟩ = some d1 ∧ W6.cell? ⟨w.heap.size, 2, none⟩ = some d2 ∧ W6.cell? ⟨w.heap.size, 3, none⟩ = some d3 ∧ W6.cell? ⟨w.heap.size, 4, none⟩ = some d4 ∧ W6.cell? ⟨w.heap.size, 5, none⟩ = some (.bool r.any)) ∧ RuleV (New w5) W6 d0 d1 d2 d3 d4 r ∧ Below w.heap.size w W6 := by
  have hlt := hk.lt
  have h5 := hb5.size
  have hk6 : Blk w6 w.heap.size 26 6 := (hk.same (F := Any) trivial (Same.of_below hb5)).same (F := Any) trivial (Same.of_below hb6)
  have e : w6.setCells w.heap.size 0 [d0, d1, d2, d3, d4, .bool r.any] = W6 := hW6
  have ec := fun j hj => sets_at hk6 0 [d0, d1, d2, d3, d4, .bool r.any] (by simp) j hj
  rw [e] at ec
  have hs : Same (fun b => b ≠ w.heap.size) w6 W6 := by rw [← e]; exact Same.sets w6 w.heap.size _ _
  have hb : Below w.heap.size w w6 := hBW.trans ((hb5.mono (by omega)).trans (hb6.mono (by omega)))
  refine ⟨⟨ec 0 (by simp), ec 1 (by simp), ec 2 (by simp), ec 3 (by simp), ec 4 (by simp), ec 5 (by simp)⟩, hv.same (hs.mono (fun b hb => by unfold New at hb; omega)), ?_⟩
  rw [← e]
  exact below_sets (Nat.le_refl _) _ hb _
theorem scopes_one (w : World) (d : CovD) (h : d.at w) (W : World) (t : TypeId) (hW : w.alloc (.cells #[.pointer (some ⟨d.c, 0, none⟩)] t) = W) : Scopes W (.slice (some ⟨w.heap.size, 0, none⟩) 1 1) [d] ∧ Below w.heap.size w W := by
  subst hW
  have hb : Below w.heap.size w (w.alloc (.cells #[.pointer (some ⟨d.c, 0, none⟩)] t)) := (Below.refl _ _).alloc (Nat.le_refl _) _
  refine ⟨⟨_, _, rfl, fun i d' hi => ?_⟩, hb⟩
  have : i = 0 := by have := (List.getElem?_eq_some_iff.1 hi).1; simp at this; omega
  subst this
  obtain rfl : d = d' := by simpa using hi
  exact ⟨⟨w.heap.size, 0, rfl, by go_simp⟩, CovAt.below h (cell_lt h.cell) hb⟩
theorem scopes_two (w : World) (d e : CovD) (h : d.at w) (h' : e.at w) (W : World) (t : TypeId) (hW : w.alloc (.cells #[.pointer (some ⟨d.c, 0, none⟩), .pointer (some ⟨e.c, 0, none⟩)] t) = W) : Scopes W (.slice (some ⟨w.heap.size, 0, none⟩) 2 2) [d, e] ∧ Below w.heap.size w W := by
  subst hW
  have hb : Below w.heap.size w (w.alloc (.cells #[.pointer (some ⟨d.c, 0, none⟩), .pointer (some ⟨e.c, 0, none⟩)] t)) := (Below.refl _ _).alloc (Nat.le_refl _) _
  refine ⟨⟨_, _, rfl, fun i d' hi => ?_⟩, hb⟩
  have hlt := (List.getElem?_eq_some_iff.1 hi).1
  simp at hlt
  rcases (by omega : i = 0 ∨ i = 1) with rfl | rfl
  · obtain rfl : d = d' := by simpa using hi
    exact ⟨⟨w.heap.size, 0, rfl, by go_simp⟩, CovAt.below h (cell_lt h.cell) hb⟩
  · obtain rfl : e = d' := by simpa using hi
    exact ⟨⟨w.heap.size, 0, rfl, by go_simp⟩, CovAt.below h' (cell_lt h'.cell) hb⟩
theorem subs_one (w : World) (v : Value) (rs : List RuleD) (h : Rules Any w v rs) (x0 x1 x2 x3 x4 : Value) (W : World) (hW : (w.alloc (.cells #[x0, x1, x2, x3, x4, v, .slice none 0 0] 50)).alloc (.cells #[.pointer (some ⟨w.heap.size, 0, none⟩)] 47) = W) : Subs Any W (.slice (some ⟨w.heap.size + 1, 0, none⟩) 1 1) [⟨rs, []⟩] ∧ Below w.heap.size w W := by
  subst hW
  have hb : Below w.heap.size w ((w.alloc (.cells #[x0, x1, x2, x3, x4, v, .slice none 0 0] 50)).alloc (.cells #[.pointer (some ⟨w.heap.size, 0, none⟩)] 47)) := ((Below.refl _ _).alloc (Nat.le_refl _) _).alloc (by simp) _
  refine ⟨⟨_, _, rfl, fun i hi => ?_⟩, hb⟩
  have : i = 0 := by simp at hi; omega
  subst this
  refine ⟨w.heap.size + 1, 0, w.heap.size, rfl, trivial, by simp, by go_simp, trivial, by simp; omega, v, .slice none 0 0, ⟨by go_simp, by go_simp⟩, h.same (Same.of_below hb), none, 0, rfl, fun j hj => absurd hj (Nat.not_lt_zero _)⟩
set_option maxRecDepth 8000 in
set_option maxHeartbeats 4000000 in
theorem law_any (F : Nat → Prop) (c0 c1 c2 c3 c4 sv : Value) (r : RuleD) (es : List EntryD) (w : World) (hV : RuleV F w c0 c1 c2 c3 c4 r) (hE : Entries F w sv es)
    (hzz : ∀ W, Below w.heap.size w W → Calls Try.prog 9 #[.agg #[c0, c1, c2, c3, c4, .bool r.any], sv] W fun e w' => SomeBool e ∧ Below W.heap.size W w') :
    Calls Try.prog 4 #[.agg #[c0, c1, c2, c3, c4, .bool r.any], sv] w fun e w' => e = .returned (.bool true) ∧ Below w.heap.size w w' := by
  have HV : Hid (∀ w', Below w.heap.size w w' → RuleV F w' c0 c1 c2 c3 c4 r) := fun w' hb => hV.same (Same.of_below hb)
  have HE : Hid (∀ w', Below w.heap.size w w' → Entries F w' sv es) := fun w' hb => hE.same (Same.of_below hb)
  have HE0 := hidden hE
  have HZZ := hidden hzz
  obtain ⟨W, hW⟩ : ∃ W, w.alloc (.cells #[c0, c1, c2, c3, c4, .bool r.any] 26) = W := ⟨_, rfl⟩
  obtain ⟨⟨x0, x1, x2, x3, x4, x5⟩, hfz, hBW⟩ := box26 w _ _ _ _ _ _ W hW
  have HX : Hid (∀ w', Below W.heap.size W w' → w'.cell? ⟨w.heap.size, 0, none⟩ = some c0 ∧ w'.cell? ⟨w.heap.size, 1, none⟩ = some c1 ∧ w'.cell? ⟨w.heap.size, 2, none⟩ = some c2 ∧ w'.cell? ⟨w.heap.size, 3, none⟩ = some c3 ∧ w'.cell? ⟨w.heap.size, 4, none⟩ = some c4 ∧ w'.cell? ⟨w.heap.size, 5, none⟩ = some (.bool r.any)) := fun w' hb => by
    have e : ∀ j, w'.cell? ⟨w.heap.size, j, none⟩ = W.cell? ⟨w.heap.size, j, none⟩ := fun j => hb.cell (p := ⟨w.heap.size, j, none⟩) (cell_lt x0)
    exact ⟨(e _).trans x0, (e _).trans x1, (e _).trans x2, (e _).trans x3, (e _).trans x4, (e _).trans x5⟩
  have HFZ := hidden hfz
  have HBW := hidden hBW
  have HW := hidden hW
  have hlt : w.heap.size < W.heap.size := cell_lt x0
  obtain ⟨a0, p0, rfl, _, _⟩ := hV.verbs
  obtain ⟨a1, p1, rfl, _, _⟩ := hV.groups
  obtain ⟨a2, p2, rfl, _, _⟩ := hV.resources
  obtain ⟨a3, p3, rfl, _, _⟩ := hV.names
  obtain ⟨a4, p4, rfl, _, _⟩ := hV.bys
  obtain ⟨sa, scap, rfl, _⟩ := hE
  have HUP : Hid (∀ w', Below W.heap.size W w' → Below w.heap.size w w') := fun w' hb => hBW.trans (hb.mono hBW.size)
  clear hV hzz hW hfz hBW x0 x1 x2 x3 x4 x5
  go_enter Try.func4, Try.ntmps4
  go_wp2_with fail
  rw [HW.out]
  refine (HZZ.out W HBW.out).mono ?_
  rintro e w1 ⟨⟨q, rfl⟩, hb1⟩
  cases q with
  | false =>
    go_wp2_with fail
    go_ret
    exact ⟨rfl, HUP.out _ hb1⟩
  | true =>
    have HB1 := hidden hb1
    obtain ⟨x0, x1, x2, x3, x4, x5⟩ := HX.out w1 hb1
    clear hb1 HZZ
    go_wp2_with fail
    refine (ruleBytes_any F _ _ _ _ _ r w1 (HV.out _ (HUP.out _ HB1.out))).mono ?_
    rintro e w2 ⟨rfl, hb2⟩
    have HB2 := hidden (HB1.out.trans (hb2.mono HB1.out.size))
    clear hb2 HB1 x0 x1 x2 x3 x4 x5
    go_wp2_with fail
    refine (entriesBytes_any F _ es w2 (HE.out _ (HUP.out _ HB2.out))).mono ?_
    rintro e w3 ⟨⟨m, rfl, hm0, hm1, hm2⟩, hb3⟩
    have HB3 := hidden (HB2.out.trans (hb3.mono HB2.out.size))
    clear hb3 HB2
    obtain ⟨n, hn⟩ : ∃ n, ruleB r = n := ⟨_, rfl⟩
    have hnb := ruleB_bd r
    rw [hn] at hnb ⊢
    obtain ⟨hn0, hn1, hn2⟩ := hnb
    have hwr := wrap_id (n + m) (by omega) (by omega)
    clear hn
    by_cases hbig : 1048576 < n + m
    · go_wp2_with fail
      go_ret
      exact ⟨rfl, HUP.out _ HB3.out⟩
    · have hSr : SmallR r := hn2 (by omega)
      have hSe : SmallEs es := hm2 (by omega)
      have HSR := hidden hSr
      have HSE := hidden hSe
      obtain ⟨x0, x1, x2, x3, x4, x5⟩ := HX.out w3 HB3.out
      clear hm2 hn2 hSr hSe
      go_wp2_with fail
      refine (appendCost_any F _ _ _ _ _ r w3 (HV.out _ (HUP.out _ HB3.out)) HSR.out).mono ?_
      rintro e w4 ⟨rfl, hb4⟩
      have HB4 := hidden (HB3.out.trans (hb4.mono HB3.out.size))
      clear hb4 HB3 x0 x1 x2 x3 x4 x5 hwr hm0 hm1 hn0 hn1 hbig
      go_wp2_with fail
      refine (entriesCost_any F _ es w4 (HE.out _ (HUP.out _ HB4.out)) HSE.out).mono ?_
      rintro e w5 ⟨⟨t, rfl, ht0, ht1, ht2⟩, hb5⟩
      have HB5 := hidden (HB4.out.trans (hb5.mono HB4.out.size))
      clear hb5 HB4
      obtain ⟨ac, hac⟩ : ∃ n, appC r = n := ⟨_, rfl⟩
      have hacb : 0 ≤ ac ∧ ac ≤ 300000000 := by
        have h0 := costR_bd r HSR.out
        have hmx := maxL_bd r.resources HSR.out.2.2.1
        have h1 := mulC_bd (triC r) (1 + r.names.length) (triC_nonneg r) (by omega)
        have h2 := mulC_bd (maxGo r.resources 0 + 1) (maxGo r.resources 0 + 1) (by omega) (by omega)
        have h3 := mulC_bd (mulC (triC r) (1 + r.names.length)) (mulC (maxGo r.resources 0 + 1) (maxGo r.resources 0 + 1)) h1.1 h2.1
        unfold appC at hac
        have := h3.1
        have := h3.2.1
        omega
      have HAC := hidden hac
      rw [hac]
      have hwr := wrap_id (ac + t) (by omega) (by omega)
      clear hac
      by_cases hbig : 67108864 < ac + t
      · go_wp2_with fail
        go_ret
        exact ⟨rfl, HUP.out _ HB5.out⟩
      · obtain ⟨hwk, htri, htl, htc⟩ := costs HSR.out ht0 (by rw [HAC.out]; omega : appC r + t ≤ 67108864)
        have HBE := hidden (bears_of HSE.out (by have := ht2 htl; omega))
        have HTC := hidden htc
        obtain ⟨x0, x1, x2, x3, x4, x5⟩ := HX.out w5 HB5.out
        clear ht2 htc ht0 ht1 htl hacb
        go_wp2_with fail
        refine (cloneRule_any F _ _ _ _ _ r w5 (HV.out _ (HUP.out _ HB5.out)) HSR.out).mono ?_
        rintro e w6 ⟨⟨d0, d1, d2, d3, d4, rfl, hVd⟩, hb6⟩
        have HVd := hidden hVd
        have hb6' := HB5.out.trans (hb6.mono HB5.out.size)
        clear x0 x1 x2 x3 x4 x5
        obtain ⟨x0, x1, x2, x3, x4, x5⟩ := HX.out w6 hb6'
        have f := (HFZ.out.same (F := Any) trivial (Same.of_below hb6')).frozen
        obtain ⟨b0, q0, rfl, _, _⟩ := hVd.verbs
        obtain ⟨b1, q1, rfl, _, _⟩ := hVd.groups
        obtain ⟨b2, q2, rfl, _, _⟩ := hVd.resources
        obtain ⟨b3, q3, rfl, _, _⟩ := hVd.names
        obtain ⟨b4, q4, rfl, _, _⟩ := hVd.bys
        obtain ⟨W6, hW6⟩ : ∃ W6, (((((w6.setCell ⟨w.heap.size, 0, none⟩ (.slice b0 r.verbs.length q0)).setCell ⟨w.heap.size, 1, none⟩ (.slice b1 r.groups.length q1)).setCell ⟨w.heap.size, 2, none⟩ (.slice b2 r.resources.length q2)).setCell ⟨w.heap.size, 3, none⟩ (.slice b3 r.names.length q3)).setCell ⟨w.heap.size, 4, none⟩ (.slice b4 r.bys.length q4)).setCell ⟨w.heap.size, 5, none⟩ (.bool r.any) = W6 := ⟨_, rfl⟩
        obtain ⟨hcz, hV6, hb6w⟩ := law_store w W w5 w6 W6 r _ _ _ _ _ HFZ.out HBW.out HB5.out hb6 HVd.out hW6
        have HW6 := hidden hW6
        have HV6 := hidden hV6
        have HCZ := hidden hcz
        have HB6 := hidden hb6w
        clear hVd hb6 hb6' hW6 hV6 hcz hb6w HVd
        go_wp2_with fail
        rw [HW6.out]
        refine (cloneEntries_any F _ es W6 (HE.out _ HB6.out) HSE.out).mono ?_
        rintro e w7 ⟨⟨ev, rfl, hE7⟩, hb7⟩
        have HE7 := hidden hE7
        obtain ⟨ea, ecap, rfl, _⟩ := hE7
        have HCZ7 : Hid (∀ w', Below W6.heap.size W6 w' → (w'.cell? ⟨w.heap.size, 0, none⟩ = some (.slice b0 r.verbs.length q0) ∧ w'.cell? ⟨w.heap.size, 1, none⟩ = some (.slice b1 r.groups.length q1) ∧ w'.cell? ⟨w.heap.size, 2, none⟩ = some (.slice b2 r.resources.length q2) ∧ w'.cell? ⟨w.heap.size, 3, none⟩ = some (.slice b3 r.names.length q3) ∧ w'.cell? ⟨w.heap.size, 4, none⟩ = some (.slice b4 r.bys.length q4) ∧ w'.cell? ⟨w.heap.size, 5, none⟩ = some (.bool r.any)) ∧ RuleV (New w5) w' (.slice b0 r.verbs.length q0) (.slice b1 r.groups.length q1) (.slice b2 r.resources.length q2) (.slice b3 r.names.length q3) (.slice b4 r.bys.length q4) r) := fun w' hb => by
          have e : ∀ j, w'.cell? ⟨w.heap.size, j, none⟩ = W6.cell? ⟨w.heap.size, j, none⟩ := fun j => hb.cell (p := ⟨w.heap.size, j, none⟩) (cell_lt HCZ.out.1)
          obtain ⟨k0, k1, k2, k3, k4, k5⟩ := HCZ.out
          exact ⟨⟨(e _).trans k0, (e _).trans k1, (e _).trans k2, (e _).trans k3, (e _).trans k4, (e _).trans k5⟩, HV6.out.same (Same.of_below hb)⟩
        have HU6 : Hid (∀ w', Below W6.heap.size W6 w' → Below w.heap.size w w') := fun w' hb => HB6.out.trans (hb.mono HB6.out.size)
        have HB7 := hidden hb7
        obtain ⟨⟨k0, k1, k2, k3, k4, k5⟩, hV7⟩ := HCZ7.out w7 hb7
        have HV7 := hidden hV7
        clear hb7 hV7 HW6 x0 x1 x2 x3 x4 x5 f hwr hbig HCZ HV6 HX HV HE HE0
        go_wp2_with fail
        refine (toRR_any (New w5) _ _ _ _ _ r w7 HV7.out).mono ?_
        rintro e w8 ⟨rfl, hb8⟩
        have HB8 := hidden (HB7.out.trans (hb8.mono HB7.out.size))
        have HE8 := hidden (Entries.same (F := New W6) HE7.out (Same.of_below hb8))
        clear hb8 HE7 HV7 k0 k1 k2 k3 k4 k5
        go_wp2_with fail
        obtain ⟨W8, hW8⟩ : ∃ W8, w8.alloc (.cells #[.slice b0 r.verbs.length q0, .slice b1 r.groups.length q1, .slice b2 r.resources.length q2, .slice b3 r.names.length q3, .slice b4 r.bys.length q4, .bool r.any] 41) = W8 := ⟨_, rfl⟩
        obtain ⟨hz8, hbW8⟩ := box41 w8 _ _ _ _ _ _ W8 hW8
        rw [hW8]
        have HZ8 : Hid (∀ w', Below W8.heap.size W8 w' → w'.cell? ⟨w8.heap.size, 0, none⟩ = some (.slice b0 r.verbs.length q0) ∧ w'.cell? ⟨w8.heap.size, 1, none⟩ = some (.slice b1 r.groups.length q1) ∧ w'.cell? ⟨w8.heap.size, 2, none⟩ = some (.slice b2 r.resources.length q2) ∧ w'.cell? ⟨w8.heap.size, 3, none⟩ = some (.slice b3 r.names.length q3) ∧ w'.cell? ⟨w8.heap.size, 4, none⟩ = some (.slice b4 r.bys.length q4) ∧ w'.cell? ⟨w8.heap.size, 5, none⟩ = some (.bool r.any)) := fun w' hb => by
          have e : ∀ j, w'.cell? ⟨w8.heap.size, j, none⟩ = W8.cell? ⟨w8.heap.size, j, none⟩ := fun j => hb.cell (p := ⟨w8.heap.size, j, none⟩) (cell_lt hz8.1)
          obtain ⟨k0, k1, k2, k3, k4, k5⟩ := hz8
          exact ⟨(e _).trans k0, (e _).trans k1, (e _).trans k2, (e _).trans k3, (e _).trans k4, (e _).trans k5⟩
        have HU8 : Hid (∀ w', Below W8.heap.size W8 w' → Below W6.heap.size W6 w') := fun w' hb => HB8.out.trans ((hbW8.trans (hb.mono hbW8.size)).mono HB8.out.size)
        have HBLD := hidden (build_any (New W6) _ es W8 (Entries.same (F := New W6) HE8.out (Same.of_below hbW8)) HSE.out HBE.out)
        obtain ⟨B2, hB2⟩ : ∃ b, w8.heap.size = b := ⟨_, rfl⟩
        rw [hB2] at HZ8 ⊢
        clear hW8 hz8 hbW8 HE8 HB7 HB8 hB2
        go_wp2_with fail
        refine HBLD.out.mono ?_
        rintro e w9 ⟨dd, rfl, hd9, _, hb9⟩
        have HD9 := hidden hd9
        have HB9 := hidden hb9
        obtain ⟨k0, k1, k2, k3, k4, k5⟩ := HZ8.out w9 hb9
        have hkb : ∀ j o v, w9.cell? ⟨B2, j, none⟩ = some v → (w9.alloc o).cell? ⟨B2, j, none⟩ = some v := fun j o v h => (((Below.refl w9.heap.size w9).alloc (Nat.le_refl _) o).cell (p := ⟨B2, j, none⟩) (cell_lt h)).trans h
        clear hb9 hd9 HBLD
        go_wp2_with fail
        obtain ⟨W9, hW9⟩ : ∃ W9, w9.alloc (.cells #[.pointer (some ⟨dd.c, 0, none⟩)] 27) = W9 := ⟨_, rfl⟩
        obtain ⟨hSc, hbW9⟩ := scopes_one w9 dd HD9.out W9 27 hW9
        rw [hW9]
        have HB9' := hidden (HB9.out.trans (hbW9.mono HB9.out.size))
        refine (zzAppend_any (New w5) _ _ _ _ _ r _ [dd] W9 (HCZ7.out _ (HU8.out _ HB9'.out)).2 HSR.out hSc (by simp) htri).mono ?_
        rintro e w10 ⟨ov, rs, rfl, hRs, hRes, hb10⟩
        have HB10 := hidden (HB9'.out.trans (hb10.mono HB9'.out.size))
        have HD10 := hidden (CovAt.below HD9.out (cell_lt HD9.out.cell) (hbW9.trans (hb10.mono hbW9.size)))
        have HRS := hidden hRs
        have HRES := hidden hRes
        obtain ⟨oa, ocap, rfl, _⟩ := hRs
        clear hW9 hSc hbW9 hb10 hRes k0 k1 k2 k3 k4 k5 hkb HB9 HB9' HD9
        obtain ⟨⟨k0, k1, k2, k3, k4, k5⟩, hV10⟩ := HCZ7.out w10 (HU8.out _ HB10.out)
        have HV10 := hidden hV10
        clear hV10
        go_wp2_with fail
        refine (triples_any (New w5) _ _ _ _ _ r w10 HV10.out).mono ?_
        rintro e w11 ⟨rfl, hb11⟩
        rw [HTC.out]
        have HB11 := hidden (HB10.out.trans (hb11.mono HB10.out.size))
        have HR11 := hidden (Rules.same (F := Any) HRS.out (Same.of_below hb11))
        have HD11 := hidden (CovAt.below HD10.out (cell_lt HD10.out.cell) hb11)
        have hrl : rs.length ≤ tri r := HRES.out.2.1
        have hrl' : ¬ (tri r : Int) < rs.length := by omega
        clear hb11 k0 k1 k2 k4 k5 k3 HV10 HRS HD10 HB10
        obtain ⟨⟨_, _, _, k3, _, _⟩, _⟩ := HCZ7.out w11 (HU8.out _ HB11.out)
        go_wp2_with fail
        clear hrl'
        go_loop [8] (fun i => ∃ k : Nat, k ≤ rs.length ∧ i = .int .i64 k) (fun i => rs.length - (intOf i).toNat)
        case atStart => exact ⟨0, Nat.zero_le _, rfl⟩
        case round =>
          obtain ⟨k, hk, rfl⟩ := hrel
          by_cases hlk : k < rs.length
          · obtain ⟨a', cap', hae, hcs⟩ := HR11.out
            obtain ⟨rb, roff, e0, e1, e2, e3, e4, ha, _, _, ⟨_, _, _, y3, _, _⟩, hVx⟩ := hcs k hlk
            have hae' : oa = some ⟨rb, roff, none⟩ := by cases hae; exact ha
            subst hae'
            obtain ⟨na, nc, rfl, _, _⟩ := hVx.names
            obtain ⟨hx1, hx2⟩ := resid_names HRES.out hlk
            obtain ⟨nx, hnx⟩ : ∃ n, (rs.getD k noRule).names.length = n := ⟨_, rfl⟩
            rw [hnx] at hx1 hx2 y3
            have hx1' : ¬ (r.names.length : Int) < nx := by omega
            have hx1'' : ¬ r.names.length < nx := by omega
            clear hcs hae ha hVx hnx
            by_cases hpn : 0 < r.names.length
            · have hpn' : (0 : Int) < r.names.length := by omega
              have hx3 : ¬ nx = 0 := by have := hx2 hpn; omega
              have hx3' : ¬ (nx : Int) = 0 := by omega
              clear hx2
              go_wp2_with fail
              go_round
              case rel => exact ⟨k + 1, by omega, by go_num⟩
              case measure => simp [intOf]; omega
            · have hpn' : ¬ (0 : Int) < r.names.length := by omega
              clear hx2
              go_wp2_with fail
              go_round
              case rel => exact ⟨k + 1, by omega, by go_num⟩
              case measure => simp [intOf]; omega
          · obtain rfl : k = rs.length := by omega
            clear hlk
            go_wp2_with fail
            obtain ⟨W13, hW13⟩ : ∃ W13, (w11.alloc (.cells #[.string ⟨#[]⟩, .bool false, .string ⟨#[]⟩, .string ⟨#[]⟩, .bool false, .slice oa rs.length ocap, .slice none 0 0] 50)).alloc (.cells #[.pointer (some ⟨w11.heap.size, 0, none⟩)] 47) = W13 := ⟨_, rfl⟩
            obtain ⟨hSub, hbW13⟩ := subs_one w11 _ rs HR11.out _ _ _ _ _ W13 hW13
            rw [hW13]
            refine (newCov_any _ _ _ _).mono ?_
            rintro e w14 ⟨rfl, hw14⟩
            have HM := hidden (newMade Any _ _ W13 hSub (bears_resid HRES.out HSR.out hwk) w14 hw14.symm)
            have HBW13 := hidden hbW13
            clear hW13 hSub hw14 hbW13 k3 HR11
            go_wp2_with fail
            refine HM.out.mono ?_
            rintro e w15 ⟨rfl, d2, hdc, hd2, hg2, hb15⟩
            have hb15' := HBW13.out.trans (hb15.mono HBW13.out.size)
            have HB15 := hidden (HB11.out.trans (hb15'.mono HB11.out.size))
            have HD1 := hidden (CovAt.below HD11.out (cell_lt HD11.out.cell) hb15')
            have HD2 := hidden hd2
            have HG2 : Hid (∀ x ∈ rs, AllGr d2.A d2.N x) := fun x hx => by
              obtain ⟨i, hi, rfl⟩ := List.getElem_of_mem hx
              have := hg2 0 i (by simp) hi
              simpa [List.getD_eq_getElem?_getD, List.getElem?_eq_getElem hi] using this
            rw [← hdc]
            obtain ⟨k0, k1, k2, k3, k4, k5⟩ := HZ8.out w15 HB15.out
            clear hb15 hb15' hd2 hg2 HM HBW13 HD11 hdc HB11
            go_wp2_with fail
            obtain ⟨W16, hW16⟩ : ∃ W16, w15.alloc (.cells #[.pointer (some ⟨dd.c, 0, none⟩), .pointer (some ⟨d2.c, 0, none⟩)] 27) = W16 := ⟨_, rfl⟩
            obtain ⟨hSc, hbW16⟩ := scopes_two w15 dd d2 HD1.out HD2.out W16 27 hW16
            rw [hW16]
            have HB16 := hidden (HB15.out.trans (hbW16.mono HB15.out.size))
            refine (zzAppend_any (New w5) _ _ _ _ _ r _ [dd, d2] W16 (HCZ7.out _ (HU8.out _ HB16.out)).2 HSR.out hSc (by simp) htri).mono ?_
            rintro e w17 ⟨ov, again, rfl, hRs2, hRes2, hb17⟩
            obtain rfl := again_nil HRES.out HG2.out hRes2
            obtain ⟨oa2, ocap2, rfl, _⟩ := hRs2
            have HB17 := hidden (HU6.out _ (HU8.out _ (HB16.out.trans (hb17.mono HB16.out.size))))
            clear hW16 hSc hbW16 hb17 hRes2 k0 k1 k2 k3 k4 k5
            go_wp2_with fail
            go_ret
            exact ⟨rfl, HB17.out⟩
end Go.Proofs.Qxb6606306aRR
