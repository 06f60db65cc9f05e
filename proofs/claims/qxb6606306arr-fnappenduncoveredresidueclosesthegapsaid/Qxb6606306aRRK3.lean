/- coverResource, walked. -/
import Derived.Test.Qxb6606306aRRK2
namespace Go.Proofs.Qxb6606306aRR
open Go.RowKit Go.Maps
theorem byte_at {s : ByteArray} {k : Nat} (h : k < s.size) : s.data.toList.getD k 0 = s[k]'h := by
  rw [List.getD_eq_getElem?_getD, List.getElem?_eq_getElem (by simpa using h)]
  simp [ByteArray.getElem_eq_getElem_data]
theorem byte_yes {s : ByteArray} {k : Nat} (h : k < s.size) (hc : ((s[k]'h).toNat : Int) = 47) : (s.data.toList.getD k 0 == 47) = true := by
  rw [byte_at h, beq_iff_eq]
  have : (s[k]'h).toNat = 47 := by omega
  exact UInt8.toNat_inj.1 this
theorem byte_no {s : ByteArray} {k : Nat} (h : k < s.size) (hc : ¬ ((s[k]'h).toNat : Int) = 47) : (s.data.toList.getD k 0 == 47) = false := by
  rw [byte_at h, beq_eq_false_iff_ne]
  intro e
  apply hc
  rw [e]
  rfl
set_option maxRecDepth 8000 in
set_option maxHeartbeats 2000000 in
theorem cover_any (cs : List CovD) (sv : Value) (v g s : ByteArray) (b : Bool) (name : ByteArray) (named : Bool) (w : World) (h : Scopes w sv cs)
    (hv : v.size ≤ Go.maxLen) (hg : g.size ≤ Go.maxLen) (hs : s.size ≤ 1048576) (hn : name.size ≤ Go.maxLen) (hl : cs.length ≤ 1048576) :
    Calls Try.prog 23 #[sv, .string v, .string g, .agg #[.string s, .bool b], .string name, .bool named] w fun e w' => e = .returned (.bool (crB (fun t q => heldB cs v g t q name named) s b)) ∧ Below w.heap.size w w' := by
  have hmf : ∀ (fn : Go.Fn) (first cap : Array Value) (w : World), (Instr.makeFunc fn first cap).run Try.prog w = .ok (.func fn first cap) w := fun _ _ _ _ => rfl
  obtain ⟨W, hW⟩ : ∃ W, (((((w.alloc (.cells #[sv] 35)).alloc (.cells #[.string v] 9)).alloc (.cells #[.string g] 9)).alloc (.cells #[.string s, .bool b] 56)).alloc (.cells #[.string name] 9)).alloc (.cells #[.bool named] 4) = W := ⟨_, rfl⟩
  obtain ⟨x0, hcap, x1, x2, hBW⟩ := six_boxes w sv v g s name b named W hW
  have hM : 1048578 ≤ Go.maxLen := by decide
  obtain ⟨H, hH⟩ : ∃ H : HeldF, (fun t q => heldB cs v g t q name named) = H := ⟨_, rfl⟩
  have HELD : Hid (∀ w' t q, Below W.heap.size W w' → t.size ≤ 1048578 → Calls Try.prog 36 #[.agg #[.string t, .bool q], .pointer (some ⟨w.heap.size, 0, none⟩), .pointer (some ⟨w.heap.size + 1, 0, none⟩), .pointer (some ⟨w.heap.size + 2, 0, none⟩), .pointer (some ⟨w.heap.size + 4, 0, none⟩), .pointer (some ⟨w.heap.size + 5, 0, none⟩)] w' fun e w'' => e = .returned (.bool (H t q)) ∧ Below w'.heap.size w' w'') := fun w' t q hb ht => by
    rw [← hH]
    exact held36 cs sv _ _ _ _ _ v g t q name named w' ((h.below hBW).below hb) ((hb.cell (p := ⟨w.heap.size, 0, none⟩) (cell_lt x0)).trans x0) (hcap.below hb) hv hg (by omega) hn hl
  have HX : Hid (∀ w', Below W.heap.size W w' → w'.cell? ⟨w.heap.size + 3, 0, none⟩ = some (.string s) ∧ w'.cell? ⟨w.heap.size + 3, 1, none⟩ = some (.bool b)) := fun w' hb => ⟨(hb.cell (p := ⟨w.heap.size + 3, 0, none⟩) (cell_lt x1)).trans x1, (hb.cell (p := ⟨w.heap.size + 3, 1, none⟩) (cell_lt x1)).trans x2⟩
  have HBW := hidden hBW
  have HW := hidden hW
  have HSW := hidden (cutT_size hs)
  obtain ⟨a, cap, rfl, _⟩ := h
  rw [hH]
  clear hH hcap x0 hBW hW
  obtain ⟨t1, ht1⟩ : ∃ t, H s b = t := ⟨_, rfl⟩
  obtain ⟨t2, ht2⟩ : ∃ t, H star false = t := ⟨_, rfl⟩
  obtain ⟨t3, ht3⟩ : ∃ t, H star true = t := ⟨_, rfl⟩
  have HCR : Hid (crB H s b = (t1 || t2 || t3 || (!b && ((cutF s && H (subSlash s) false) || (H s true && partsB H s s.size))))) := by rw [← ht1, ← ht2, ← ht3]; rfl
  go_enter Try.func23, Try.ntmps23
  go_wp2_with fail
  rw [HW.out]
  clear HW
  go_wp2_with fail
  refine (HELD.out W s b (Below.refl _ _) (by omega)).mono ?_
  rintro e w1 ⟨rfl, hb1⟩
  rw [ht1]
  clear ht1 x1 x2
  have HB1 := hidden hb1
  clear hb1
  cases t1 with
  | true =>
    go_wp2_with fail
    go_ret
    exact ⟨by rw [HCR.out]; rfl, HBW.out.trans (HB1.out.mono HBW.out.size)⟩
  | false =>
    go_wp2_with fail
    refine (HELD.out w1 star false HB1.out (by decide)).mono ?_
    rintro e w2 ⟨rfl, hb2⟩
    rw [ht2]
    have HB2 := hidden (HB1.out.trans (hb2.mono HB1.out.size))
    clear ht2 HB1 hb2
    cases t2 with
    | true =>
      go_wp2_with fail
      go_ret
      exact ⟨by rw [HCR.out]; rfl, HBW.out.trans (HB2.out.mono HBW.out.size)⟩
    | false =>
      go_wp2_with fail
      refine (HELD.out w2 star true HB2.out (by decide)).mono ?_
      rintro e w3 ⟨rfl, hb3⟩
      rw [ht3]
      have HB3 := hidden (HB2.out.trans (hb3.mono HB2.out.size))
      clear ht3 HB2 hb3
      cases t3 with
      | true =>
        go_wp2_with fail
        go_ret
        exact ⟨by rw [HCR.out]; rfl, HBW.out.trans (HB3.out.mono HBW.out.size)⟩
      | false =>
        obtain ⟨z0, z1⟩ := HX.out w3 HB3.out
        cases b with
        | true =>
          go_wp2_with fail
          go_ret
          exact ⟨by rw [HCR.out]; rfl, HBW.out.trans (HB3.out.mono HBW.out.size)⟩
        | false =>
          go_wp2_with fail
          refine (cut40 s _ hs).mono ?_
          rintro e w4 ⟨rfl, hb4⟩
          have HB4 := hidden (HB3.out.trans (hb4.mono HB3.out.size))
          clear HB3 hb4 z0 z1
          obtain ⟨z0, z1⟩ := HX.out w4 HB4.out
          obtain ⟨f, hf⟩ : ∃ f, cutF s = f := ⟨_, rfl⟩
          rw [hf]
          have HF := hidden hf
          clear hf
          have hc2 : ¬ 9223372036854775807 < 2 + (cutT s).size := by
            have := HSW.out
            unfold subSlash at this
            rw [ByteArray.size_append] at this
            have e : (ByteArray.mk #[42, 47]).size = 2 := rfl
            omega
          cases f with
          | true =>
            go_wp2_with fail
            refine (HELD.out w4 (subSlash s) false HB4.out HSW.out).mono ?_
            rintro e w5 ⟨rfl, hb5⟩
            obtain ⟨t4, ht4⟩ : ∃ t, H (subSlash s) false = t := ⟨_, rfl⟩
            rw [ht4]
            have HB5 := hidden (HB4.out.trans (hb5.mono HB4.out.size))
            have HT4 := hidden ht4
            clear ht4 hb5 HB4 z0 z1
            obtain ⟨z0, z1⟩ := HX.out w5 HB5.out
            cases t4 with
            | true =>
              go_wp2_with fail
              go_ret
              exact ⟨by rw [HCR.out, HF.out, HT4.out]; simp, HBW.out.trans (HB5.out.mono HBW.out.size)⟩
            | false =>
              go_wp2_with fail
              refine (HELD.out w5 s true HB5.out (by omega)).mono ?_
              rintro e w6 ⟨rfl, hb6⟩
              obtain ⟨t5, ht5⟩ : ∃ t, H s true = t := ⟨_, rfl⟩
              rw [ht5]
              have HB6 := hidden (HB5.out.trans (hb6.mono HB5.out.size))
              have HT5 := hidden ht5
              clear ht5 hb6 HB5 z0 z1
              obtain ⟨z0, z1⟩ := HX.out w6 HB6.out
              cases t5 with
              | false =>
                go_wp2_with fail
                go_ret
                exact ⟨by rw [HCR.out, HT5.out, HF.out, HT4.out]; simp, HBW.out.trans (HB6.out.mono HBW.out.size)⟩
              | true =>
                clear z1
                go_wp2_with fail
                go_loopw [58] (fun i wr => ∃ k : Nat, k ≤ s.size ∧ i = .int .i64 k ∧ Hid (partsB H s k = true) ∧ Hid (Below W.heap.size W wr)) (fun i _ => s.size - (intOf i).toNat)
                case atStart => exact ⟨0, Nat.zero_le _, rfl, rfl, HB6.out⟩
                case round =>
                  clear z0
                  obtain ⟨k, hk, rfl, hp, hbr⟩ := hrel
                  by_cases hlt : k < s.size
                  · obtain ⟨z0, z1⟩ := HX.out wr hbr.out
                    by_cases hc : ((s[k]'hlt).toNat : Int) = 47
                    · go_wp2_with fail
                      refine (HELD.out wr (s.extract 0 k) true hbr.out (by rw [ByteArray.size_extract]; omega)).mono ?_
                      rintro e w7 ⟨rfl, hb7⟩
                      obtain ⟨t6, ht6⟩ : ∃ t, H (s.extract 0 k) true = t := ⟨_, rfl⟩
                      rw [ht6]
                      have HB7 := hidden (hbr.out.trans (hb7.mono hbr.out.size))
                      cases t6 with
                      | true =>
                        have HN : Hid (partsB H s (k + 1) = true) := by show partsB H s (k + 1) = true; unfold partsB; rw [hp.out, ht6]; simp
                        clear hp hbr hb7 ht6 z0 z1
                        go_wp2_with fail
                        go_roundw
                        case rel => exact ⟨k + 1, by omega, by go_num, HN.out, HB7.out⟩
                        case measure => simp [intOf]; omega
                      | false =>
                        have HT : Hid (crB H s false = false) := by show crB H s false = false; rw [HCR.out, HT5.out, partsB_false hlt (byte_yes hlt hc) ht6, HF.out, HT4.out]; simp
                        clear hp hbr hb7 ht6 z0 z1
                        go_wp2_with fail
                        go_ret
                        exact ⟨by rw [HT.out]; rfl, HBW.out.trans (HB7.out.mono HBW.out.size)⟩
                    · have HN : Hid (partsB H s (k + 1) = true) := by show partsB H s (k + 1) = true; unfold partsB; rw [hp.out, byte_no hlt hc]; rfl
                      clear hp
                      go_wp2_with fail
                      go_roundw
                      case rel => exact ⟨k + 1, by omega, by go_num, HN.out, hbr⟩
                      case measure => simp [intOf]; omega
                  · obtain rfl : k = s.size := by omega
                    have HT : Hid (crB H s false = true) := by show crB H s false = true; rw [HCR.out, HT5.out, hp.out]; simp
                    clear hp
                    go_wp2_with fail
                    go_ret
                    exact ⟨by rw [HT.out]; rfl, HBW.out.trans (hbr.out.mono HBW.out.size)⟩
          | false =>
            go_wp2_with fail
            refine (HELD.out w4 s true HB4.out (by omega)).mono ?_
            rintro e w6 ⟨rfl, hb6⟩
            obtain ⟨t5, ht5⟩ : ∃ t, H s true = t := ⟨_, rfl⟩
            rw [ht5]
            have HB6 := hidden (HB4.out.trans (hb6.mono HB4.out.size))
            have HT5 := hidden ht5
            clear ht5 hb6 HB4 z0 z1
            obtain ⟨z0, z1⟩ := HX.out w6 HB6.out
            cases t5 with
            | false =>
              go_wp2_with fail
              go_ret
              exact ⟨by rw [HCR.out, HT5.out, HF.out]; simp, HBW.out.trans (HB6.out.mono HBW.out.size)⟩
            | true =>
              clear z1
              go_wp2_with fail
              go_loopw [58] (fun i wr => ∃ k : Nat, k ≤ s.size ∧ i = .int .i64 k ∧ Hid (partsB H s k = true) ∧ Hid (Below W.heap.size W wr)) (fun i _ => s.size - (intOf i).toNat)
              case atStart => exact ⟨0, Nat.zero_le _, rfl, rfl, HB6.out⟩
              case round =>
                clear z0
                obtain ⟨k, hk, rfl, hp, hbr⟩ := hrel
                by_cases hlt : k < s.size
                · obtain ⟨z0, z1⟩ := HX.out wr hbr.out
                  by_cases hc : ((s[k]'hlt).toNat : Int) = 47
                  · go_wp2_with fail
                    refine (HELD.out wr (s.extract 0 k) true hbr.out (by rw [ByteArray.size_extract]; omega)).mono ?_
                    rintro e w7 ⟨rfl, hb7⟩
                    obtain ⟨t6, ht6⟩ : ∃ t, H (s.extract 0 k) true = t := ⟨_, rfl⟩
                    rw [ht6]
                    have HB7 := hidden (hbr.out.trans (hb7.mono hbr.out.size))
                    cases t6 with
                    | true =>
                      have HN : Hid (partsB H s (k + 1) = true) := by show partsB H s (k + 1) = true; unfold partsB; rw [hp.out, ht6]; simp
                      clear hp hbr hb7 ht6 z0 z1
                      go_wp2_with fail
                      go_roundw
                      case rel => exact ⟨k + 1, by omega, by go_num, HN.out, HB7.out⟩
                      case measure => simp [intOf]; omega
                    | false =>
                      have HT : Hid (crB H s false = false) := by show crB H s false = false; rw [HCR.out, HT5.out, partsB_false hlt (byte_yes hlt hc) ht6, HF.out]; simp
                      clear hp hbr hb7 ht6 z0 z1
                      go_wp2_with fail
                      go_ret
                      exact ⟨by rw [HT.out]; rfl, HBW.out.trans (HB7.out.mono HBW.out.size)⟩
                  · have HN : Hid (partsB H s (k + 1) = true) := by show partsB H s (k + 1) = true; unfold partsB; rw [hp.out, byte_no hlt hc]; rfl
                    clear hp
                    go_wp2_with fail
                    go_roundw
                    case rel => exact ⟨k + 1, by omega, by go_num, HN.out, hbr⟩
                    case measure => simp [intOf]; omega
                · obtain rfl : k = s.size := by omega
                  have HT : Hid (crB H s false = true) := by show crB H s false = true; rw [HCR.out, HT5.out, hp.out]; simp
                  clear hp
                  go_wp2_with fail
                  go_ret
                  exact ⟨by rw [HT.out]; rfl, HBW.out.trans (hbr.out.mono HBW.out.size)⟩
end Go.Proofs.Qxb6606306aRR
