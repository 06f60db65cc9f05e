/- The walk of FnChooseOneWordPerGroup. -/
import Derived.Test.Qxb6608858aFmtChoose
import Derived.Test.Qxb6608858aFmtRep
namespace Go.Proofs.Qxb6608858aFmt
open Go.RowKit Go.Extern.Stop Go.Stop Go.Extern

set_option maxHeartbeats 400000 in
theorem bytes14_nil (s t g : ByteArray) (w : World) :
    Calls Tryf.prog 14 #[.pointer none, .string s, .string t, .string g] w fun e w' => (∃ r, e = .returned (.bool r)) ∧ w' = w := by
  go_enter Tryf.func14, Tryf.ntmps14
  go_wp2
  all_goals
    go_ret
    exact ⟨⟨_, rfl⟩, rfl⟩

set_option maxHeartbeats 400000 in
theorem bytes14_some (a : Addr) (c s t g : ByteArray) (w : World) (hc : w.cell? a = some (.string c)) :
    Calls Tryf.prog 14 #[.pointer (some a), .string s, .string t, .string g] w fun e w' => (∃ r, e = .returned (.bool r)) ∧ w' = w := by
  go_enter Tryf.func14, Tryf.ntmps14
  go_wp2
  all_goals
    go_ret
    exact ⟨⟨_, rfl⟩, rfl⟩

set_option maxHeartbeats 400000 in
theorem one_nil (s t g : ByteArray) (w : World) :
    Calls Tryf.prog 6 #[.pointer none, .string s, .string t, .string g] w fun e w' => e = .returned (.bool true) ∧ Below w.heap.size w w' := by
  go_enter Tryf.func6, Tryf.ntmps6
  go_wp2_with fail
  refine (bytes14_nil s t g _).mono ?_
  rintro e w' ⟨⟨r, rfl⟩, rfl⟩
  cases r
  all_goals
    go_wp2_with fail
    go_ret
    exact ⟨rfl, Below.refl _ _⟩

theorem same_bytes (a b : ByteArray) (h : (a.toList == b.toList) = true) : a = b := by
  have h2 : a.toList = b.toList := by simpa using h
  rw [Lib.toList_data, Lib.toList_data] at h2
  apply ByteArray.ext
  exact Array.toList_inj.1 h2

set_option maxHeartbeats 2000000 in
theorem one_some (F : Interp) (a : Addr) (c0 s t g : ByteArray) (w : World) (hF : F.answers w.tape) (hc : w.cell? a = some (.string c0)) :
    Calls Tryf.prog 6 #[.pointer (some a), .string s, .string t, .string g] w fun e w' => e = .returned (.bool true) ∧ Below w.heap.size w w' := by
  have HF : Hid (F.answers w.tape) := hF
  clear hF
  go_enter Tryf.func6, Tryf.ntmps6
  go_wp2_with fail
  refine (bytes14_some a c0 s t g _ hc).mono ?_
  rintro e w' ⟨⟨r, rfl⟩, rfl⟩
  cases r
  · go_wp2_with fail
    go_ret
    exact ⟨rfl, Below.refl _ _⟩
  · by_cases h1 : 262144 < (c0.size : Int)
    · go_wp2_with fail
      all_goals
        go_ret
        exact ⟨rfl, Below.refl _ _⟩
    · by_cases h2 : 262144 < (s.size : Int)
      · go_wp2_with fail
        all_goals
          go_ret
          exact ⟨rfl, Below.refl _ _⟩
      · by_cases h4 : 262144 < (t.size : Int)
        · go_wp2_with fail
          all_goals
            go_ret
            exact ⟨rfl, Below.refl _ _⟩
        · by_cases h3 : 262144 < (g.size : Int)
          · go_wp2_with fail
            all_goals
              go_ret
              exact ⟨rfl, Below.refl _ _⟩
          · go_wp2_with fail
            refine (zzchoose_any F _ c0 s g _ (by simp) (by exact HF.out) (by go_simp) (by go_simp)).mono ?_
            rintro e w1 ⟨⟨v1, rfl, hv1⟩, hc1, hf1, hb1⟩
            have hz1 := hb1.size
            simp only [World.size_alloc] at hz1
            have HF1 : Hid (F.answers w1.tape) := by show F.answers w1.tape; rw [hb1.tape]; exact HF.out
            have HB1 : Hid (Below _ _ w1) := hb1
            clear hb1
            have H13 : ∀ x : ByteArray, (x.size : Int) ≤ 262144 → ∀ r, eqB x = r → Hid (∀ w, Calls Tryf.prog 13 #[.string x] w fun e w' => e = .returned (.bool r) ∧ w' = w) := fun x hx r hr w => by
              rw [← hr]; exact haseq_any x w (by omega)
            cases he : c0.toList.isEmpty with
            | true =>
              rw [refuses_empty c0 s he] at hv1
              rw [after_empty c0 s he] at hc1
              have hv1' := errIs_false hv1
              subst hv1'
              clear hv1
              cases hs : s.toList.isEmpty with
              | true =>
                go_wp2_with fail
                refine (zzchoose_any F _ s t g _ (by omega) (by exact HF1.out) (by exact hc1) (by exact hf1)).mono ?_
                rintro e w2 ⟨⟨v2, rfl, hv2⟩, hc2, hf2, hb2⟩
                have HE : Hid (Below _ _ w2) := ((Below.refl _ _).alloc (Nat.le_refl _) _).trans (HB1.out.trans hb2)
                rw [after_empty s t hs] at hc2
                rw [refuses_empty s t hs] at hv2
                have hv2' := errIs_false hv2
                subst hv2'
                clear hb2 hc1 hf1 hf2 HB1 HF1 hv2 H13
                go_wp2_with fail
                go_ret
                exact ⟨rfl, HE.out⟩
              | false =>
                cases hd : (s.toList == t.toList) with
                | false =>
                  have hd' : (t.toList == s.toList) = false := by rw [beq_eq_false_iff_ne] at hd ⊢; exact fun h => hd h.symm
                  go_wp2_with fail
                  refine (zzchoose_any F _ s t g _ (by omega) (by exact HF1.out) (by exact hc1) (by exact hf1)).mono ?_
                  rintro e w2 ⟨⟨v2, rfl, hv2⟩, hc2, hf2, hb2⟩
                  have HE : Hid (Below _ _ w2) := ((Below.refl _ _).alloc (Nat.le_refl _) _).trans (HB1.out.trans hb2)
                  rw [after_full s t hs] at hc2
                  rw [refuses_other s t hs hd] at hv2
                  obtain ⟨a2, rfl⟩ := errIs_true hv2
                  clear hb2 hc1 hf1 hf2 HB1 HF1 hv2 H13
                  go_wp2_with fail
                  go_ret
                  exact ⟨rfl, HE.out⟩
                | true =>
                  have hst := same_bytes s t hd
                  subst hst
                  cases hq : eqB s with
                  | true =>
                    go_wp2_with fail
                    refine (zzchoose_any F _ s s g _ (by omega) (by exact HF1.out) (by exact hc1) (by exact hf1)).mono ?_
                    rintro e w2 ⟨⟨v2, rfl, hv2⟩, hc2, hf2, hb2⟩
                    have HE : Hid (Below _ _ w2) := ((Below.refl _ _).alloc (Nat.le_refl _) _).trans (HB1.out.trans hb2)
                    rw [after_full s s hs] at hc2
                    rw [refuses_same s s hs hd, hq] at hv2
                    obtain ⟨a2, rfl⟩ := errIs_true hv2
                    have G := H13 s (by omega) true hq
                    clear hb2 hc1 hf1 hf2 HB1 HF1 hv2 H13
                    go_wp2_with (go_at_call 13; refine (G.out _).mono ?_; rintro e w9 ⟨rfl, rfl⟩)
                    go_ret
                    exact ⟨rfl, HE.out⟩
                  | false =>
                    go_wp2_with fail
                    refine (zzchoose_any F _ s s g _ (by omega) (by exact HF1.out) (by exact hc1) (by exact hf1)).mono ?_
                    rintro e w2 ⟨⟨v2, rfl, hv2⟩, hc2, hf2, hb2⟩
                    have HE : Hid (Below _ _ w2) := ((Below.refl _ _).alloc (Nat.le_refl _) _).trans (HB1.out.trans hb2)
                    rw [after_full s s hs] at hc2
                    rw [refuses_same s s hs hd, hq] at hv2
                    have hv2' := errIs_false hv2
                    subst hv2'
                    have G := H13 s (by omega) false hq
                    clear hb2 hc1 hf1 hf2 HB1 HF1 hv2 H13
                    go_wp2_with (go_at_call 13; refine (G.out _).mono ?_; rintro e w9 ⟨rfl, rfl⟩)
                    go_ret
                    exact ⟨rfl, HE.out⟩
            | false =>
              rw [after_full c0 s he] at hc1
              cases hd : (c0.toList == s.toList) with
              | false =>
                have hd' : (s.toList == c0.toList) = false := by rw [beq_eq_false_iff_ne] at hd ⊢; exact fun h => hd h.symm
                rw [refuses_other c0 s he hd] at hv1
                obtain ⟨a1, rfl⟩ := errIs_true hv1
                clear hv1
                cases hr : refuses c0 t with
                | true =>
                  go_wp2_with fail
                  refine (zzchoose_any F _ c0 t g _ (by omega) (by exact HF1.out) (by exact hc1) (by exact hf1)).mono ?_
                  rintro e w2 ⟨⟨v2, rfl, hv2⟩, hc2, hf2, hb2⟩
                  have HE : Hid (Below _ _ w2) := ((Below.refl _ _).alloc (Nat.le_refl _) _).trans (HB1.out.trans hb2)
                  rw [after_full c0 t he] at hc2
                  rw [hr] at hv2
                  obtain ⟨a2, rfl⟩ := errIs_true hv2
                  clear hb2 hc1 hf1 hf2 HB1 HF1 hv2 H13
                  go_wp2_with fail
                  go_ret
                  exact ⟨rfl, HE.out⟩
                | false =>
                  go_wp2_with fail
                  refine (zzchoose_any F _ c0 t g _ (by omega) (by exact HF1.out) (by exact hc1) (by exact hf1)).mono ?_
                  rintro e w2 ⟨⟨v2, rfl, hv2⟩, hc2, hf2, hb2⟩
                  have HE : Hid (Below _ _ w2) := ((Below.refl _ _).alloc (Nat.le_refl _) _).trans (HB1.out.trans hb2)
                  rw [after_full c0 t he] at hc2
                  rw [hr] at hv2
                  have hv2' := errIs_false hv2
                  subst hv2'
                  clear hb2 hc1 hf1 hf2 HB1 HF1 hv2 H13
                  go_wp2_with fail
                  go_ret
                  exact ⟨rfl, HE.out⟩
              | true =>
                have hcs := same_bytes c0 s hd
                subst hcs
                rw [refuses_same c0 c0 he hd] at hv1
                cases hdt : (c0.toList == t.toList) with
                | false =>
                  have hdt' : (t.toList == c0.toList) = false := by rw [beq_eq_false_iff_ne] at hdt ⊢; exact fun h => hdt h.symm
                  cases hq : eqB c0 with
                  | true =>
                    rw [hq] at hv1
                    obtain ⟨a1, rfl⟩ := errIs_true hv1
                    clear hv1
                    go_wp2_with fail
                    refine (zzchoose_any F _ c0 t g _ (by omega) (by exact HF1.out) (by exact hc1) (by exact hf1)).mono ?_
                    rintro e w2 ⟨⟨v2, rfl, hv2⟩, hc2, hf2, hb2⟩
                    have HE : Hid (Below _ _ w2) := ((Below.refl _ _).alloc (Nat.le_refl _) _).trans (HB1.out.trans hb2)
                    rw [after_full c0 t he] at hc2
                    rw [refuses_other c0 t he hdt] at hv2
                    obtain ⟨a2, rfl⟩ := errIs_true hv2
                    clear hb2 hc1 hf1 hf2 HB1 HF1 hv2 H13
                    go_wp2_with fail
                    go_ret
                    exact ⟨rfl, HE.out⟩
                  | false =>
                    rw [hq] at hv1
                    have hv1' := errIs_false hv1
                    subst hv1'
                    clear hv1
                    go_wp2_with fail
                    refine (zzchoose_any F _ c0 t g _ (by omega) (by exact HF1.out) (by exact hc1) (by exact hf1)).mono ?_
                    rintro e w2 ⟨⟨v2, rfl, hv2⟩, hc2, hf2, hb2⟩
                    have HE : Hid (Below _ _ w2) := ((Below.refl _ _).alloc (Nat.le_refl _) _).trans (HB1.out.trans hb2)
                    rw [after_full c0 t he] at hc2
                    rw [refuses_other c0 t he hdt] at hv2
                    obtain ⟨a2, rfl⟩ := errIs_true hv2
                    clear hb2 hc1 hf1 hf2 HB1 HF1 hv2 H13
                    go_wp2_with fail
                    go_ret
                    exact ⟨rfl, HE.out⟩
                | true =>
                  have hct := same_bytes c0 t hdt
                  subst hct
                  cases hq : eqB c0 with
                  | true =>
                    rw [hq] at hv1
                    obtain ⟨a1, rfl⟩ := errIs_true hv1
                    clear hv1
                    go_wp2_with fail
                    refine (zzchoose_any F _ c0 c0 g _ (by omega) (by exact HF1.out) (by exact hc1) (by exact hf1)).mono ?_
                    rintro e w2 ⟨⟨v2, rfl, hv2⟩, hc2, hf2, hb2⟩
                    have HE : Hid (Below _ _ w2) := ((Below.refl _ _).alloc (Nat.le_refl _) _).trans (HB1.out.trans hb2)
                    rw [after_full c0 c0 he] at hc2
                    rw [refuses_same c0 c0 he hdt, hq] at hv2
                    obtain ⟨a2, rfl⟩ := errIs_true hv2
                    have G := H13 c0 (by omega) true hq
                    clear hb2 hc1 hf1 hf2 HB1 HF1 hv2 H13
                    go_wp2_with (go_at_call 13; refine (G.out _).mono ?_; rintro e w9 ⟨rfl, rfl⟩)
                    go_ret
                    exact ⟨rfl, HE.out⟩
                  | false =>
                    rw [hq] at hv1
                    have hv1' := errIs_false hv1
                    subst hv1'
                    clear hv1
                    go_wp2_with fail
                    refine (zzchoose_any F _ c0 c0 g _ (by omega) (by exact HF1.out) (by exact hc1) (by exact hf1)).mono ?_
                    rintro e w2 ⟨⟨v2, rfl, hv2⟩, hc2, hf2, hb2⟩
                    have HE : Hid (Below _ _ w2) := ((Below.refl _ _).alloc (Nat.le_refl _) _).trans (HB1.out.trans hb2)
                    rw [after_full c0 c0 he] at hc2
                    rw [refuses_same c0 c0 he hdt, hq] at hv2
                    have hv2' := errIs_false hv2
                    subst hv2'
                    have G := H13 c0 (by omega) false hq
                    clear hb2 hc1 hf1 hf2 HB1 HF1 hv2 H13
                    go_wp2_with (go_at_call 13; refine (G.out _).mono ?_; rintro e w9 ⟨rfl, rfl⟩)
                    go_ret
                    exact ⟨rfl, HE.out⟩
end Go.Proofs.Qxb6608858aFmt
