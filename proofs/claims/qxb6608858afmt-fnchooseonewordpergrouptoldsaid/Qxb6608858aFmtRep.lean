/- The walk of FnChooseRepeatedWord. -/
import Derived.Test.Qxb6608858aFmtChoose
namespace Go.Proofs.Qxb6608858aFmt
open Go.RowKit Go.Extern.Stop Go.Stop Go.Extern

set_option maxHeartbeats 400000 in
theorem bytes11_nil (s g : ByteArray) (w : World) :
    Calls Tryf.prog 11 #[.pointer none, .string s, .string g] w fun e w' => (∃ r, e = .returned (.bool r)) ∧ w' = w := by
  go_enter Tryf.func11, Tryf.ntmps11
  go_wp2
  all_goals
    go_ret
    exact ⟨⟨_, rfl⟩, rfl⟩

set_option maxHeartbeats 400000 in
theorem bytes11_some (a : Addr) (c s g : ByteArray) (w : World) (hc : w.cell? a = some (.string c)) :
    Calls Tryf.prog 11 #[.pointer (some a), .string s, .string g] w fun e w' => (∃ r, e = .returned (.bool r)) ∧ w' = w := by
  go_enter Tryf.func11, Tryf.ntmps11
  go_wp2
  all_goals
    go_ret
    exact ⟨⟨_, rfl⟩, rfl⟩

set_option maxHeartbeats 400000 in
theorem rep_nil (s g : ByteArray) (w : World) :
    Calls Tryf.prog 5 #[.pointer none, .string s, .string g] w fun e w' => e = .returned (.bool true) ∧ Below w.heap.size w w' := by
  go_enter Tryf.func5, Tryf.ntmps5
  go_wp2_with fail
  refine (bytes11_nil s g _).mono ?_
  rintro e w' ⟨⟨r, rfl⟩, rfl⟩
  cases r
  all_goals
    go_wp2_with fail
    go_ret
    exact ⟨rfl, Below.refl _ _⟩

theorem eqB_empty (s : ByteArray) (h : s.toList.isEmpty = true) : eqB s = false := by
  have h2 : s.data.toList = [] := by
    rw [Lib.toList_data] at h
    simpa using h
  unfold eqB
  rw [h2]
  rfl
theorem refuses_self (s : ByteArray) : refuses s s = eqB s := by
  unfold refuses
  cases h : s.toList.isEmpty with
  | true => simp [eqB_empty s h]
  | false => simp
theorem after_self (s : ByteArray) : after s s = s := by unfold after; split <;> rfl
theorem refuses_empty (c s : ByteArray) (h : c.toList.isEmpty = true) : refuses c s = false := by simp [refuses, h]
theorem after_empty (c s : ByteArray) (h : c.toList.isEmpty = true) : after c s = s := by simp [after, h]
theorem after_full (c s : ByteArray) (h : c.toList.isEmpty = false) : after c s = c := by simp [after, h]
theorem refuses_other (c s : ByteArray) (h : c.toList.isEmpty = false) (hd : (c.toList == s.toList) = false) : refuses c s = true := by simp [refuses, h, hd]
theorem refuses_same (c s : ByteArray) (h : c.toList.isEmpty = false) (hd : (c.toList == s.toList) = true) : refuses c s = eqB s := by simp [refuses, h, hd]
theorem errIs_true {v : Value} (h : errIs true v) : ∃ a, v = .iface 54 (.pointer (some a)) := h
theorem errIs_false {v : Value} (h : errIs false v) : v = .nilIface := h

set_option maxHeartbeats 1000000 in
theorem rep_some (F : Interp) (a : Addr) (c0 s g : ByteArray) (w : World) (hF : F.answers w.tape) (hc : w.cell? a = some (.string c0)) :
    Calls Tryf.prog 5 #[.pointer (some a), .string s, .string g] w fun e w' => e = .returned (.bool true) ∧ Below w.heap.size w w' := by
  have HF : Hid (F.answers w.tape) := hF
  clear hF
  go_enter Tryf.func5, Tryf.ntmps5
  go_wp2_with fail
  refine (bytes11_some a c0 s g _ hc).mono ?_
  rintro e w' ⟨⟨r, rfl⟩, rfl⟩
  cases r
  · go_wp2_with fail
    go_ret
    exact ⟨rfl, Below.refl _ _⟩
  · by_cases h1 : 262144 < (c0.size : Int)
    · go_wp2_with fail
      all_goals
        go_ret
        exact ⟨rfl, Below.refl _ _⟩
    · by_cases h2 : 262144 < (s.size : Int)
      · go_wp2_with fail
        all_goals
          go_ret
          exact ⟨rfl, Below.refl _ _⟩
      · by_cases h3 : 262144 < (g.size : Int)
        · go_wp2_with fail
          all_goals
            go_ret
            exact ⟨rfl, Below.refl _ _⟩
        · go_wp2_with fail
          refine (zzchoose_any F _ c0 s g _ (by simp) (by exact HF.out) (by go_simp) (by go_simp)).mono ?_
          rintro e w1 ⟨⟨v1, rfl, hv1⟩, hc1, hf1, hb1⟩
          have hz1 := hb1.size
          simp only [World.size_alloc] at hz1
          have HF1 : Hid (F.answers w1.tape) := by show F.answers w1.tape; rw [hb1.tape]; exact HF.out
          have HB1 : Hid (Below _ _ w1) := hb1
          clear hb1
          have H13 : ∀ r, eqB s = r → Hid (∀ w, Calls Tryf.prog 13 #[.string s] w fun e w' => e = .returned (.bool r) ∧ w' = w) := fun r hr w => by
            rw [← hr]; exact haseq_any s w (by omega)
          cases he : c0.toList.isEmpty with
          | true =>
            rw [refuses_empty c0 s he] at hv1
            rw [after_empty c0 s he] at hc1
            have hv1' := errIs_false hv1
            subst hv1'
            clear hv1
            go_wp2_with fail
            refine (zzchoose_any F _ s s g _ (by omega) (by exact HF1.out) (by exact hc1) (by exact hf1)).mono ?_
            rintro e w2 ⟨⟨v2, rfl, hv2⟩, hc2, hf2, hb2⟩
            have HE : Hid (Below _ _ w2) := ((Below.refl _ _).alloc (Nat.le_refl _) _).trans (HB1.out.trans hb2)
            rw [after_self] at hc2
            rw [refuses_self] at hv2
            clear hb2 hc1 hf1 hf2 HB1 HF1
            cases hq : eqB s with
            | true =>
              rw [hq] at hv2
              obtain ⟨a2, rfl⟩ := errIs_true hv2
              have G := H13 true hq
              clear hv2 H13 hq
              go_wp2_with (go_at_call 13; refine (G.out _).mono ?_; rintro e w9 ⟨rfl, rfl⟩)
              go_ret
              exact ⟨rfl, HE.out⟩
            | false =>
              rw [hq] at hv2
              have hv2' := errIs_false hv2
              subst hv2'
              have G := H13 false hq
              clear hv2 H13 hq
              go_wp2_with (go_at_call 13; refine (G.out _).mono ?_; rintro e w9 ⟨rfl, rfl⟩)
              go_ret
              exact ⟨rfl, HE.out⟩
          | false =>
            rw [after_full c0 s he] at hc1
            cases hd : (c0.toList == s.toList) with
            | false =>
              rw [refuses_other c0 s he hd] at hv1
              obtain ⟨a1, rfl⟩ := errIs_true hv1
              clear hv1
              go_wp2_with fail
              refine (zzchoose_any F _ c0 s g _ (by omega) (by exact HF1.out) (by exact hc1) (by exact hf1)).mono ?_
              rintro e w2 ⟨⟨v2, rfl, hv2⟩, hc2, hf2, hb2⟩
              have HE : Hid (Below _ _ w2) := ((Below.refl _ _).alloc (Nat.le_refl _) _).trans (HB1.out.trans hb2)
              rw [after_full c0 s he] at hc2
              rw [refuses_other c0 s he hd] at hv2
              obtain ⟨a2, rfl⟩ := errIs_true hv2
              clear hb2 hc1 hf1 hf2 HB1 HF1 hv2
              cases hq : eqB s with
              | true =>
                have G := H13 true hq
                clear H13 hq
                go_wp2_with (go_at_call 13; refine (G.out _).mono ?_; rintro e w9 ⟨rfl, rfl⟩)
                go_ret
                exact ⟨rfl, HE.out⟩
              | false =>
                have G := H13 false hq
                clear H13 hq
                go_wp2_with (go_at_call 13; refine (G.out _).mono ?_; rintro e w9 ⟨rfl, rfl⟩)
                go_ret
                exact ⟨rfl, HE.out⟩
            | true =>
              rw [refuses_same c0 s he hd] at hv1
              cases hq : eqB s with
              | true =>
                rw [hq] at hv1
                obtain ⟨a1, rfl⟩ := errIs_true hv1
                clear hv1
                go_wp2_with fail
                refine (zzchoose_any F _ c0 s g _ (by omega) (by exact HF1.out) (by exact hc1) (by exact hf1)).mono ?_
                rintro e w2 ⟨⟨v2, rfl, hv2⟩, hc2, hf2, hb2⟩
                have HE : Hid (Below _ _ w2) := ((Below.refl _ _).alloc (Nat.le_refl _) _).trans (HB1.out.trans hb2)
                rw [after_full c0 s he] at hc2
                rw [refuses_same c0 s he hd, hq] at hv2
                obtain ⟨a2, rfl⟩ := errIs_true hv2
                have G := H13 true hq
                clear hb2 hc1 hf1 hf2 HB1 HF1 hv2 H13 hq
                go_wp2_with (go_at_call 13; refine (G.out _).mono ?_; rintro e w9 ⟨rfl, rfl⟩)
                go_ret
                exact ⟨rfl, HE.out⟩
              | false =>
                rw [hq] at hv1
                have hv1' := errIs_false hv1
                subst hv1'
                clear hv1
                go_wp2_with fail
                refine (zzchoose_any F _ c0 s g _ (by omega) (by exact HF1.out) (by exact hc1) (by exact hf1)).mono ?_
                rintro e w2 ⟨⟨v2, rfl, hv2⟩, hc2, hf2, hb2⟩
                have HE : Hid (Below _ _ w2) := ((Below.refl _ _).alloc (Nat.le_refl _) _).trans (HB1.out.trans hb2)
                rw [after_full c0 s he] at hc2
                rw [refuses_same c0 s he hd, hq] at hv2
                have hv2' := errIs_false hv2
                subst hv2'
                have G := H13 false hq
                clear hb2 hc1 hf1 hf2 HB1 HF1 hv2 H13 hq
                go_wp2_with (go_at_call 13; refine (G.out _).mono ?_; rintro e w9 ⟨rfl, rfl⟩)
                go_ret
                exact ⟨rfl, HE.out⟩
end Go.Proofs.Qxb6608858aFmt
