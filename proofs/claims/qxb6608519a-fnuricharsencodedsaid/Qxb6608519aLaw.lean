/- The law: FnURICharsEncoded returns true. -/
import Derived.Test.Qxb6608519aRows
import Derived.Test.Qxb6608519aUri
import Derived.Test.Qxb6608519aEnc
import Derived.WalkKit
import Derived.ProofKit
import Derived.OpenShut
import Derived.ShutString
namespace Go.Proofs.Qxb6608519a.fnURICharsEncoded
open Go.ChangeShapes Go.WideShapes Go.ChangeAt Go.RowKit
open Go.ChangeMaps (open_string shut_string)
set_option linter.unusedVariables false

theorem own : ownKnob Try.prog.godebug = none := by kernel_rfl

set_option maxHeartbeats 400000 in
theorem bytes_any (a b : ByteArray) (w : World) (ha : a.size ≤ maxLen) (hb : b.size ≤ maxLen) :
    Calls Try.prog 8 #[.string a, .string b] w fun e w' => e = .returned (.bool (decide (a.size + b.size ≤ 1048576))) ∧ w' = w := by
  unfold maxLen at ha hb
  by_cases h1 : 1048576 < (a.size : Int)
  · go_enter Try.func8, Try.ntmps8
    go_wp2
    go_ret
    exact ⟨by simp; omega, rfl⟩
  · by_cases h2 : 1048576 < (b.size : Int)
    · go_enter Try.func8, Try.ntmps8
      go_wp2
      go_ret
      exact ⟨by simp; omega, rfl⟩
    · by_cases h3 : 1048576 < (a.size : Int) + b.size
      · go_enter Try.func8, Try.ntmps8
        go_wp2
        go_ret
        exact ⟨by simp; omega, rfl⟩
      · go_enter Try.func8, Try.ntmps8
        go_wp2
        go_ret
        exact ⟨by simp; omega, rfl⟩

theorem pct_append (l : List UInt8) : (⟨l.toArray⟩ : ByteArray) ++ ⟨#[37]⟩ = ⟨(l ++ [37]).toArray⟩ := by
  apply ByteArray.ext
  rw [ByteArray.data_append]
  simp

theorem cut_last (l : List UInt8) : (⟨l.toArray⟩ : ByteArray).extract 0 (l.length - 1) = ⟨(l.take (l.length - 1)).toArray⟩ := by
  rw [Lib.extract_eq]
  simp

set_option maxHeartbeats 400000 in
theorem walk (a0 : ByteArray) (a1 : ByteArray) (w0 : a0.size ≤ maxLen) (w1 : a1.size ≤ maxLen) (w : World) :
    Calls Try.prog 4 #[.string a0, .string a1] w fun e w' => e = .returned (.bool true) ∧ Below w.heap.size w w' := by
  by_cases hb : a0.size + a1.size ≤ 1048576
  · have h8 : ∀ w, Calls Try.prog 8 #[.string a0, .string a1] w fun e w' => e = .returned (.bool true) ∧ w' = w := fun w => by
      have := bytes_any a0 a1 w w0 w1; rwa [decide_eq_true hb] at this
    have H8 : Hid (∀ w, Calls Try.prog 8 #[.string a0, .string a1] w fun e w' => e = .returned (.bool true) ∧ w' = w) := h8
    clear h8
    by_cases h1 : a0.size ≤ 65536
    · by_cases h2 : a1.size ≤ 65536
      · have e1 := encTo_length a0.data.toList a0.size
        obtain ⟨l, hl⟩ : ∃ l, encTo a0.data.toList a0.size = l := ⟨_, rfl⟩
        have g1 := encTo_good a0.data.toList a0.size
        have g2 := encTo_pct a0.data.toList a0.size
        have g3 := encTo_cut a0.data.toList a0.size
        have H9 : Hid (∀ w, Calls Try.prog 9 #[.string a0] w fun e w' => e = .returned (.string ⟨l.toArray⟩) ∧ Below w.heap.size w w') := by
          intro w; rw [← hl]; exact enc_any a0 w h1
        rw [hl] at e1 g1 g2 g3
        have G1 : Hid (good true l = true) := g1
        have G2 : Hid (good false (l ++ [37]) = true) := g2
        have G3 : Hid (0 < a0.size → good false (l.take (l.length - 1)) = true) := g3
        have hls : l.length ≤ 200000 := by omega
        have E1 : Hid (l.length = 3 * a0.size) := e1
        clear g1 g2 g3 hl e1
        go_enter Try.func4, Try.ntmps4
        go_wp2_with fail
        refine (H8.out _).mono ?_
        rintro e w' ⟨rfl, rfl⟩
        go_wp2_with fail
        refine (H9.out _).mono ?_
        rintro e w2 ⟨rfl, hbel⟩
        go_wp2_with fail
        refine (zzuri_any true l a1 _ (by omega) G1.out).mono ?_
        rintro e w' ⟨rfl, rfl⟩
        go_wp2_with fail
        rw [pct_append l]
        refine (zzuri_any false (l ++ [37]) a1 _ (by simp; omega) G2.out).mono ?_
        rintro e w' ⟨rfl, rfl⟩
        by_cases h0 : 0 < a0.size
        · have hl0 : 0 < (l.length : Int) := by have := E1.out; omega
          have G4 := G3.out h0
          have G5 : Hid (good false (l.take (l.length - 1)) = true) := G4
          clear G4
          go_wp2_with fail
          rw [cut_last l]
          refine (zzuri_any false (l.take (l.length - 1)) a1 _ (by simp; omega) G5.out).mono ?_
          rintro e w' ⟨rfl, rfl⟩
          go_wp2_with fail
          go_ret
          exact ⟨rfl, hbel⟩
        · have hl0 : ¬ 0 < (l.length : Int) := by have := E1.out; omega
          go_wp2_with fail
          go_ret
          exact ⟨rfl, hbel⟩
      · go_enter Try.func4, Try.ntmps4
        go_wp2_with fail
        refine (H8.out _).mono ?_
        rintro e w' ⟨rfl, rfl⟩
        go_wp2_with fail
        all_goals
          go_ret
          exact ⟨rfl, Below.refl _ _⟩
    · go_enter Try.func4, Try.ntmps4
      go_wp2_with fail
      refine (H8.out _).mono ?_
      rintro e w' ⟨rfl, rfl⟩
      go_wp2_with fail
      all_goals
        go_ret
        exact ⟨rfl, Below.refl _ _⟩
  · have h8 : ∀ w, Calls Try.prog 8 #[.string a0, .string a1] w fun e w' => e = .returned (.bool false) ∧ w' = w := fun w => by
      have := bytes_any a0 a1 w w0 w1; rwa [decide_eq_false hb] at this
    have H8 : Hid (∀ w, Calls Try.prog 8 #[.string a0, .string a1] w fun e w' => e = .returned (.bool false) ∧ w' = w) := h8
    clear h8
    go_enter Try.func4, Try.ntmps4
    go_wp2_with fail
    refine (H8.out _).mono ?_
    rintro e w' ⟨rfl, rfl⟩
    go_wp2_with fail
    go_ret
    exact ⟨rfl, Below.refl _ _⟩

set_option maxRecDepth 100000 in
theorem lifted (os : Os) (started : os.Started) (H : Type) (enc : TypeId × Value → H) :
    ReturnsInHanded {} Try.checked os 4 .any (Rows.fnURICharsEncodedSpec.pre6 enc Try.prog Try.f4 Rows.fnURICharsEncodedRow.domain false) (Rows.fnURICharsEncodedSpec.post enc Try.prog Try.f4 false true false false) := by
  refine returnsInHanded_of_change (C := Try.checked) own started (by kernel_rfl) Try.func4
    (ChangeSpec.witness6 (enc := enc) (C := Try.checked) false ⟨#[], #[.string ByteArray.empty, .string ByteArray.empty], []⟩ 8 (by kernel_rfl) (by kernel_rfl) (by kernel_rfl) (by kernel_rfl)) ?_
  intro W base args ds gs before hval0 hW hcnd _
  have hval : ∀ (j : Nat) t v, Try.f4.params[j]? = some t → args[j]? = some v → Value.okWide Try.prog W .any base t v := hval0
  have hW' := hW
  obtain ⟨p, q, hA0, hV, rfl, hfz, hnd⟩ := hW
  have hA : DataW.TrodAll enc Try.prog W 0 (fun _ => true) true Try.f4.params.toList args.toList ds p := hA0
  rw [Try.params4] at hA hval
  obtain ⟨v0, vs0, d0, ds0, p0, q0, hargs, rfl, rfl, h0, r0⟩ := trodAll_cons hA
  obtain ⟨v1, vs1, d1, ds1, p1, q1, rfl, rfl, rfl, h1, r1⟩ := trodAll_cons r0
  obtain ⟨rfl, rfl, rfl⟩ := trodAll_nil r1
  obtain rfl : args = #[v0, v1] := by cases args; simp_all
  obtain ⟨rfl, rfl⟩ := trodVars_none hV
  obtain ⟨a0, rfl, rfl, rfl, w0⟩ := open_string Try.underlying9 (hval 0 9 v0 rfl rfl) h0
  obtain ⟨a1, rfl, rfl, rfl, w1⟩ := open_string Try.underlying9 (hval 1 9 v1 rfl rfl) h1
  clear hA0 hval0
  refine (walk a0 a1 w0 w1 W).mono fun e W' ⟨he, bel⟩ => ?_
  subst he
  exact ⟨_, rfl, _, _, _, [], _, [], hW', trodAll_mk1 (shut_bool Try.underlying4 _), (trodAll_cons_mk (shut_string Try.underlying9 w0) (trodAll_cons_mk (shut_string Try.underlying9 w1) trodAll_mk0)), rfl, bel.frame _, fun h => by cases h⟩

theorem over : Rows.fnURICharsEncodedRow.holds Try.pinned (OpenSpec.ofChange Rows.fnURICharsEncodedSpec) :=
  OpenClaim.holds_of_wide 4 Try.f4 rfl rfl rfl rfl rfl rfl rfl ⟨rfl, rfl, rfl, rfl, rfl⟩ rfl rfl rfl rfl rfl (by kernel_rfl) Try.func4 (by kernel_rfl)
    (of_decide_eq_true (by kernel_rfl)) (by unfold Func.isWrapper; first | (rw [if_pos (by decide +kernel)]; kernel_rfl) | (rw [if_neg (by decide +kernel)]; exact ⟨rfl, rfl⟩))
    (fun os started H enc _ => lifted os started H enc)

/-- The statement. -/
theorem proved : Rows.FnURICharsEncodedSaid :=
  over
end Go.Proofs.Qxb6608519a.fnURICharsEncoded
