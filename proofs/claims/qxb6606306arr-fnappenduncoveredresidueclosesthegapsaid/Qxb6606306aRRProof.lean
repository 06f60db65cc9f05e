/- The statement FnAppendUncoveredResidueClosesTheGapSaid (the frame by the kit's proof-skeleton.mjs). -/
import Derived.Test.Qxb6606306aRRRows
import Derived.Test.Qxb6606306aRRL2
import Derived.Test.Qxb6606306aRRR1
import Derived.Test.Qxb6606306aRRZ4
import Derived.WalkKit
import Derived.ProofKit
import Derived.OpenShut
import Derived.ChangeOld
import Derived.Below
namespace Go.Proofs.Qxb6606306aRR.fnAppendUncoveredResidueClosesTheGap
open Go.ChangeShapes Go.WideShapes Go.ChangeAt Go.RowKit
set_option linter.unusedVariables false

theorem own : ownKnob Try.prog.godebug = none := by kernel_rfl
theorem laidOut : laidOutB Try.prog = true := by kernel_rfl

theorem walk (c0 c1 c2 c3 c4 sv : Value) (r : RuleD) (es : List EntryD) (w : World) (hV : RuleV Any w c0 c1 c2 c3 c4 r) (hE : Entries Any w sv es) :
    Calls Try.prog 4 #[.agg #[c0, c1, c2, c3, c4, .bool r.any], sv] w fun e w' => e = .returned (.bool true) ∧ Below w.heap.size w w' :=
  law_any Any c0 c1 c2 c3 c4 sv r es w hV hE fun W hW => zzBytes_any Any c0 c1 c2 c3 c4 sv r es W (hV.same (Same.of_below hW)) (hE.same (Same.of_below hW))

set_option maxRecDepth 100000 in
theorem lifted (os : Os) (started : os.Started) (H : Type) (enc : TypeId × Value → H) :
    ReturnsInHanded {} Try.checked os 4 .any (Rows.fnAppendUncoveredResidueClosesTheGapSpec.pre6 enc Try.prog Try.f4 Rows.fnAppendUncoveredResidueClosesTheGapRow.domain false) (Rows.fnAppendUncoveredResidueClosesTheGapSpec.post enc Try.prog Try.f4 false true false false) := by
  refine returnsInHanded_of_change (C := Try.checked) own started (by kernel_rfl) Try.func4
    (ChangeSpec.witness6 (enc := enc) (C := Try.checked) false ⟨#[], #[.agg #[.slice none 0 0, .slice none 0 0, .slice none 0 0, .slice none 0 0, .slice none 0 0, .bool false], .slice none 0 0], []⟩ 8 (by kernel_rfl) (by kernel_rfl) (by kernel_rfl) (by kernel_rfl)) ?_
  intro W base args ds gs before hval0 hW hcnd _
  have hval : ∀ (j : Nat) t v, Try.f4.params[j]? = some t → args[j]? = some v → Value.okWide Try.prog W .any base t v := hval0
  have hW' := hW
  obtain ⟨p, q, hA0, hV, rfl, hfz, hnd⟩ := hW
  have hA : DataW.TrodAll enc Try.prog W 0 (fun _ => true) true Try.f4.params.toList args.toList ds p := hA0
  rw [Try.params4] at hA hval
  obtain ⟨v0, vs0, d0, ds0, p0, q0, hargs, rfl, rfl, h0, r0⟩ := trodAll_cons hA
  obtain ⟨v1, vs1, d1, ds1, p1, q1, rfl, rfl, rfl, h1, r1⟩ := trodAll_cons r0
  obtain ⟨rfl, rfl, rfl⟩ := trodAll_nil r1
  obtain rfl : args = #[v0, v1] := by cases args; simp_all
  obtain ⟨rfl, rfl⟩ := trodVars_none hV
  obtain ⟨cs, rfl, hcs⟩ := okWide_struct Try.underlying26 (hval 0 26 v0 rfl rfl)
  obtain ⟨a1, len1, cap1, rfl⟩ := okWide_slice Try.underlying33 (hval 1 33 v1 rfl rfl)
  have k0 := h0
  have k1 := h1
  have lt0 : ∀ x ∈ p0, x.block < W.heap.size := by obtain ⟨m, hm⟩ := k0; exact DataW.trod_lt m _ _ _ hm
  have lt1 : ∀ x ∈ p1, x.block < W.heap.size := by obtain ⟨m, hm⟩ := k1; exact DataW.trod_lt m _ _ _ hm
  obtain ⟨c0, c1, c2, c3, c4, r, rfl, hR⟩ : ∃ c0 c1 c2 c3 c4 r, cs = #[c0, c1, c2, c3, c4, .bool (RuleD.any r)] ∧ RuleV Any W c0 c1 c2 c3 c4 r := by
    obtain ⟨fuel, hf⟩ := h0
    obtain ⟨c0, c1, c2, c3, c4, r, e, hv⟩ := rule_down hf
    refine ⟨c0, c1, c2, c3, c4, r, ?_, hv⟩
    cases cs
    simp [Value.cells] at e
    simp [e]
  obtain ⟨es, hE⟩ : ∃ es, Entries Any W (.slice a1 len1 cap1) es := by
    obtain ⟨fuel, hf⟩ := h1
    obtain ⟨v, es, e, hv⟩ := entries_down hf
    simp [Value.cells] at e
    subst e
    exact ⟨es, hv⟩
  clear hA0 hval0
  refine (walk c0 c1 c2 c3 c4 _ r es W hR hE).mono fun e W' ⟨he, bel⟩ => ?_
  subst he
  exact ⟨_, rfl, _, _, _, [], _, [], hW', trodAll_mk1 (shut_bool Try.underlying4 _), (trodAll_cons_mk (Below.trod laidOut (by kernel_rfl) (of_decide_eq_true (by kernel_rfl)) k0 bel lt0) (trodAll_cons_mk (Below.trod laidOut (by kernel_rfl) (of_decide_eq_true (by kernel_rfl)) k1 bel lt1) trodAll_mk0)), rfl, bel.frame _, fun h => by cases h⟩

theorem over : Rows.fnAppendUncoveredResidueClosesTheGapRow.holds Try.pinned (OpenSpec.ofChange Rows.fnAppendUncoveredResidueClosesTheGapSpec) :=
  OpenClaim.holds_of_wide 4 Try.f4 rfl rfl rfl rfl rfl rfl rfl ⟨rfl, rfl, rfl, rfl, rfl⟩ rfl rfl rfl rfl rfl (by kernel_rfl) Try.func4 (by kernel_rfl)
    (of_decide_eq_true (by kernel_rfl)) (by unfold Func.isWrapper; first | (rw [if_pos (by decide +kernel)]; kernel_rfl) | (rw [if_neg (by decide +kernel)]; exact ⟨rfl, rfl⟩))
    (fun os started H enc _ => lifted os started H enc)

/-- The statement. -/
theorem proved : Rows.FnAppendUncoveredResidueClosesTheGapSaid := over
end Go.Proofs.Qxb6606306aRR.fnAppendUncoveredResidueClosesTheGap
