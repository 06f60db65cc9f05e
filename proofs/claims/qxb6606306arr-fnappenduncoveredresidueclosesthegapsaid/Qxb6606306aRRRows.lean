/-
  No cell of these rows narrows 'for every input' (looked for: loops, veiled, ifaces, maps, wideKeys, modest, calm, conditions, laid).
  DERIVED. THE GIVEN ROWS OF THIS SEAT. 2 by the template 'for every input the law returns true; each argument reads behind the call as it read before'; 0 by the template 'total and deterministic' (their statements: Qxb6606306aRRTotals.lean).
  GIVEN WITH THE SEED: the statements are not yours to turn. If you find one false, say at which input.
  Laid BY PROGRAM, IN A SANDBOX (cutbox-rows.mjs): the forced cells as the released guide's own fill.sh prints them over the translation 760d5016afb97bab… (all of the seat's roots in one cut). By AI agents, Wed Nov 11 2026. No macro, syntax, notation, axiom, sorry.
-/
import Derived.Test.Qxb6606306aRRChecked
import GoSem.Claim
import GoSem.ClaimJoined
import GoSem.ClaimMapViews
import Derived.JoinedTies
import Derived.KernelRfl
namespace Go.Proofs.Qxb6606306aRR
/- THE CELL 'sum', in the pinned program and in every row, IS THE sha256 OF THE DUMP (.gsa) THAT Qxb6606306aRRProg.lean LOADS. Nothing in Lean hashes anything: it is a label: what it is worth is what the hold of that sum in a sandbox is worth. -/
noncomputable def Try.pinned : Pinned := { name := "qxb6606306arr", sum := "760d5016afb97bab18d9841e30ba2f7d94c88626afabe4646966ee7b1d7392be", checked := Try.checked }
namespace Rows
def none {H : Type} : Left H := { results := [], args := [] }

/-- 'zzlaws_authz_b1.FnCoverResourceNeedsEveryPrefixWithAnySubresource': WHATEVER THE INPUT: true; the input reads as it did. -/
def fnCoverResourceNeedsEveryPrefixWithAnySubresourceSpec : ChangeSpec := { name := "fnCoverResourceNeedsEveryPrefixWithAnySubresource", fn := fun _ => fun
  | [d1, d2, d3, d4] => { results := [.lit (.bool true)], args := [d1, d2, d3, d4] }
  | _ => none }
def fnCoverResourceNeedsEveryPrefixWithAnySubresourceRow : OpenClaim := { program := "qxb6606306arr", sum := "760d5016afb97bab18d9841e30ba2f7d94c88626afabe4646966ee7b1d7392be", func := "example.com/verdict/verdict/zzlaws_authz_b1.FnCoverResourceNeedsEveryPrefixWithAnySubresource", spec := "fnCoverResourceNeedsEveryPrefixWithAnySubresource", inPlace := ["internal/bytealg.IndexByteString", "internal/bytealg.IndexString"], unfollowed := true, recurses := true, named := ["internal/bytealg.MaxLen"], plainKeys := false, apart := false }
def FnCoverResourceNeedsEveryPrefixWithAnySubresourceSaid : Prop := fnCoverResourceNeedsEveryPrefixWithAnySubresourceRow.holds Try.pinned (OpenSpec.ofChange fnCoverResourceNeedsEveryPrefixWithAnySubresourceSpec)

/-- ITS FALSE NEIGHBOUR: 'it returns false'. Refute it at one input. -/
def fnCoverResourceNeedsEveryPrefixWithAnySubresourceWrong : ChangeSpec := { name := "fnCoverResourceNeedsEveryPrefixWithAnySubresource", fn := fun _ => fun
  | [d1, d2, d3, d4] => { results := [.lit (.bool false)], args := [d1, d2, d3, d4] }
  | _ => none }
def FnCoverResourceNeedsEveryPrefixWithAnySubresourceWrongFalsely : Prop := fnCoverResourceNeedsEveryPrefixWithAnySubresourceRow.holds Try.pinned (OpenSpec.ofChange fnCoverResourceNeedsEveryPrefixWithAnySubresourceWrong)

/-- 'zzlaws_authz_b1.FnAppendUncoveredResidueClosesTheGap': WHATEVER THE INPUT: true; the input reads as it did. -/
def fnAppendUncoveredResidueClosesTheGapSpec : ChangeSpec := { name := "fnAppendUncoveredResidueClosesTheGap", fn := fun _ => fun
  | [d1, d2] => { results := [.lit (.bool true)], args := [d1, d2] }
  | _ => none }
def fnAppendUncoveredResidueClosesTheGapRow : OpenClaim := { program := "qxb6606306arr", sum := "760d5016afb97bab18d9841e30ba2f7d94c88626afabe4646966ee7b1d7392be", func := "example.com/verdict/verdict/zzlaws_authz_b1.FnAppendUncoveredResidueClosesTheGap", spec := "fnAppendUncoveredResidueClosesTheGap", inPlace := ["internal/bytealg.IndexByteString", "internal/bytealg.IndexString"], unfollowed := true, recurses := true, named := ["internal/bytealg.MaxLen"], plainKeys := false, apart := false }
def FnAppendUncoveredResidueClosesTheGapSaid : Prop := fnAppendUncoveredResidueClosesTheGapRow.holds Try.pinned (OpenSpec.ofChange fnAppendUncoveredResidueClosesTheGapSpec)

/-- ITS FALSE NEIGHBOUR: 'it returns false'. Refute it at one input. -/
def fnAppendUncoveredResidueClosesTheGapWrong : ChangeSpec := { name := "fnAppendUncoveredResidueClosesTheGap", fn := fun _ => fun
  | [d1, d2] => { results := [.lit (.bool false)], args := [d1, d2] }
  | _ => none }
def FnAppendUncoveredResidueClosesTheGapWrongFalsely : Prop := fnAppendUncoveredResidueClosesTheGapRow.holds Try.pinned (OpenSpec.ofChange fnAppendUncoveredResidueClosesTheGapWrong)

end Rows
end Go.Proofs.Qxb6606306aRR
