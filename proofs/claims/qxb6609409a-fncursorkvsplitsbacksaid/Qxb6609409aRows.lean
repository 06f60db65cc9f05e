/-
  No cell of these rows narrows 'for every input' (looked for: loops, veiled, ifaces, maps, wideKeys, modest, calm, conditions, laid).
  DERIVED. THE GIVEN ROWS OF THIS SEAT. 2 by the template 'for every input the law returns true; each argument reads behind the call as it read before'; 0 by the template 'total and deterministic' (their statements: Qxb6609409aTotals.lean).
  GIVEN WITH THE SEED: the statements are not yours to turn. If you find one false, say at which input.
  Laid BY PROGRAM, IN A SANDBOX (cutbox-rows.mjs): the forced cells as the released guide's own fill.sh prints them over the translation 87985a95e84b4518… (all of the seat's roots in one cut). By AI agents, Wed Nov 11 2026. No macro, syntax, notation, axiom, sorry.
-/
import Derived.Test.Qxb6609409aChecked
import GoSem.Claim
import GoSem.ClaimJoined
import GoSem.ClaimMapViews
import Derived.JoinedTies
import Derived.KernelRfl
namespace Go.Proofs.Qxb6609409a
/- THE CELL 'sum', in the pinned program and in every row, IS THE sha256 OF THE DUMP (.gsa) THAT Qxb6609409aProg.lean LOADS. Nothing in Lean hashes anything: it is a label: what it is worth is what the hold of that sum in a sandbox is worth. -/
noncomputable def Try.pinned : Pinned := { name := "qxb6609409a", sum := "87985a95e84b4518643b61dcb256ca2ca107a2265946704a8c4bce77e60e2ca8", checked := Try.checked }
namespace Rows
def none {H : Type} : Left H := { results := [], args := [] }

/-- 'zzlaws_internal_engine_b1.FnCursorKVSplitsBack': WHATEVER THE INPUT: true; the input reads as it did. -/
def fnCursorKVSplitsBackSpec : ChangeSpec := { name := "fnCursorKVSplitsBack", fn := fun _ => fun
  | [d1, d2, d3] => { results := [.lit (.bool true)], args := [d1, d2, d3] }
  | _ => none }
def fnCursorKVSplitsBackRow : OpenClaim := { program := "qxb6609409a", sum := "87985a95e84b4518643b61dcb256ca2ca107a2265946704a8c4bce77e60e2ca8", func := "example.com/interleave/interleave/zzlaws_internal_engine_b1.FnCursorKVSplitsBack", spec := "fnCursorKVSplitsBack", inPlace := ["internal/bytealg.IndexByteString", "internal/bytealg.IndexString"], named := ["internal/bytealg.MaxLen"], apart := false }
def FnCursorKVSplitsBackSaid : Prop := fnCursorKVSplitsBackRow.holds Try.pinned (OpenSpec.ofChange fnCursorKVSplitsBackSpec)

/-- ITS FALSE NEIGHBOUR: 'it returns false'. Refute it at one input. -/
def fnCursorKVSplitsBackWrong : ChangeSpec := { name := "fnCursorKVSplitsBack", fn := fun _ => fun
  | [d1, d2, d3] => { results := [.lit (.bool false)], args := [d1, d2, d3] }
  | _ => none }
def FnCursorKVSplitsBackWrongFalsely : Prop := fnCursorKVSplitsBackRow.holds Try.pinned (OpenSpec.ofChange fnCursorKVSplitsBackWrong)

/-- 'zzlaws_internal_engine_b1.FnCursorKVKeysInjective': WHATEVER THE INPUT: true; the input reads as it did. -/
def fnCursorKVKeysInjectiveSpec : ChangeSpec := { name := "fnCursorKVKeysInjective", fn := fun _ => fun
  | [d1, d2, d3, d4] => { results := [.lit (.bool true)], args := [d1, d2, d3, d4] }
  | _ => none }
def fnCursorKVKeysInjectiveRow : OpenClaim := { program := "qxb6609409a", sum := "87985a95e84b4518643b61dcb256ca2ca107a2265946704a8c4bce77e60e2ca8", func := "example.com/interleave/interleave/zzlaws_internal_engine_b1.FnCursorKVKeysInjective", spec := "fnCursorKVKeysInjective", inPlace := ["internal/bytealg.IndexByteString", "internal/bytealg.IndexString"], named := ["internal/bytealg.MaxLen"], apart := false }
def FnCursorKVKeysInjectiveSaid : Prop := fnCursorKVKeysInjectiveRow.holds Try.pinned (OpenSpec.ofChange fnCursorKVKeysInjectiveSpec)

/-- ITS FALSE NEIGHBOUR: 'it returns false'. Refute it at one input. -/
def fnCursorKVKeysInjectiveWrong : ChangeSpec := { name := "fnCursorKVKeysInjective", fn := fun _ => fun
  | [d1, d2, d3, d4] => { results := [.lit (.bool false)], args := [d1, d2, d3, d4] }
  | _ => none }
def FnCursorKVKeysInjectiveWrongFalsely : Prop := fnCursorKVKeysInjectiveRow.holds Try.pinned (OpenSpec.ofChange fnCursorKVKeysInjectiveWrong)

end Rows
end Go.Proofs.Qxb6609409a
