/- What the two laws' rows share: a pointer to a string, opened; the program's closed facts. -/
import Derived.Test.Qxb6608858aFmtRows
import Derived.WalkKit
import Derived.ProofKit
import Derived.ShutString
import Derived.OpenShut
import Derived.Stop.JoinedTold
import Derived.SevenToldRow
namespace Go.Proofs.Qxb6608858aFmt
open Go.ChangeShapes Go.WideShapes Go.ChangeAt Go.RowKit Go.Extern.Stop Go.Stop Go.Extern
open Go.ChangeMaps (open_string shut_string)
set_option linter.unusedVariables false

theorem own : ownKnob Tryf.prog.godebug = none := by kernel_rfl
theorem laidOut : laidOutB Tryf.prog = true := by kernel_rfl
theorem cells9 : Tryf.prog.cellsOf 9 = 1 := by kernel_rfl

/-- A pointer to a string, opened. -/
theorem open_ptr_str {H : Type} {enc : TypeId × Value → H} {W : World} {r : Reach} {b0 base : Nat} {sp : Nat → Bool} {held : Bool} {v : Value} {d : DataW H} {ps : List MemPlace}
    (hval : Value.okWide Tryf.prog W r b0 31 v) (hd : DataW.Trod enc Tryf.prog W base sp held 31 v d ps) :
    v = .pointer none ∨ ∃ b off c, v = .pointer (some ⟨b, off, none⟩) ∧ W.cell? ⟨b, off, none⟩ = some (.string c) := by
  rcases Go.ChangeShapes.open_ptr Tryf.underlying31 (by rw [cells9]; omega) hval hd with ⟨h, _, _⟩ | ⟨b, off, cs, y, fuel, h, _, _, hlen, hcell, hy⟩
  · exact .inl h
  · right
    rw [cells9] at hlen hcell
    obtain ⟨c0, rfl⟩ := List.length_eq_one_iff.1 hlen
    obtain ⟨c, e0, _⟩ := DataW.trod_string Tryf.underlying9 hy
    have h0 := hcell 0 (by omega)
    simp at h0 e0
    subst e0
    exact ⟨b, off, c, h, h0⟩

theorem stops : Tryf.pinned.checked.prog.stops = ["fmt.errorf"] := by kernel_rfl
theorem stopKnobs : Tryf.pinned.checked.prog.stopKnobs = [] := by kernel_rfl
theorem quiet (os : Os) : Stop.quiet Tryf.pinned.checked.prog os := by
  intro k hk
  rw [stopKnobs] at hk
  cases hk
end Go.Proofs.Qxb6608858aFmt
