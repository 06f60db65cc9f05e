/- The closed facts for a walk over fmt.errorf at this dump (as the kit's CheckFmt.lean has them at its own), and Errorf's two calls. -/
import Derived.Test.Qxb6608858aFmtProg
import Derived.Stop.CallBack
import Derived.Stop.IfaceNil
import Derived.WalkKit
import Derived.WalkSpells
import Derived.WalkLawsBesides
import GoSem.ClaimData
namespace Go.Proofs.Qxb6608858aFmt
open Go.RowKit Go.Extern.Stop Go.Stop Go.Extern

theorem call19 (args : Array Value) (w : World) : (callFunc 19 args).run Tryf.prog w = ((FmtStop.errorf #[9, 50] #[27] args).run Tryf.prog w).andThen fun v w' => .ok (.value v) w' :=
  run_callFunc_extern Tryf.func19 (by kernel_rfl) (by kernel_rfl) (by kernel_rfl) (by kernel_rfl) args w
theorem guard (name : String) (w : World) : (FmtStop.guard name).run Tryf.prog w = .ok () w := by kernel_rfl
theorem fmtA3 : FmtStop.printed? ⟨#[115, 116, 121, 108, 101, 32, 119, 111, 114, 100, 115, 32, 37, 113, 32, 97, 110, 100, 32, 37, 113, 32, 101, 120, 99, 108, 117, 100, 101, 32, 101, 97, 99, 104, 32, 111, 116, 104, 101, 114, 58, 32, 97, 32, 115, 116, 121, 108, 101, 32, 104, 97, 115, 32, 111, 110, 101, 32, 37, 115]⟩ 3 = some [(0, 113, false), (1, 113, false), (2, 115, false)] := by kernel_rfl
theorem fmtA3r (w : World) : (FmtDoors.printed ⟨#[115, 116, 121, 108, 101, 32, 119, 111, 114, 100, 115, 32, 37, 113, 32, 97, 110, 100, 32, 37, 113, 32, 101, 120, 99, 108, 117, 100, 101, 32, 101, 97, 99, 104, 32, 111, 116, 104, 101, 114, 58, 32, 97, 32, 115, 116, 121, 108, 101, 32, 104, 97, 115, 32, 111, 110, 101, 32, 37, 115]⟩ 3).run Tryf.prog w = .ok [(0, 113, false), (1, 113, false), (2, 115, false)] w := by kernel_rfl
theorem fmtB2 : FmtStop.printed? ⟨#[115, 116, 121, 108, 101, 32, 119, 111, 114, 100, 32, 37, 113, 32, 105, 115, 32, 103, 105, 118, 101, 110, 32, 116, 119, 105, 99, 101, 58, 32, 97, 32, 115, 116, 121, 108, 101, 32, 104, 97, 115, 32, 111, 110, 101, 32, 37, 115]⟩ 2 = some [(0, 113, false), (1, 115, false)] := by kernel_rfl
theorem fmtB2r (w : World) : (FmtDoors.printed ⟨#[115, 116, 121, 108, 101, 32, 119, 111, 114, 100, 32, 37, 113, 32, 105, 115, 32, 103, 105, 118, 101, 110, 32, 116, 119, 105, 99, 101, 58, 32, 97, 32, 115, 116, 121, 108, 101, 32, 104, 97, 115, 32, 111, 110, 101, 32, 37, 115]⟩ 2).run Tryf.prog w = .ok [(0, 113, false), (1, 115, false)] w := by kernel_rfl
def shape9 : List UInt8 := [12, 6, 0, 0, 0, 0, 0, 0, 0, 115, 116, 114, 105, 110, 103]
theorem op9_113w (name : String) (x : ByteArray) (w : World) : (FmtStop.operand name true 113 false (.iface 9 (.string x))).run Tryf.prog w = .ok (shape9, FmtStop.pack x.data.toList) w := by kernel_rfl
theorem op9_115w (name : String) (x : ByteArray) (w : World) : (FmtStop.operand name true 115 false (.iface 9 (.string x))).run Tryf.prog w = .ok (shape9, FmtStop.pack x.data.toList) w := by kernel_rfl
theorem ptr54 (w : World) : (FmtStop.ptrTo "errors.errorString").run Tryf.prog w = .ok 54 w := by kernel_rfl
theorem elem54 (w : World) : (elemOf 54).run Tryf.prog w = .ok 56 w := by kernel_rfl
theorem isError54 (w : World) : (FmtDoors.textMethod 54 "Error").run Tryf.prog w = .ok true w := by kernel_rfl
attribute [local go_sem] call19 guard fmtA3 fmtA3r fmtB2 fmtB2r op9_113w op9_115w ptr54 elem54 isError54

set_option maxHeartbeats 400000 in
theorem errorfA (F : Interp) (x y z : ByteArray) (w : World) (blk : Nat) (hF : F.answers w.tape)
    (hc0 : w.cell? ⟨blk, 0, none⟩ = some (.iface 9 (.string x))) (hc1 : w.cell? ⟨blk, 1, none⟩ = some (.iface 9 (.string y))) (hc2 : w.cell? ⟨blk, 2, none⟩ = some (.iface 9 (.string z))) :
    Calls Tryf.prog 17 #[.string ⟨#[115, 116, 121, 108, 101, 32, 119, 111, 114, 100, 115, 32, 37, 113, 32, 97, 110, 100, 32, 37, 113, 32, 101, 120, 99, 108, 117, 100, 101, 32, 101, 97, 99, 104, 32, 111, 116, 104, 101, 114, 58, 32, 97, 32, 115, 116, 121, 108, 101, 32, 104, 97, 115, 32, 111, 110, 101, 32, 37, 115]⟩, .slice (some ⟨blk, 0, none⟩) 3 3] w fun e w' =>
      e = .returned (.iface 54 (.pointer (some ⟨w.heap.size, 0, none⟩))) ∧ Below w.heap.size w w' := by
  have hF' := answers_open hF
  go_enter Tryf.func17, Tryf.ntmps17
  go_wp2
  go_ret
  exact ⟨rfl, ((Below.refl _ _).alloc (Nat.le_refl _) _).drew⟩

set_option maxHeartbeats 400000 in
theorem errorfB (F : Interp) (x y : ByteArray) (w : World) (blk : Nat) (hF : F.answers w.tape)
    (hc0 : w.cell? ⟨blk, 0, none⟩ = some (.iface 9 (.string x))) (hc1 : w.cell? ⟨blk, 1, none⟩ = some (.iface 9 (.string y))) :
    Calls Tryf.prog 17 #[.string ⟨#[115, 116, 121, 108, 101, 32, 119, 111, 114, 100, 32, 37, 113, 32, 105, 115, 32, 103, 105, 118, 101, 110, 32, 116, 119, 105, 99, 101, 58, 32, 97, 32, 115, 116, 121, 108, 101, 32, 104, 97, 115, 32, 111, 110, 101, 32, 37, 115]⟩, .slice (some ⟨blk, 0, none⟩) 2 2] w fun e w' =>
      e = .returned (.iface 54 (.pointer (some ⟨w.heap.size, 0, none⟩))) ∧ Below w.heap.size w w' := by
  have hF' := answers_open hF
  go_enter Tryf.func17, Tryf.ntmps17
  go_wp2
  go_ret
  exact ⟨rfl, ((Below.refl _ _).alloc (Nat.le_refl _) _).drew⟩
end Go.Proofs.Qxb6608858aFmt
