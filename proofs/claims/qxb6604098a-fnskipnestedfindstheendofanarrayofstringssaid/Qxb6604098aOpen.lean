/-
  How byte slices read.
-/
import Derived.Test.Qxb6604098aRows
import Derived.Test.Qxb6604098aWalk1
import Derived.WalkKit
import Derived.ProofKit
import Derived.OpenShut
import Derived.ShutString
import Derived.ChangeOld
import Derived.Below
namespace Go.Proofs.Qxb6604098a
open Go.ChangeShapes Go.WideShapes Go.ChangeAt Go.RowKit
set_option linter.unusedVariables false

theorem own : ownKnob Try.prog.godebug = none := by kernel_rfl
theorem laidOut : laidOutB Try.prog = true := by kernel_rfl
theorem cells5 : Try.prog.cellsOf 5 = 1 := by kernel_rfl

section
variable {H : Type} {enc : TypeId × Value → H} {w : World} {base : Nat} {spare : Nat → Bool} {held : Bool}
/-- A slice of bytes, cell by cell. -/
theorem open_bytes_cells {fuel : Nat} {x : DataW H × List MemPlace} {a0 : Option Addr} {len cap : Nat} (hf : DataW.trod enc Try.prog w base (fun _ => true) held fuel 22 [.slice a0 len cap] = some x) :
    (a0 = none → len = 0 ∧ cap = 0) ∧ ∃ b off B, IsBytes w a0 len b off B := by
  rcases open_ints Try.underlying22 Try.underlying5 cells5 hf with ⟨hcs, _⟩ | ⟨y, l, c, zs, hcs, _, hl, hm, hz, _, hcell, hwz⟩
  · simp at hcs
    obtain ⟨rfl, rfl, rfl⟩ := hcs
    exact ⟨fun _ => ⟨rfl, rfl⟩, 0, 0, fun _ => 0, fun h => by omega, fun i hi => by omega⟩
  · simp at hcs
    obtain ⟨rfl, rfl, rfl⟩ := hcs
    simp only [if_true] at hz
    refine ⟨(fun h => by cases h), y.block, y.off, fun i => zs.getD i 0, fun h => ?_, fun i hi => ?_⟩
    · have := World.cell?_spot (a := y) (by simpa [Addr.add] using hcell 0 (by omega))
      obtain ⟨b, off, sp⟩ := y
      have hsp : sp = none := this
      rw [hsp]
    · have h0 := World.cell?_spot (a := y) (by simpa [Addr.add] using hcell 0 (by omega))
      obtain ⟨b, off, sp⟩ := y
      have hsp : sp = none := h0
      subst hsp
      have := hcell i (by omega)
      rwa [Addr.add_mid] at this
end
end Go.Proofs.Qxb6604098a
