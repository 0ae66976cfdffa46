/-
  No cell of these rows narrows 'for every input' (looked for: loops, veiled, ifaces, maps, wideKeys, modest, calm, conditions, laid).
  DERIVED. THE GIVEN ROWS OF THIS SEAT. 4 by the template 'for every input the law returns true; each argument reads behind the call as it read before'; 0 by the template 'total and deterministic' (their statements: Qxb6604013aTotals.lean).
  GIVEN WITH THE SEED: the statements are not yours to turn. If you find one false, say at which input.
  Laid BY PROGRAM, IN A SANDBOX (cutbox-rows.mjs): the forced cells as the released guide's own fill.sh prints them over the translation aa37393cd43da0fd… (all of the seat's roots in one cut). By AI agents, Wed Nov 11 2026. No macro, syntax, notation, axiom, sorry.
-/
import Derived.Test.Qxb6604013aChecked
import GoSem.Claim
import GoSem.ClaimJoined
import GoSem.ClaimMapViews
import Derived.JoinedTies
import Derived.KernelRfl
namespace Go.Proofs.Qxb6604013a
/- THE CELL 'sum', in the pinned program and in every row, IS THE sha256 OF THE DUMP (.gsa) THAT Qxb6604013aProg.lean LOADS. Nothing in Lean hashes anything: it is a label: what it is worth is what the hold of that sum in a sandbox is worth. -/
noncomputable def Try.pinned : Pinned := { name := "qxb6604013a", sum := "aa37393cd43da0fda85d02977b96aa93bf2044d07919de376093bd05d74b88ec", checked := Try.checked }
namespace Rows
def none {H : Type} : Left H := { results := [], args := [] }

/-- 'zzlaws_internal_terminal_b1.FnMemoryAddCopiesPackedLine': WHATEVER THE INPUT: true; the input reads as it did. -/
def fnMemoryAddCopiesPackedLineSpec : ChangeSpec := { name := "fnMemoryAddCopiesPackedLine", fn := fun _ => fun
  | [d1, d2] => { results := [.lit (.bool true)], args := [d1, d2] }
  | _ => none }
def fnMemoryAddCopiesPackedLineRow : OpenClaim := { program := "qxb6604013a", sum := "aa37393cd43da0fda85d02977b96aa93bf2044d07919de376093bd05d74b88ec", func := "example.com/roundtable/roundtable/zzlaws_internal_terminal_b1.FnMemoryAddCopiesPackedLine", spec := "fnMemoryAddCopiesPackedLine", apart := false }
def FnMemoryAddCopiesPackedLineSaid : Prop := fnMemoryAddCopiesPackedLineRow.holds Try.pinned (OpenSpec.ofChange fnMemoryAddCopiesPackedLineSpec)

/-- ITS FALSE NEIGHBOUR: 'it returns false'. Refute it at one input. -/
def fnMemoryAddCopiesPackedLineWrong : ChangeSpec := { name := "fnMemoryAddCopiesPackedLine", fn := fun _ => fun
  | [d1, d2] => { results := [.lit (.bool false)], args := [d1, d2] }
  | _ => none }
def FnMemoryAddCopiesPackedLineWrongFalsely : Prop := fnMemoryAddCopiesPackedLineRow.holds Try.pinned (OpenSpec.ofChange fnMemoryAddCopiesPackedLineWrong)

/-- 'zzlaws_internal_terminal_b1.FnMemoryAddScriptKeepsEveryLine': WHATEVER THE INPUT: true; the input reads as it did. -/
def fnMemoryAddScriptKeepsEveryLineSpec : ChangeSpec := { name := "fnMemoryAddScriptKeepsEveryLine", fn := fun _ => fun
  | [d1, d2] => { results := [.lit (.bool true)], args := [d1, d2] }
  | _ => none }
def fnMemoryAddScriptKeepsEveryLineRow : OpenClaim := { program := "qxb6604013a", sum := "aa37393cd43da0fda85d02977b96aa93bf2044d07919de376093bd05d74b88ec", func := "example.com/roundtable/roundtable/zzlaws_internal_terminal_b1.FnMemoryAddScriptKeepsEveryLine", spec := "fnMemoryAddScriptKeepsEveryLine", apart := false }
def FnMemoryAddScriptKeepsEveryLineSaid : Prop := fnMemoryAddScriptKeepsEveryLineRow.holds Try.pinned (OpenSpec.ofChange fnMemoryAddScriptKeepsEveryLineSpec)

/-- ITS FALSE NEIGHBOUR: 'it returns false'. Refute it at one input. -/
def fnMemoryAddScriptKeepsEveryLineWrong : ChangeSpec := { name := "fnMemoryAddScriptKeepsEveryLine", fn := fun _ => fun
  | [d1, d2] => { results := [.lit (.bool false)], args := [d1, d2] }
  | _ => none }
def FnMemoryAddScriptKeepsEveryLineWrongFalsely : Prop := fnMemoryAddScriptKeepsEveryLineRow.holds Try.pinned (OpenSpec.ofChange fnMemoryAddScriptKeepsEveryLineWrong)

/-- 'zzlaws_internal_terminal_b1.FnFillSetsEveryCell': WHATEVER THE INPUT: true; the input reads as it did. -/
def fnFillSetsEveryCellSpec : ChangeSpec := { name := "fnFillSetsEveryCell", fn := fun _ => fun
  | [d1, d2] => { results := [.lit (.bool true)], args := [d1, d2] }
  | _ => none }
def fnFillSetsEveryCellRow : OpenClaim := { program := "qxb6604013a", sum := "aa37393cd43da0fda85d02977b96aa93bf2044d07919de376093bd05d74b88ec", func := "example.com/roundtable/roundtable/zzlaws_internal_terminal_b1.FnFillSetsEveryCell", spec := "fnFillSetsEveryCell", apart := false }
def FnFillSetsEveryCellSaid : Prop := fnFillSetsEveryCellRow.holds Try.pinned (OpenSpec.ofChange fnFillSetsEveryCellSpec)

/-- ITS FALSE NEIGHBOUR: 'it returns false'. Refute it at one input. -/
def fnFillSetsEveryCellWrong : ChangeSpec := { name := "fnFillSetsEveryCell", fn := fun _ => fun
  | [d1, d2] => { results := [.lit (.bool false)], args := [d1, d2] }
  | _ => none }
def FnFillSetsEveryCellWrongFalsely : Prop := fnFillSetsEveryCellRow.holds Try.pinned (OpenSpec.ofChange fnFillSetsEveryCellWrong)

/-- 'zzlaws_internal_terminal_b1.FnFillLeavesRoomBehindUntouched': WHATEVER THE INPUT: true; the input reads as it did. -/
def fnFillLeavesRoomBehindUntouchedSpec : ChangeSpec := { name := "fnFillLeavesRoomBehindUntouched", fn := fun _ => fun
  | [d1, d2, d3] => { results := [.lit (.bool true)], args := [d1, d2, d3] }
  | _ => none }
def fnFillLeavesRoomBehindUntouchedRow : OpenClaim := { program := "qxb6604013a", sum := "aa37393cd43da0fda85d02977b96aa93bf2044d07919de376093bd05d74b88ec", func := "example.com/roundtable/roundtable/zzlaws_internal_terminal_b1.FnFillLeavesRoomBehindUntouched", spec := "fnFillLeavesRoomBehindUntouched", apart := false }
def FnFillLeavesRoomBehindUntouchedSaid : Prop := fnFillLeavesRoomBehindUntouchedRow.holds Try.pinned (OpenSpec.ofChange fnFillLeavesRoomBehindUntouchedSpec)

/-- ITS FALSE NEIGHBOUR: 'it returns false'. Refute it at one input. -/
def fnFillLeavesRoomBehindUntouchedWrong : ChangeSpec := { name := "fnFillLeavesRoomBehindUntouched", fn := fun _ => fun
  | [d1, d2, d3] => { results := [.lit (.bool false)], args := [d1, d2, d3] }
  | _ => none }
def FnFillLeavesRoomBehindUntouchedWrongFalsely : Prop := fnFillLeavesRoomBehindUntouchedRow.holds Try.pinned (OpenSpec.ofChange fnFillLeavesRoomBehindUntouchedWrong)

end Rows
end Go.Proofs.Qxb6604013a
