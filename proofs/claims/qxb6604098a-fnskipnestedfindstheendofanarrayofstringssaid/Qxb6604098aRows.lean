/-
  No cell of these rows narrows 'for every input' (looked for: loops, veiled, ifaces, maps, wideKeys, modest, calm, conditions, laid).
  DERIVED. THE GIVEN ROWS OF THIS SEAT. 4 by the template 'for every input the law returns true; each argument reads behind the call as it read before'; 0 by the template 'total and deterministic' (their statements: Qxb6604098aTotals.lean).
  GIVEN WITH THE SEED: the statements are not yours to turn. If you find one false, say at which input.
  Laid BY PROGRAM, IN A SANDBOX (cutbox-rows.mjs): the forced cells as the released guide's own fill.sh prints them over the translation f7ef82ba6eb881a0… (all of the seat's roots in one cut). By AI agents, Wed Nov 11 2026. No macro, syntax, notation, axiom, sorry.
-/
import Derived.Test.Qxb6604098aChecked
import GoSem.Claim
import GoSem.ClaimJoined
import GoSem.ClaimMapViews
import Derived.JoinedTies
import Derived.KernelRfl
namespace Go.Proofs.Qxb6604098a
/- THE CELL 'sum', in the pinned program and in every row, IS THE sha256 OF THE DUMP (.gsa) THAT Qxb6604098aProg.lean LOADS. Nothing in Lean hashes anything: it is a label: what it is worth is what the hold of that sum in a sandbox is worth. -/
noncomputable def Try.pinned : Pinned := { name := "qxb6604098a", sum := "f7ef82ba6eb881a00470d7dbe95d339fd80f5282ff4baa6c6495e229111c051b", checked := Try.checked }
namespace Rows
def none {H : Type} : Left H := { results := [], args := [] }

/-- 'zzlaws_internal_jsoninput_b1.FnSkipStringMatchesBackslashParityModel': WHATEVER THE INPUT: true; the input reads as it did. -/
def fnSkipStringMatchesBackslashParityModelSpec : ChangeSpec := { name := "fnSkipStringMatchesBackslashParityModel", fn := fun _ => fun
  | [d1, d2] => { results := [.lit (.bool true)], args := [d1, d2] }
  | _ => none }
def fnSkipStringMatchesBackslashParityModelRow : OpenClaim := { program := "qxb6604098a", sum := "f7ef82ba6eb881a00470d7dbe95d339fd80f5282ff4baa6c6495e229111c051b", func := "example.com/grant-bits/grant-bits/zzlaws_internal_jsoninput_b1.FnSkipStringMatchesBackslashParityModel", spec := "fnSkipStringMatchesBackslashParityModel", apart := false }
def FnSkipStringMatchesBackslashParityModelSaid : Prop := fnSkipStringMatchesBackslashParityModelRow.holds Try.pinned (OpenSpec.ofChange fnSkipStringMatchesBackslashParityModelSpec)

/-- ITS FALSE NEIGHBOUR: 'it returns false'. Refute it at one input. -/
def fnSkipStringMatchesBackslashParityModelWrong : ChangeSpec := { name := "fnSkipStringMatchesBackslashParityModel", fn := fun _ => fun
  | [d1, d2] => { results := [.lit (.bool false)], args := [d1, d2] }
  | _ => none }
def FnSkipStringMatchesBackslashParityModelWrongFalsely : Prop := fnSkipStringMatchesBackslashParityModelRow.holds Try.pinned (OpenSpec.ofChange fnSkipStringMatchesBackslashParityModelWrong)

/-- 'zzlaws_internal_jsoninput_b1.FnSkipStringFindsTheEndOfAQuotedString': WHATEVER THE INPUT: true; the input reads as it did. -/
def fnSkipStringFindsTheEndOfAQuotedStringSpec : ChangeSpec := { name := "fnSkipStringFindsTheEndOfAQuotedString", fn := fun _ => fun
  | [d1, d2, d3] => { results := [.lit (.bool true)], args := [d1, d2, d3] }
  | _ => none }
def fnSkipStringFindsTheEndOfAQuotedStringRow : OpenClaim := { program := "qxb6604098a", sum := "f7ef82ba6eb881a00470d7dbe95d339fd80f5282ff4baa6c6495e229111c051b", func := "example.com/grant-bits/grant-bits/zzlaws_internal_jsoninput_b1.FnSkipStringFindsTheEndOfAQuotedString", spec := "fnSkipStringFindsTheEndOfAQuotedString", apart := false }
def FnSkipStringFindsTheEndOfAQuotedStringSaid : Prop := fnSkipStringFindsTheEndOfAQuotedStringRow.holds Try.pinned (OpenSpec.ofChange fnSkipStringFindsTheEndOfAQuotedStringSpec)

/-- ITS FALSE NEIGHBOUR: 'it returns false'. Refute it at one input. -/
def fnSkipStringFindsTheEndOfAQuotedStringWrong : ChangeSpec := { name := "fnSkipStringFindsTheEndOfAQuotedString", fn := fun _ => fun
  | [d1, d2, d3] => { results := [.lit (.bool false)], args := [d1, d2, d3] }
  | _ => none }
def FnSkipStringFindsTheEndOfAQuotedStringWrongFalsely : Prop := fnSkipStringFindsTheEndOfAQuotedStringRow.holds Try.pinned (OpenSpec.ofChange fnSkipStringFindsTheEndOfAQuotedStringWrong)

/-- 'zzlaws_internal_jsoninput_b1.FnSkipNestedMatchesDepthModel': WHATEVER THE INPUT: true; the input reads as it did. -/
def fnSkipNestedMatchesDepthModelSpec : ChangeSpec := { name := "fnSkipNestedMatchesDepthModel", fn := fun _ => fun
  | [d1, d2] => { results := [.lit (.bool true)], args := [d1, d2] }
  | _ => none }
def fnSkipNestedMatchesDepthModelRow : OpenClaim := { program := "qxb6604098a", sum := "f7ef82ba6eb881a00470d7dbe95d339fd80f5282ff4baa6c6495e229111c051b", func := "example.com/grant-bits/grant-bits/zzlaws_internal_jsoninput_b1.FnSkipNestedMatchesDepthModel", spec := "fnSkipNestedMatchesDepthModel", apart := false }
def FnSkipNestedMatchesDepthModelSaid : Prop := fnSkipNestedMatchesDepthModelRow.holds Try.pinned (OpenSpec.ofChange fnSkipNestedMatchesDepthModelSpec)

/-- ITS FALSE NEIGHBOUR: 'it returns false'. Refute it at one input. -/
def fnSkipNestedMatchesDepthModelWrong : ChangeSpec := { name := "fnSkipNestedMatchesDepthModel", fn := fun _ => fun
  | [d1, d2] => { results := [.lit (.bool false)], args := [d1, d2] }
  | _ => none }
def FnSkipNestedMatchesDepthModelWrongFalsely : Prop := fnSkipNestedMatchesDepthModelRow.holds Try.pinned (OpenSpec.ofChange fnSkipNestedMatchesDepthModelWrong)

/-- 'zzlaws_internal_jsoninput_b1.FnSkipNestedFindsTheEndOfAnArrayOfStrings': WHATEVER THE INPUT: true; the input reads as it did. -/
def fnSkipNestedFindsTheEndOfAnArrayOfStringsSpec : ChangeSpec := { name := "fnSkipNestedFindsTheEndOfAnArrayOfStrings", fn := fun _ => fun
  | [d1, d2, d3] => { results := [.lit (.bool true)], args := [d1, d2, d3] }
  | _ => none }
def fnSkipNestedFindsTheEndOfAnArrayOfStringsRow : OpenClaim := { program := "qxb6604098a", sum := "f7ef82ba6eb881a00470d7dbe95d339fd80f5282ff4baa6c6495e229111c051b", func := "example.com/grant-bits/grant-bits/zzlaws_internal_jsoninput_b1.FnSkipNestedFindsTheEndOfAnArrayOfStrings", spec := "fnSkipNestedFindsTheEndOfAnArrayOfStrings", apart := false }
def FnSkipNestedFindsTheEndOfAnArrayOfStringsSaid : Prop := fnSkipNestedFindsTheEndOfAnArrayOfStringsRow.holds Try.pinned (OpenSpec.ofChange fnSkipNestedFindsTheEndOfAnArrayOfStringsSpec)

/-- ITS FALSE NEIGHBOUR: 'it returns false'. Refute it at one input. -/
def fnSkipNestedFindsTheEndOfAnArrayOfStringsWrong : ChangeSpec := { name := "fnSkipNestedFindsTheEndOfAnArrayOfStrings", fn := fun _ => fun
  | [d1, d2, d3] => { results := [.lit (.bool false)], args := [d1, d2, d3] }
  | _ => none }
def FnSkipNestedFindsTheEndOfAnArrayOfStringsWrongFalsely : Prop := fnSkipNestedFindsTheEndOfAnArrayOfStringsRow.holds Try.pinned (OpenSpec.ofChange fnSkipNestedFindsTheEndOfAnArrayOfStringsWrong)

end Rows
end Go.Proofs.Qxb6604098a
