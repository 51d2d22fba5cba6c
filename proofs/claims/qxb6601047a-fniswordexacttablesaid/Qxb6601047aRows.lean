/-
  No cell of these rows narrows 'for every input' (looked for: loops, veiled, ifaces, maps, wideKeys, modest, calm, conditions, laid).
  DERIVED. THE GIVEN ROWS OF THIS SEAT. 7 by the template 'for every input the law returns true; each argument reads behind the call as it read before'; 0 by the template 'total and deterministic' (their statements: Qxb6601047aTotals.lean).
  GIVEN WITH THE SEED: the statements are not yours to turn. If you find one false, say at which input.
  Laid BY PROGRAM, IN A SANDBOX (cutbox-rows.mjs): the forced cells as the released guide's own fill.sh prints them over the translation 91386b5383672caf… (all of the seat's roots in one cut). By AI agents, Wed Nov 11 2026. No macro, syntax, notation, axiom, sorry.
-/
import Derived.Test.Qxb6601047aChecked
import GoSem.Claim
import GoSem.ClaimJoined
import GoSem.ClaimMapViews
import Derived.JoinedTies
import Derived.KernelRfl
namespace Go.Proofs.Qxb6601047a
/- THE CELL 'sum', in the pinned program and in every row, IS THE sha256 OF THE DUMP (.gsa) THAT Qxb6601047aProg.lean LOADS. Nothing in Lean hashes anything: it is a label: what it is worth is what the hold of that sum in a sandbox is worth. -/
noncomputable def Try.pinned : Pinned := { name := "qxb6601047a", sum := "91386b5383672caf4a33b0d3a43811a6e7f6cbee79a5b48734712686cf4a5cbd", checked := Try.checked }
namespace Rows
def none {H : Type} : Left H := { results := [], args := [] }

/-- 'zzlaws_yamldoc_b1.FnIsWordExactTable': WHATEVER THE INPUT: true; the input reads as it did. -/
def fnIsWordExactTableSpec : ChangeSpec := { name := "fnIsWordExactTable", fn := fun _ => fun
  | [d] => { results := [.lit (.bool true)], args := [d] }
  | _ => none }
def fnIsWordExactTableRow : OpenClaim := { program := "qxb6601047a", sum := "91386b5383672caf4a33b0d3a43811a6e7f6cbee79a5b48734712686cf4a5cbd", func := "example.com/marginalia/marginalia/zzlaws_yamldoc_b1.FnIsWordExactTable", spec := "fnIsWordExactTable", apart := false }
def FnIsWordExactTableSaid : Prop := fnIsWordExactTableRow.holds Try.pinned (OpenSpec.ofChange fnIsWordExactTableSpec)

/-- ITS FALSE NEIGHBOUR: 'it returns false'. Refute it at one input. -/
def fnIsWordExactTableWrong : ChangeSpec := { name := "fnIsWordExactTable", fn := fun _ => fun
  | [d] => { results := [.lit (.bool false)], args := [d] }
  | _ => none }
def FnIsWordExactTableWrongFalsely : Prop := fnIsWordExactTableRow.holds Try.pinned (OpenSpec.ofChange fnIsWordExactTableWrong)

/-- 'zzlaws_yamldoc_b1.FnIsWordRefusesForeignByte': WHATEVER THE INPUT: true; the input reads as it did. -/
def fnIsWordRefusesForeignByteSpec : ChangeSpec := { name := "fnIsWordRefusesForeignByte", fn := fun _ => fun
  | [d1, d2, d3] => { results := [.lit (.bool true)], args := [d1, d2, d3] }
  | _ => none }
def fnIsWordRefusesForeignByteRow : OpenClaim := { program := "qxb6601047a", sum := "91386b5383672caf4a33b0d3a43811a6e7f6cbee79a5b48734712686cf4a5cbd", func := "example.com/marginalia/marginalia/zzlaws_yamldoc_b1.FnIsWordRefusesForeignByte", spec := "fnIsWordRefusesForeignByte", apart := false }
def FnIsWordRefusesForeignByteSaid : Prop := fnIsWordRefusesForeignByteRow.holds Try.pinned (OpenSpec.ofChange fnIsWordRefusesForeignByteSpec)

/-- ITS FALSE NEIGHBOUR: 'it returns false'. Refute it at one input. -/
def fnIsWordRefusesForeignByteWrong : ChangeSpec := { name := "fnIsWordRefusesForeignByte", fn := fun _ => fun
  | [d1, d2, d3] => { results := [.lit (.bool false)], args := [d1, d2, d3] }
  | _ => none }
def FnIsWordRefusesForeignByteWrongFalsely : Prop := fnIsWordRefusesForeignByteRow.holds Try.pinned (OpenSpec.ofChange fnIsWordRefusesForeignByteWrong)

/-- 'zzlaws_yamldoc_b1.FnIsWordKeepsMarkedSuffix': WHATEVER THE INPUT: true; the input reads as it did. -/
def fnIsWordKeepsMarkedSuffixSpec : ChangeSpec := { name := "fnIsWordKeepsMarkedSuffix", fn := fun _ => fun
  | [d1, d2] => { results := [.lit (.bool true)], args := [d1, d2] }
  | _ => none }
def fnIsWordKeepsMarkedSuffixRow : OpenClaim := { program := "qxb6601047a", sum := "91386b5383672caf4a33b0d3a43811a6e7f6cbee79a5b48734712686cf4a5cbd", func := "example.com/marginalia/marginalia/zzlaws_yamldoc_b1.FnIsWordKeepsMarkedSuffix", spec := "fnIsWordKeepsMarkedSuffix", apart := false }
def FnIsWordKeepsMarkedSuffixSaid : Prop := fnIsWordKeepsMarkedSuffixRow.holds Try.pinned (OpenSpec.ofChange fnIsWordKeepsMarkedSuffixSpec)

/-- ITS FALSE NEIGHBOUR: 'it returns false'. Refute it at one input. -/
def fnIsWordKeepsMarkedSuffixWrong : ChangeSpec := { name := "fnIsWordKeepsMarkedSuffix", fn := fun _ => fun
  | [d1, d2] => { results := [.lit (.bool false)], args := [d1, d2] }
  | _ => none }
def FnIsWordKeepsMarkedSuffixWrongFalsely : Prop := fnIsWordKeepsMarkedSuffixRow.holds Try.pinned (OpenSpec.ofChange fnIsWordKeepsMarkedSuffixWrong)

/-- 'zzlaws_yamldoc_b1.FnHeldLinesExact': WHATEVER THE INPUT: true; the input reads as it did. -/
def fnHeldLinesExactSpec : ChangeSpec := { name := "fnHeldLinesExact", fn := fun _ => fun
  | [d1, d2] => { results := [.lit (.bool true)], args := [d1, d2] }
  | _ => none }
def fnHeldLinesExactRow : OpenClaim := { program := "qxb6601047a", sum := "91386b5383672caf4a33b0d3a43811a6e7f6cbee79a5b48734712686cf4a5cbd", func := "example.com/marginalia/marginalia/zzlaws_yamldoc_b1.FnHeldLinesExact", spec := "fnHeldLinesExact", apart := false }
def FnHeldLinesExactSaid : Prop := fnHeldLinesExactRow.holds Try.pinned (OpenSpec.ofChange fnHeldLinesExactSpec)

/-- ITS FALSE NEIGHBOUR: 'it returns false'. Refute it at one input. -/
def fnHeldLinesExactWrong : ChangeSpec := { name := "fnHeldLinesExact", fn := fun _ => fun
  | [d1, d2] => { results := [.lit (.bool false)], args := [d1, d2] }
  | _ => none }
def FnHeldLinesExactWrongFalsely : Prop := fnHeldLinesExactRow.holds Try.pinned (OpenSpec.ofChange fnHeldLinesExactWrong)

/-- 'zzlaws_yamldoc_b1.FnHeldLinesSwapPlaces': WHATEVER THE INPUT: true; the input reads as it did. -/
def fnHeldLinesSwapPlacesSpec : ChangeSpec := { name := "fnHeldLinesSwapPlaces", fn := fun _ => fun
  | [d1, d2] => { results := [.lit (.bool true)], args := [d1, d2] }
  | _ => none }
def fnHeldLinesSwapPlacesRow : OpenClaim := { program := "qxb6601047a", sum := "91386b5383672caf4a33b0d3a43811a6e7f6cbee79a5b48734712686cf4a5cbd", func := "example.com/marginalia/marginalia/zzlaws_yamldoc_b1.FnHeldLinesSwapPlaces", spec := "fnHeldLinesSwapPlaces", apart := false }
def FnHeldLinesSwapPlacesSaid : Prop := fnHeldLinesSwapPlacesRow.holds Try.pinned (OpenSpec.ofChange fnHeldLinesSwapPlacesSpec)

/-- ITS FALSE NEIGHBOUR: 'it returns false'. Refute it at one input. -/
def fnHeldLinesSwapPlacesWrong : ChangeSpec := { name := "fnHeldLinesSwapPlaces", fn := fun _ => fun
  | [d1, d2] => { results := [.lit (.bool false)], args := [d1, d2] }
  | _ => none }
def FnHeldLinesSwapPlacesWrongFalsely : Prop := fnHeldLinesSwapPlacesRow.holds Try.pinned (OpenSpec.ofChange fnHeldLinesSwapPlacesWrong)

/-- 'zzlaws_yamldoc_b1.FnMiddleSnakeIsMiddleOfShortestScript': WHATEVER THE INPUT: true; the input reads as it did. -/
def fnMiddleSnakeIsMiddleOfShortestScriptSpec : ChangeSpec := { name := "fnMiddleSnakeIsMiddleOfShortestScript", fn := fun _ => fun
  | [d1, d2] => { results := [.lit (.bool true)], args := [d1, d2] }
  | _ => none }
def fnMiddleSnakeIsMiddleOfShortestScriptRow : OpenClaim := { program := "qxb6601047a", sum := "91386b5383672caf4a33b0d3a43811a6e7f6cbee79a5b48734712686cf4a5cbd", func := "example.com/marginalia/marginalia/zzlaws_yamldoc_b1.FnMiddleSnakeIsMiddleOfShortestScript", spec := "fnMiddleSnakeIsMiddleOfShortestScript", unfollowed := true, recurses := true, apart := false }
def FnMiddleSnakeIsMiddleOfShortestScriptSaid : Prop := fnMiddleSnakeIsMiddleOfShortestScriptRow.holds Try.pinned (OpenSpec.ofChange fnMiddleSnakeIsMiddleOfShortestScriptSpec)

/-- ITS FALSE NEIGHBOUR: 'it returns false'. Refute it at one input. -/
def fnMiddleSnakeIsMiddleOfShortestScriptWrong : ChangeSpec := { name := "fnMiddleSnakeIsMiddleOfShortestScript", fn := fun _ => fun
  | [d1, d2] => { results := [.lit (.bool false)], args := [d1, d2] }
  | _ => none }
def FnMiddleSnakeIsMiddleOfShortestScriptWrongFalsely : Prop := fnMiddleSnakeIsMiddleOfShortestScriptRow.holds Try.pinned (OpenSpec.ofChange fnMiddleSnakeIsMiddleOfShortestScriptWrong)

/-- 'zzlaws_yamldoc_b1.FnMiddleSnakeBudgetOnlyCuts': WHATEVER THE INPUT: true; the input reads as it did. -/
def fnMiddleSnakeBudgetOnlyCutsSpec : ChangeSpec := { name := "fnMiddleSnakeBudgetOnlyCuts", fn := fun _ => fun
  | [d1, d2, d3] => { results := [.lit (.bool true)], args := [d1, d2, d3] }
  | _ => none }
def fnMiddleSnakeBudgetOnlyCutsRow : OpenClaim := { program := "qxb6601047a", sum := "91386b5383672caf4a33b0d3a43811a6e7f6cbee79a5b48734712686cf4a5cbd", func := "example.com/marginalia/marginalia/zzlaws_yamldoc_b1.FnMiddleSnakeBudgetOnlyCuts", spec := "fnMiddleSnakeBudgetOnlyCuts", unfollowed := true, recurses := true, apart := false }
def FnMiddleSnakeBudgetOnlyCutsSaid : Prop := fnMiddleSnakeBudgetOnlyCutsRow.holds Try.pinned (OpenSpec.ofChange fnMiddleSnakeBudgetOnlyCutsSpec)

/-- ITS FALSE NEIGHBOUR: 'it returns false'. Refute it at one input. -/
def fnMiddleSnakeBudgetOnlyCutsWrong : ChangeSpec := { name := "fnMiddleSnakeBudgetOnlyCuts", fn := fun _ => fun
  | [d1, d2, d3] => { results := [.lit (.bool false)], args := [d1, d2, d3] }
  | _ => none }
def FnMiddleSnakeBudgetOnlyCutsWrongFalsely : Prop := fnMiddleSnakeBudgetOnlyCutsRow.holds Try.pinned (OpenSpec.ofChange fnMiddleSnakeBudgetOnlyCutsWrong)

end Rows
end Go.Proofs.Qxb6601047a
