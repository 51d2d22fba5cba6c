/-
  No cell of these rows narrows 'for every input' (looked for: loops, veiled, ifaces, maps, wideKeys, modest, calm, conditions, laid).
  DERIVED. THE GIVEN ROWS OF THIS SEAT. 4 by the template 'for every input the law returns true; each argument reads behind the call as it read before'; 0 by the template 'total and deterministic' (their statements: Qxb6601573aTotals.lean).
  GIVEN WITH THE SEED: the statements are not yours to turn. If you find one false, say at which input.
  Laid BY PROGRAM, IN A SANDBOX (cutbox-rows.mjs): the forced cells as the released guide's own fill.sh prints them over the translation ed9d4e59599e8d61… (all of the seat's roots in one cut). By AI agents, Wed Nov 11 2026. No macro, syntax, notation, axiom, sorry.
-/
import Derived.Test.Qxb6601573aChecked
import GoSem.Claim
import GoSem.ClaimJoined
import GoSem.ClaimMapViews
import Derived.JoinedTies
import Derived.KernelRfl
namespace Go.Proofs.Qxb6601573a
/- THE CELL 'sum', in the pinned program and in every row, IS THE sha256 OF THE DUMP (.gsa) THAT Qxb6601573aProg.lean LOADS. Nothing in Lean hashes anything: it is a label: what it is worth is what the hold of that sum in a sandbox is worth. -/
noncomputable def Try.pinned : Pinned := { name := "qxb6601573a", sum := "ed9d4e59599e8d610d52158c42339d799faa71ea6466bc88c302ad1ad7a92909", checked := Try.checked }
namespace Rows
def none {H : Type} : Left H := { results := [], args := [] }

/-- 'zzlaws_internal_output_b1.FnAppendWordAgreesWithAppendList': WHATEVER THE INPUT: true; the input reads as it did. -/
def fnAppendWordAgreesWithAppendListSpec : ChangeSpec := { name := "fnAppendWordAgreesWithAppendList", fn := fun _ => fun
  | [d1, d2, d3] => { results := [.lit (.bool true)], args := [d1, d2, d3] }
  | _ => none }
def fnAppendWordAgreesWithAppendListRow : OpenClaim := { program := "qxb6601573a", sum := "ed9d4e59599e8d610d52158c42339d799faa71ea6466bc88c302ad1ad7a92909", func := "example.com/yishi/yishi/zzlaws_internal_output_b1.FnAppendWordAgreesWithAppendList", spec := "fnAppendWordAgreesWithAppendList", apart := false }
def FnAppendWordAgreesWithAppendListSaid : Prop := fnAppendWordAgreesWithAppendListRow.holds Try.pinned (OpenSpec.ofChange fnAppendWordAgreesWithAppendListSpec)

/-- ITS FALSE NEIGHBOUR: 'it returns false'. Refute it at one input. -/
def fnAppendWordAgreesWithAppendListWrong : ChangeSpec := { name := "fnAppendWordAgreesWithAppendList", fn := fun _ => fun
  | [d1, d2, d3] => { results := [.lit (.bool false)], args := [d1, d2, d3] }
  | _ => none }
def FnAppendWordAgreesWithAppendListWrongFalsely : Prop := fnAppendWordAgreesWithAppendListRow.holds Try.pinned (OpenSpec.ofChange fnAppendWordAgreesWithAppendListWrong)

/-- 'zzlaws_internal_output_b1.FnAppendListSpec': WHATEVER THE INPUT: true; the input reads as it did. -/
def fnAppendListSpecSpec : ChangeSpec := { name := "fnAppendListSpec", fn := fun _ => fun
  | [d1, d2, d3] => { results := [.lit (.bool true)], args := [d1, d2, d3] }
  | _ => none }
def fnAppendListSpecRow : OpenClaim := { program := "qxb6601573a", sum := "ed9d4e59599e8d610d52158c42339d799faa71ea6466bc88c302ad1ad7a92909", func := "example.com/yishi/yishi/zzlaws_internal_output_b1.FnAppendListSpec", spec := "fnAppendListSpec", apart := false }
def FnAppendListSpecSaid : Prop := fnAppendListSpecRow.holds Try.pinned (OpenSpec.ofChange fnAppendListSpecSpec)

/-- ITS FALSE NEIGHBOUR: 'it returns false'. Refute it at one input. -/
def fnAppendListSpecWrong : ChangeSpec := { name := "fnAppendListSpec", fn := fun _ => fun
  | [d1, d2, d3] => { results := [.lit (.bool false)], args := [d1, d2, d3] }
  | _ => none }
def FnAppendListSpecWrongFalsely : Prop := fnAppendListSpecRow.holds Try.pinned (OpenSpec.ofChange fnAppendListSpecWrong)

/-- 'zzlaws_internal_output_b1.FnAppendListSnoc': WHATEVER THE INPUT: true; the input reads as it did. -/
def fnAppendListSnocSpec : ChangeSpec := { name := "fnAppendListSnoc", fn := fun _ => fun
  | [d1, d2, d3] => { results := [.lit (.bool true)], args := [d1, d2, d3] }
  | _ => none }
def fnAppendListSnocRow : OpenClaim := { program := "qxb6601573a", sum := "ed9d4e59599e8d610d52158c42339d799faa71ea6466bc88c302ad1ad7a92909", func := "example.com/yishi/yishi/zzlaws_internal_output_b1.FnAppendListSnoc", spec := "fnAppendListSnoc", apart := false }
def FnAppendListSnocSaid : Prop := fnAppendListSnocRow.holds Try.pinned (OpenSpec.ofChange fnAppendListSnocSpec)

/-- ITS FALSE NEIGHBOUR: 'it returns false'. Refute it at one input. -/
def fnAppendListSnocWrong : ChangeSpec := { name := "fnAppendListSnoc", fn := fun _ => fun
  | [d1, d2, d3] => { results := [.lit (.bool false)], args := [d1, d2, d3] }
  | _ => none }
def FnAppendListSnocWrongFalsely : Prop := fnAppendListSnocRow.holds Try.pinned (OpenSpec.ofChange fnAppendListSnocWrong)

/-- 'zzlaws_internal_output_b1.FnAppendListSplitsBack': WHATEVER THE INPUT: true; the input reads as it did. -/
def fnAppendListSplitsBackSpec : ChangeSpec := { name := "fnAppendListSplitsBack", fn := fun _ => fun
  | [d1, d2, d3] => { results := [.lit (.bool true)], args := [d1, d2, d3] }
  | _ => none }
def fnAppendListSplitsBackRow : OpenClaim := { program := "qxb6601573a", sum := "ed9d4e59599e8d610d52158c42339d799faa71ea6466bc88c302ad1ad7a92909", func := "example.com/yishi/yishi/zzlaws_internal_output_b1.FnAppendListSplitsBack", spec := "fnAppendListSplitsBack", apart := false }
def FnAppendListSplitsBackSaid : Prop := fnAppendListSplitsBackRow.holds Try.pinned (OpenSpec.ofChange fnAppendListSplitsBackSpec)

/-- ITS FALSE NEIGHBOUR: 'it returns false'. Refute it at one input. -/
def fnAppendListSplitsBackWrong : ChangeSpec := { name := "fnAppendListSplitsBack", fn := fun _ => fun
  | [d1, d2, d3] => { results := [.lit (.bool false)], args := [d1, d2, d3] }
  | _ => none }
def FnAppendListSplitsBackWrongFalsely : Prop := fnAppendListSplitsBackRow.holds Try.pinned (OpenSpec.ofChange fnAppendListSplitsBackWrong)

end Rows
end Go.Proofs.Qxb6601573a
