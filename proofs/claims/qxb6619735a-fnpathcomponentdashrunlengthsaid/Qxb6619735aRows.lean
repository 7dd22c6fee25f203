/-
  No cell of these rows narrows 'for every input' (looked for: loops, veiled, ifaces, maps, wideKeys, modest, calm, conditions, laid).
  DERIVED. THE GIVEN ROWS OF THIS SEAT. 3 by the template 'for every input the law returns true; each argument reads behind the call as it read before'; 0 by the template 'total and deterministic' (their statements: Qxb6619735aTotals.lean).
  GIVEN WITH THE SEED: the statements are not yours to turn. If you find one false, say at which input.
  Laid BY PROGRAM, IN A SANDBOX (cutbox-rows.mjs): the forced cells as the released guide's own fill.sh prints them over the translation d76ff65294f4a128… (all of the seat's roots in one cut). By AI agents, Wed Nov 11 2026. No macro, syntax, notation, axiom, sorry.
-/
import Derived.Test.Qxb6619735aChecked
import GoSem.Claim
import GoSem.ClaimJoined
import GoSem.ClaimMapViews
import Derived.JoinedTies
import Derived.KernelRfl
namespace Go.Proofs.Qxb6619735a
/- THE CELL 'sum', in the pinned program and in every row, IS THE sha256 OF THE DUMP (.gsa) THAT Qxb6619735aProg.lean LOADS. Nothing in Lean hashes anything: it is a label: what it is worth is what the hold of that sum in a sandbox is worth. -/
noncomputable def Try.pinned : Pinned := { name := "qxb6619735a", sum := "d76ff65294f4a128182a5a531f96f4bd66d0905510df8df9e4444b76ded24c14", checked := Try.checked }
namespace Rows
def none {H : Type} : Left H := { results := [], args := [] }

/-- 'zzlaws_pkg_imageref_b1.FnPathComponentMatchesSeparatorModel': WHATEVER THE INPUT: true; the input reads as it did. -/
def fnPathComponentMatchesSeparatorModelSpec : ChangeSpec := { name := "fnPathComponentMatchesSeparatorModel", fn := fun _ => fun
  | [d] => { results := [.lit (.bool true)], args := [d] }
  | _ => none }
def fnPathComponentMatchesSeparatorModelRow : OpenClaim := { program := "qxb6619735a", sum := "d76ff65294f4a128182a5a531f96f4bd66d0905510df8df9e4444b76ded24c14", func := "example.com/ripplewake/ripplewake/zzlaws_pkg_imageref_b1.FnPathComponentMatchesSeparatorModel", spec := "fnPathComponentMatchesSeparatorModel", apart := false }
def FnPathComponentMatchesSeparatorModelSaid : Prop := fnPathComponentMatchesSeparatorModelRow.holds Try.pinned (OpenSpec.ofChange fnPathComponentMatchesSeparatorModelSpec)

/-- ITS FALSE NEIGHBOUR: 'it returns false'. Refute it at one input. -/
def fnPathComponentMatchesSeparatorModelWrong : ChangeSpec := { name := "fnPathComponentMatchesSeparatorModel", fn := fun _ => fun
  | [d] => { results := [.lit (.bool false)], args := [d] }
  | _ => none }
def FnPathComponentMatchesSeparatorModelWrongFalsely : Prop := fnPathComponentMatchesSeparatorModelRow.holds Try.pinned (OpenSpec.ofChange fnPathComponentMatchesSeparatorModelWrong)

/-- 'zzlaws_pkg_imageref_b1.FnPathComponentDotCut': WHATEVER THE INPUT: true; the input reads as it did. -/
def fnPathComponentDotCutSpec : ChangeSpec := { name := "fnPathComponentDotCut", fn := fun _ => fun
  | [d1, d2] => { results := [.lit (.bool true)], args := [d1, d2] }
  | _ => none }
def fnPathComponentDotCutRow : OpenClaim := { program := "qxb6619735a", sum := "d76ff65294f4a128182a5a531f96f4bd66d0905510df8df9e4444b76ded24c14", func := "example.com/ripplewake/ripplewake/zzlaws_pkg_imageref_b1.FnPathComponentDotCut", spec := "fnPathComponentDotCut", apart := false }
def FnPathComponentDotCutSaid : Prop := fnPathComponentDotCutRow.holds Try.pinned (OpenSpec.ofChange fnPathComponentDotCutSpec)

/-- ITS FALSE NEIGHBOUR: 'it returns false'. Refute it at one input. -/
def fnPathComponentDotCutWrong : ChangeSpec := { name := "fnPathComponentDotCut", fn := fun _ => fun
  | [d1, d2] => { results := [.lit (.bool false)], args := [d1, d2] }
  | _ => none }
def FnPathComponentDotCutWrongFalsely : Prop := fnPathComponentDotCutRow.holds Try.pinned (OpenSpec.ofChange fnPathComponentDotCutWrong)

/-- 'zzlaws_pkg_imageref_b1.FnPathComponentDashRunLength': WHATEVER THE INPUT: true; the input reads as it did. -/
def fnPathComponentDashRunLengthSpec : ChangeSpec := { name := "fnPathComponentDashRunLength", fn := fun _ => fun
  | [d1, d2, d3] => { results := [.lit (.bool true)], args := [d1, d2, d3] }
  | _ => none }
def fnPathComponentDashRunLengthRow : OpenClaim := { program := "qxb6619735a", sum := "d76ff65294f4a128182a5a531f96f4bd66d0905510df8df9e4444b76ded24c14", func := "example.com/ripplewake/ripplewake/zzlaws_pkg_imageref_b1.FnPathComponentDashRunLength", spec := "fnPathComponentDashRunLength", apart := false }
def FnPathComponentDashRunLengthSaid : Prop := fnPathComponentDashRunLengthRow.holds Try.pinned (OpenSpec.ofChange fnPathComponentDashRunLengthSpec)

/-- ITS FALSE NEIGHBOUR: 'it returns false'. Refute it at one input. -/
def fnPathComponentDashRunLengthWrong : ChangeSpec := { name := "fnPathComponentDashRunLength", fn := fun _ => fun
  | [d1, d2, d3] => { results := [.lit (.bool false)], args := [d1, d2, d3] }
  | _ => none }
def FnPathComponentDashRunLengthWrongFalsely : Prop := fnPathComponentDashRunLengthRow.holds Try.pinned (OpenSpec.ofChange fnPathComponentDashRunLengthWrong)

end Rows
end Go.Proofs.Qxb6619735a
