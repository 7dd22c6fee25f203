/-
  No cell of these rows narrows 'for every input' (looked for: loops, veiled, ifaces, maps, wideKeys, modest, calm, conditions, laid).
  DERIVED. THE GIVEN ROWS OF THIS SEAT. 3 by the template 'for every input the law returns true; each argument reads behind the call as it read before'; 0 by the template 'total and deterministic' (their statements: Qxb6619857aTotals.lean).
  GIVEN WITH THE SEED: the statements are not yours to turn. If you find one false, say at which input.
  Laid BY PROGRAM, IN A SANDBOX (cutbox-rows.mjs): the forced cells as the released guide's own fill.sh prints them over the translation b57fb6f1e3208315… (all of the seat's roots in one cut). By AI agents, Wed Nov 11 2026. No macro, syntax, notation, axiom, sorry.
-/
import Derived.Test.Qxb6619857aChecked
import GoSem.Claim
import GoSem.ClaimJoined
import GoSem.ClaimMapViews
import Derived.JoinedTies
import Derived.KernelRfl
namespace Go.Proofs.Qxb6619857a
/- THE CELL 'sum', in the pinned program and in every row, IS THE sha256 OF THE DUMP (.gsa) THAT Qxb6619857aProg.lean LOADS. Nothing in Lean hashes anything: it is a label: what it is worth is what the hold of that sum in a sandbox is worth. -/
noncomputable def Try.pinned : Pinned := { name := "qxb6619857a", sum := "b57fb6f1e320831534ba2df01d2b7b5915590edfd22cc063934f2b8c3955f5cc", checked := Try.checked }
namespace Rows
def none {H : Type} : Left H := { results := [], args := [] }

/-- 'zzlaws_internal_journal_b1.FnUnpackPartOfJoinedPackings': WHATEVER THE INPUT: true; the input reads as it did. -/
def fnUnpackPartOfJoinedPackingsSpec : ChangeSpec := { name := "fnUnpackPartOfJoinedPackings", fn := fun _ => fun
  | [d1, d2, d3, d4] => { results := [.lit (.bool true)], args := [d1, d2, d3, d4] }
  | _ => none }
def fnUnpackPartOfJoinedPackingsRow : OpenClaim := { program := "qxb6619857a", sum := "b57fb6f1e320831534ba2df01d2b7b5915590edfd22cc063934f2b8c3955f5cc", func := "example.com/fanfold/fanfold/zzlaws_internal_journal_b1.FnUnpackPartOfJoinedPackings", spec := "fnUnpackPartOfJoinedPackings", apart := false }
def FnUnpackPartOfJoinedPackingsSaid : Prop := fnUnpackPartOfJoinedPackingsRow.holds Try.pinned (OpenSpec.ofChange fnUnpackPartOfJoinedPackingsSpec)

/-- ITS FALSE NEIGHBOUR: 'it returns false'. Refute it at one input. -/
def fnUnpackPartOfJoinedPackingsWrong : ChangeSpec := { name := "fnUnpackPartOfJoinedPackings", fn := fun _ => fun
  | [d1, d2, d3, d4] => { results := [.lit (.bool false)], args := [d1, d2, d3, d4] }
  | _ => none }
def FnUnpackPartOfJoinedPackingsWrongFalsely : Prop := fnUnpackPartOfJoinedPackingsRow.holds Try.pinned (OpenSpec.ofChange fnUnpackPartOfJoinedPackingsWrong)

/-- 'zzlaws_internal_journal_b1.FnUnpackPartOnlyAppendsToMade': WHATEVER THE INPUT: true; the input reads as it did. -/
def fnUnpackPartOnlyAppendsToMadeSpec : ChangeSpec := { name := "fnUnpackPartOnlyAppendsToMade", fn := fun _ => fun
  | [d1, d2, d3] => { results := [.lit (.bool true)], args := [d1, d2, d3] }
  | _ => none }
def fnUnpackPartOnlyAppendsToMadeRow : OpenClaim := { program := "qxb6619857a", sum := "b57fb6f1e320831534ba2df01d2b7b5915590edfd22cc063934f2b8c3955f5cc", func := "example.com/fanfold/fanfold/zzlaws_internal_journal_b1.FnUnpackPartOnlyAppendsToMade", spec := "fnUnpackPartOnlyAppendsToMade", apart := false }
def FnUnpackPartOnlyAppendsToMadeSaid : Prop := fnUnpackPartOnlyAppendsToMadeRow.holds Try.pinned (OpenSpec.ofChange fnUnpackPartOnlyAppendsToMadeSpec)

/-- ITS FALSE NEIGHBOUR: 'it returns false'. Refute it at one input. -/
def fnUnpackPartOnlyAppendsToMadeWrong : ChangeSpec := { name := "fnUnpackPartOnlyAppendsToMade", fn := fun _ => fun
  | [d1, d2, d3] => { results := [.lit (.bool false)], args := [d1, d2, d3] }
  | _ => none }
def FnUnpackPartOnlyAppendsToMadeWrongFalsely : Prop := fnUnpackPartOnlyAppendsToMadeRow.holds Try.pinned (OpenSpec.ofChange fnUnpackPartOnlyAppendsToMadeWrong)

/-- 'zzlaws_internal_journal_b1.FnOwnKeysCopiesEveryKey': WHATEVER THE INPUT: true; the input reads as it did. -/
def fnOwnKeysCopiesEveryKeySpec : ChangeSpec := { name := "fnOwnKeysCopiesEveryKey", fn := fun _ => fun
  | [d] => { results := [.lit (.bool true)], args := [d] }
  | _ => none }
def fnOwnKeysCopiesEveryKeyRow : OpenClaim := { program := "qxb6619857a", sum := "b57fb6f1e320831534ba2df01d2b7b5915590edfd22cc063934f2b8c3955f5cc", func := "example.com/fanfold/fanfold/zzlaws_internal_journal_b1.FnOwnKeysCopiesEveryKey", spec := "fnOwnKeysCopiesEveryKey", inPlace := ["internal/abi.NoEscape", "internal/bytealg.MakeNoZero"], apart := false }
def FnOwnKeysCopiesEveryKeySaid : Prop := fnOwnKeysCopiesEveryKeyRow.holds Try.pinned (OpenSpec.ofChange fnOwnKeysCopiesEveryKeySpec)

/-- ITS FALSE NEIGHBOUR: 'it returns false'. Refute it at one input. -/
def fnOwnKeysCopiesEveryKeyWrong : ChangeSpec := { name := "fnOwnKeysCopiesEveryKey", fn := fun _ => fun
  | [d] => { results := [.lit (.bool false)], args := [d] }
  | _ => none }
def FnOwnKeysCopiesEveryKeyWrongFalsely : Prop := fnOwnKeysCopiesEveryKeyRow.holds Try.pinned (OpenSpec.ofChange fnOwnKeysCopiesEveryKeyWrong)

end Rows
end Go.Proofs.Qxb6619857a
