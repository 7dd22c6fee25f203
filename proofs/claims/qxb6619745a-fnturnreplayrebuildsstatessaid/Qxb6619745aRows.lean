/-
  No cell of these rows narrows 'for every input' (looked for: loops, veiled, ifaces, maps, wideKeys, modest, calm, conditions, laid).
  DERIVED. THE GIVEN ROWS OF THIS SEAT. 2 by the template 'for every input the law returns true; each argument reads behind the call as it read before'; 0 by the template 'total and deterministic' (their statements: Qxb6619745aTotals.lean).
  GIVEN WITH THE SEED: the statements are not yours to turn. If you find one false, say at which input.
  Laid BY PROGRAM, IN A SANDBOX (cutbox-rows.mjs): the forced cells as the released guide's own fill.sh prints them over the translation c7119284799a6200… (all of the seat's roots in one cut). By AI agents, Wed Nov 11 2026. No macro, syntax, notation, axiom, sorry.
-/
import Derived.Test.Qxb6619745aChecked
import GoSem.Claim
import GoSem.ClaimJoined
import GoSem.ClaimMapViews
import Derived.JoinedTies
import Derived.KernelRfl
namespace Go.Proofs.Qxb6619745a
/- THE CELL 'sum', in the pinned program and in every row, IS THE sha256 OF THE DUMP (.gsa) THAT Qxb6619745aProg.lean LOADS. Nothing in Lean hashes anything: it is a label: what it is worth is what the hold of that sum in a sandbox is worth. -/
noncomputable def Try.pinned : Pinned := { name := "qxb6619745a", sum := "c7119284799a6200de711b837578bba6bd95243d217b9c1478618d3e85a3de96", checked := Try.checked }
namespace Rows
def none {H : Type} : Left H := { results := [], args := [] }

/-- 'zzlaws_live_b1.FnTurnReplayRebuildsStates': WHATEVER THE INPUT: true; the input reads as it did. -/
def fnTurnReplayRebuildsStatesSpec : ChangeSpec := { name := "fnTurnReplayRebuildsStates", fn := fun _ => fun
  | [d] => { results := [.lit (.bool true)], args := [d] }
  | _ => none }
def fnTurnReplayRebuildsStatesRow : OpenClaim := { program := "qxb6619745a", sum := "c7119284799a6200de711b837578bba6bd95243d217b9c1478618d3e85a3de96", func := "example.com/heartgauge/heartgauge/zzlaws_live_b1.FnTurnReplayRebuildsStates", spec := "fnTurnReplayRebuildsStates", apart := false }
def FnTurnReplayRebuildsStatesSaid : Prop := fnTurnReplayRebuildsStatesRow.holds Try.pinned (OpenSpec.ofChange fnTurnReplayRebuildsStatesSpec)

/-- ITS FALSE NEIGHBOUR: 'it returns false'. Refute it at one input. -/
def fnTurnReplayRebuildsStatesWrong : ChangeSpec := { name := "fnTurnReplayRebuildsStates", fn := fun _ => fun
  | [d] => { results := [.lit (.bool false)], args := [d] }
  | _ => none }
def FnTurnReplayRebuildsStatesWrongFalsely : Prop := fnTurnReplayRebuildsStatesRow.holds Try.pinned (OpenSpec.ofChange fnTurnReplayRebuildsStatesWrong)

/-- 'zzlaws_live_b1.FnTurnBackIsOpposite': WHATEVER THE INPUT: true; the input reads as it did. -/
def fnTurnBackIsOppositeSpec : ChangeSpec := { name := "fnTurnBackIsOpposite", fn := fun _ => fun
  | [d1, d2] => { results := [.lit (.bool true)], args := [d1, d2] }
  | _ => none }
def fnTurnBackIsOppositeRow : OpenClaim := { program := "qxb6619745a", sum := "c7119284799a6200de711b837578bba6bd95243d217b9c1478618d3e85a3de96", func := "example.com/heartgauge/heartgauge/zzlaws_live_b1.FnTurnBackIsOpposite", spec := "fnTurnBackIsOpposite", apart := false }
def FnTurnBackIsOppositeSaid : Prop := fnTurnBackIsOppositeRow.holds Try.pinned (OpenSpec.ofChange fnTurnBackIsOppositeSpec)

/-- ITS FALSE NEIGHBOUR: 'it returns false'. Refute it at one input. -/
def fnTurnBackIsOppositeWrong : ChangeSpec := { name := "fnTurnBackIsOpposite", fn := fun _ => fun
  | [d1, d2] => { results := [.lit (.bool false)], args := [d1, d2] }
  | _ => none }
def FnTurnBackIsOppositeWrongFalsely : Prop := fnTurnBackIsOppositeRow.holds Try.pinned (OpenSpec.ofChange fnTurnBackIsOppositeWrong)

end Rows
end Go.Proofs.Qxb6619745a
