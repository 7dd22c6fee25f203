/-
  No cell of these rows narrows 'for every input' (looked for: loops, veiled, ifaces, maps, wideKeys, modest, calm, conditions, laid).
  DERIVED. THE GIVEN ROWS OF THIS SEAT. 1 by the template 'for every input the law returns true; each argument reads behind the call as it read before'; 0 by the template 'total and deterministic' (their statements: Qxb6617374aTotals.lean).
  GIVEN WITH THE SEED: the statements are not yours to turn. If you find one false, say at which input.
  Laid BY PROGRAM, IN A SANDBOX (cutbox-rows.mjs): the forced cells as the released guide's own fill.sh prints them over the translation c040261651751f83… (all of the seat's roots in one cut). By AI agents, Wed Nov 11 2026. No macro, syntax, notation, axiom, sorry.
-/
import Derived.Test.Qxb6617374aChecked
import GoSem.Claim
import GoSem.ClaimJoined
import GoSem.ClaimMapViews
import Derived.JoinedTies
import Derived.KernelRfl
namespace Go.Proofs.Qxb6617374a
/- THE CELL 'sum', in the pinned program and in every row, IS THE sha256 OF THE DUMP (.gsa) THAT Qxb6617374aProg.lean LOADS. Nothing in Lean hashes anything: it is a label: what it is worth is what the hold of that sum in a sandbox is worth. -/
noncomputable def Try.pinned : Pinned := { name := "qxb6617374a", sum := "c040261651751f83f94f32bf22a9caeaec1078f0704da811a84f9a1c4164f65b", checked := Try.checked }
namespace Rows
def none {H : Type} : Left H := { results := [], args := [] }

/-- 'zzlaws_internal_sim_b1.FnTallyResultSpec': WHATEVER THE INPUT: true; the input reads as it did. -/
def fnTallyResultSpecSpec : ChangeSpec := { name := "fnTallyResultSpec", fn := fun _ => fun
  | [d1, d2, d3, d4, d5, d6, d7, d8, d9, d10, d11] => { results := [.lit (.bool true)], args := [d1, d2, d3, d4, d5, d6, d7, d8, d9, d10, d11] }
  | _ => none }
def fnTallyResultSpecRow : OpenClaim := { program := "qxb6617374a", sum := "c040261651751f83f94f32bf22a9caeaec1078f0704da811a84f9a1c4164f65b", func := "example.com/ramify/ramify/zzlaws_internal_sim_b1.FnTallyResultSpec", spec := "fnTallyResultSpec", apart := false }
def FnTallyResultSpecSaid : Prop := fnTallyResultSpecRow.holds Try.pinned (OpenSpec.ofChange fnTallyResultSpecSpec)

/-- ITS FALSE NEIGHBOUR: 'it returns false'. Refute it at one input. -/
def fnTallyResultSpecWrong : ChangeSpec := { name := "fnTallyResultSpec", fn := fun _ => fun
  | [d1, d2, d3, d4, d5, d6, d7, d8, d9, d10, d11] => { results := [.lit (.bool false)], args := [d1, d2, d3, d4, d5, d6, d7, d8, d9, d10, d11] }
  | _ => none }
def FnTallyResultSpecWrongFalsely : Prop := fnTallyResultSpecRow.holds Try.pinned (OpenSpec.ofChange fnTallyResultSpecWrong)

end Rows
end Go.Proofs.Qxb6617374a
