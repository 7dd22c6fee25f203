import Derived.Test.Qxb6619745aProg
import Derived.WalkKit
import Derived.WalkSpells
import Derived.ProofKit
namespace Go.Proofs.Qxb6619745a
open Go.RowKit

/-- the change that is told: 1 suspected, 2 trusted, 0 none -/
def chg (was is : Bool) : Int := if is && !was then 1 else if was && !is then 2 else 0

theorem turn_any (was is : Bool) (w : World) :
    Calls Try.prog 6 #[.bool was, .bool is] w fun e w' => e = .returned (.tuple #[.int .u8 (chg was is), .bool (was != is)]) ∧ w' = w := by
  cases was <;> cases is
  all_goals
    go_enter Try.func6, Try.ntmps6
    go_wp2
    go_ret2
    exact ⟨rfl, rfl⟩

namespace fnTurnBackIsOpposite
theorem walk (a0 : Bool) (a1 : Bool) (w : World) :
    Calls Try.prog 4 #[.bool a0, .bool a1] w fun e w' => e = .returned (.bool true) ∧ Grown w w' := by
  cases a0 <;> cases a1
  all_goals
    go_enter Try.func4, Try.ntmps4
    go_wp2
    go_ret
    exact ⟨rfl, Grown.refl _⟩
end fnTurnBackIsOpposite
end Go.Proofs.Qxb6619745a
