import Derived.Test.Qxb6619735aModel
namespace Go.Proofs.Qxb6619735a.fnPathComponentMatchesSeparatorModel
open Go.RowKit
set_option maxHeartbeats 400000 in
theorem bytes_no (a : ByteArray) (w0 : a.size ≤ maxLen) (h : 1048576 < a.size) (w : World) :
    Calls Try.prog 6 #[.string a] w fun e w' => e = .returned (.bool false) ∧ w' = w := by
  unfold maxLen at w0
  go_enter Try.func6, Try.ntmps6
  go_wp2
  go_ret
  exact ⟨rfl, rfl⟩
set_option maxHeartbeats 400000 in
theorem bytes_yes (a : ByteArray) (h : a.size ≤ 1048576) (w : World) :
    Calls Try.prog 6 #[.string a] w fun e w' => e = .returned (.bool true) ∧ w' = w := by
  go_enter Try.func6, Try.ntmps6
  go_wp2
  go_ret
  exact ⟨rfl, rfl⟩

set_option maxHeartbeats 1000000 in
theorem walk (a0 : ByteArray) (w0 : a0.size ≤ maxLen) (w : World) :
    Calls Try.prog 3 #[.string a0] w fun e w' => e = .returned (.bool true) ∧ Grown w w' := by
  by_cases hb : a0.size ≤ 1048576
  · by_cases h1 : 65536 < a0.size
    · go_enter Try.func3, Try.ntmps3
      go_wp2_with (go_at_call 6; refine (bytes_yes _ hb _).mono ?_; rintro e w' ⟨rfl, rfl⟩)
      go_ret
      exact ⟨rfl, Grown.refl _⟩
    · go_enter Try.func3, Try.ntmps3
      go_wp2_with (go_at_call 6; refine (bytes_yes _ hb _).mono ?_; rintro e w' ⟨rfl, rfl⟩)
      refine (zz_any a0 _ w0).mono ?_
      rintro e w' ⟨rfl, rfl⟩
      go_wp2_with fail
      refine (model_any a0 _ w0).mono ?_
      rintro e w' ⟨rfl, rfl⟩
      generalize Pl.acc a0.data.toList = b
      cases b
      all_goals
        go_wp2
        go_ret
        exact ⟨rfl, Grown.refl _⟩
  · go_enter Try.func3, Try.ntmps3
    go_wp2_with (go_at_call 6; refine (bytes_no _ w0 (by omega) _).mono ?_; rintro e w' ⟨rfl, rfl⟩)
    go_ret
    exact ⟨rfl, Grown.refl _⟩
end Go.Proofs.Qxb6619735a.fnPathComponentMatchesSeparatorModel
