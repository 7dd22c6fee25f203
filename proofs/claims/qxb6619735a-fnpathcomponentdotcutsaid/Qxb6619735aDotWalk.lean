import Derived.Test.Qxb6619735aComp
import Derived.ProofKit
namespace Go.Proofs.Qxb6619735a.fnPathComponentDotCut
open Go.RowKit
/-! ### STEP 1: THE WALK -/
set_option maxHeartbeats 400000 in
theorem bytes_no (a b : ByteArray) (w0 : a.size ≤ maxLen) (w1 : b.size ≤ maxLen) (h : 1048576 < a.size + b.size) (w : World) :
    Calls Try.prog 9 #[.string a, .string b] w fun e w' => e = .returned (.bool false) ∧ w' = w := by
  unfold maxLen at w0 w1
  by_cases h1 : 1048576 < a.size
  · go_enter Try.func9, Try.ntmps9
    go_wp2
    go_ret
    exact ⟨rfl, rfl⟩
  · by_cases h2 : 1048576 < b.size
    · go_enter Try.func9, Try.ntmps9
      go_wp2
      go_ret
      exact ⟨rfl, rfl⟩
    · go_enter Try.func9, Try.ntmps9
      go_wp2
      go_ret
      exact ⟨rfl, rfl⟩
set_option maxHeartbeats 400000 in
theorem bytes_yes (a b : ByteArray) (h : a.size + b.size ≤ 1048576) (w : World) :
    Calls Try.prog 9 #[.string a, .string b] w fun e w' => e = .returned (.bool true) ∧ w' = w := by
  go_enter Try.func9, Try.ntmps9
  go_wp2
  go_ret
  exact ⟨rfl, rfl⟩

theorem bad {l : List UInt8} (h1 : Pl.allAl l = true) (h2 : Pl.acc l = false) : False := by
  rw [Pl.acc_al l h1] at h2; exact Bool.noConfusion h2
theorem size3 (a b c : ByteArray) : (a ++ b ++ c).size = a.size + b.size + c.size := by simp [ByteArray.size_append]
theorem list3 (a b c : ByteArray) : (a ++ b ++ c).data.toList = a.data.toList ++ b.data.toList ++ c.data.toList := by simp
theorem acc_dot (a b : ByteArray) : Pl.acc (a ++ { data := #[46] } ++ b).data.toList = (Pl.acc a.data.toList && Pl.acc b.data.toList) := by
  rw [list3]; exact Pl.dot_cut _ _
theorem acc_us (a b : ByteArray) : Pl.acc (a ++ { data := #[95, 95, 95] } ++ b).data.toList = false := by
  rw [list3]; exact Pl.three_us _ _

theorem sz_dot (a b : ByteArray) (h : a.size + b.size ≤ 1048576) : (a ++ { data := #[46] } ++ b).size ≤ maxLen := by
  rw [size3, show ByteArray.size { data := #[46] } = 1 from rfl]; unfold maxLen; omega
theorem sz_us (a b : ByteArray) (h : a.size + b.size ≤ 1048576) : (a ++ { data := #[95, 95, 95] } ++ b).size ≤ maxLen := by
  rw [size3, show ByteArray.size { data := #[95, 95, 95] } = 3 from rfl]; unfold maxLen; omega
set_option maxHeartbeats 1000000 in
theorem walk (a0 : ByteArray) (a1 : ByteArray) (w0 : a0.size ≤ maxLen) (w1 : a1.size ≤ maxLen) (w : World) :
    Calls Try.prog 4 #[.string a0, .string a1] w fun e w' => e = .returned (.bool true) ∧ Grown w w' := by
  by_cases hb : a0.size + a1.size ≤ 1048576
  · by_cases h1 : 65536 < a0.size
    · go_enter Try.func4, Try.ntmps4
      go_wp2_with (go_at_call 9; refine (bytes_yes _ _ hb _).mono ?_; rintro e w' ⟨rfl, rfl⟩)
      go_ret
      exact ⟨rfl, Grown.refl _⟩
    by_cases h2 : 65536 < a1.size
    · go_enter Try.func4, Try.ntmps4
      go_wp2_with (go_at_call 9; refine (bytes_yes _ _ hb _).mono ?_; rintro e w' ⟨rfl, rfl⟩)
      go_ret
      exact ⟨rfl, Grown.refl _⟩
    unfold maxLen at w0 w1
    cases hba : Pl.acc a0.data.toList <;> cases hbb : Pl.acc a1.data.toList <;> cases hpa : Pl.allAl a0.data.toList <;> cases hpb : Pl.allAl a1.data.toList
    all_goals first
      | exact (bad hpa hba).elim
      | exact (bad hpb hbb).elim
      | skip
    all_goals
      have HBA : Hid _ := hba
      have HBB : Hid _ := hbb
      have HPA : Hid _ := hpa
      have HPB : Hid _ := hpb
      clear hba hbb hpa hpb
      go_enter Try.func4, Try.ntmps4
      go_wp2_with (go_at_call 9; refine (bytes_yes _ _ hb _).mono ?_; rintro e w' ⟨rfl, rfl⟩)
      refine (zz_any a0 _ (by unfold maxLen; omega)).mono ?_
      rintro e w' ⟨rfl, rfl⟩
      rw [HBA.out]
      go_wp2_with fail
      refine (zz_any a1 _ (by unfold maxLen; omega)).mono ?_
      rintro e w' ⟨rfl, rfl⟩
      rw [HBB.out]
      go_wp2_with fail
      refine (zz_any _ _ ?_).mono ?_
      · exact sz_dot a0 a1 hb
      rintro e w' ⟨rfl, rfl⟩
      rw [acc_dot, HBA.out, HBB.out]
      go_wp2_with fail
      refine (all_any a0 _ (by unfold maxLen; omega)).mono ?_
      rintro e w' ⟨rfl, rfl⟩
      rw [HPA.out]
      go_wp2_with (go_at_call 10; refine (all_any a1 _ (by unfold maxLen; omega)).mono ?_; rintro e w' ⟨rfl, rfl⟩; rw [HPB.out])
      refine (zz_any _ _ ?_).mono ?_
      · exact sz_us a0 a1 hb
      rintro e w' ⟨rfl, rfl⟩
      rw [acc_us]
      go_wp2
      go_ret
      exact ⟨rfl, Grown.refl _⟩
  · go_enter Try.func4, Try.ntmps4
    go_wp2_with (go_at_call 9; refine (bytes_no _ _ w0 w1 (by omega) _).mono ?_; rintro e w' ⟨rfl, rfl⟩)
    go_ret
    exact ⟨rfl, Grown.refl _⟩

end Go.Proofs.Qxb6619735a.fnPathComponentDotCut
