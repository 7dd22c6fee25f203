import Derived.Test.Qxb6619735aDash
namespace Go.Proofs.Qxb6619735a.fnPathComponentDashRunLength
open Go.RowKit
set_option maxHeartbeats 400000 in
theorem bytes_no (a b : ByteArray) (k : Int) (w0 : a.size ≤ maxLen) (w1 : b.size ≤ maxLen) (h : 1048576 < a.size + b.size) (w : World) :
    Calls Try.prog 11 #[.string a, .string b, .int .i64 k] w fun e w' => e = .returned (.bool false) ∧ w' = w := by
  unfold maxLen at w0 w1
  by_cases h1 : 1048576 < a.size
  · go_enter Try.func11, Try.ntmps11
    go_wp2
    go_ret
    exact ⟨rfl, rfl⟩
  · by_cases h2 : 1048576 < b.size
    · go_enter Try.func11, Try.ntmps11
      go_wp2
      go_ret
      exact ⟨rfl, rfl⟩
    · go_enter Try.func11, Try.ntmps11
      go_wp2
      go_ret
      exact ⟨rfl, rfl⟩
set_option maxHeartbeats 400000 in
theorem bytes_yes (a b : ByteArray) (k : Int) (h : a.size + b.size ≤ 1048576) (w : World) :
    Calls Try.prog 11 #[.string a, .string b, .int .i64 k] w fun e w' => e = .returned (.bool true) ∧ w' = w := by
  go_enter Try.func11, Try.ntmps11
  go_wp2
  go_ret
  exact ⟨rfl, rfl⟩

theorem size3 (a b c : ByteArray) : (a ++ b ++ c).size = a.size + b.size + c.size := by simp [ByteArray.size_append]
theorem list3 (a b c : ByteArray) : (a ++ b ++ c).data.toList = a.data.toList ++ b.data.toList ++ c.data.toList := by simp
theorem acc_many (a b : ByteArray) (k : Nat) (hk : 1 ≤ k) : Pl.acc (a ++ dashes k ++ b).data.toList = Pl.acc (a ++ { data := #[45] } ++ b).data.toList := by
  rw [list3, list3, dashes_list]; exact Pl.dash_run _ _ k hk
theorem acc_one (a b : ByteArray) (ha : Pl.allAl a.data.toList = true) (hb : Pl.allAl b.data.toList = true) : Pl.acc (a ++ { data := #[45] } ++ b).data.toList = true := by
  rw [list3]; exact Pl.dash_al _ _ ha hb
theorem sz_one (a b : ByteArray) (h : a.size + b.size ≤ 1048576) : (a ++ { data := #[45] } ++ b).size ≤ maxLen := by
  rw [size3, show ByteArray.size { data := #[45] } = 1 from rfl]; unfold maxLen; omega
theorem sz_many (a b : ByteArray) (k : Nat) (hk : k ≤ 4096) (h : a.size + b.size ≤ 1048576) : (a ++ dashes k ++ b).size ≤ maxLen := by
  rw [size3, dashes_size]; unfold maxLen; omega

set_option maxHeartbeats 1000000 in
theorem walk (a0 : ByteArray) (a1 : ByteArray) (a2 : Int) (w0 : a0.size ≤ maxLen) (w1 : a1.size ≤ maxLen) (_w2 : (Lit.int .i64 a2).wf = true) (w : World) :
    Calls Try.prog 5 #[.string a0, .string a1, .int .i64 a2] w fun e w' => e = .returned (.bool true) ∧ Grown w w' := by
  clear _w2
  by_cases hb : a0.size + a1.size ≤ 1048576
  · by_cases h1 : 65536 < a0.size
    · go_enter Try.func5, Try.ntmps5
      go_wp2_with (go_at_call 11; refine (bytes_yes _ _ _ hb _).mono ?_; rintro e w' ⟨rfl, rfl⟩)
      go_ret
      exact ⟨rfl, Grown.refl _⟩
    by_cases h2 : 65536 < a1.size
    · go_enter Try.func5, Try.ntmps5
      go_wp2_with (go_at_call 11; refine (bytes_yes _ _ _ hb _).mono ?_; rintro e w' ⟨rfl, rfl⟩)
      go_ret
      exact ⟨rfl, Grown.refl _⟩
    by_cases h3 : a2 < 1
    · go_enter Try.func5, Try.ntmps5
      go_wp2_with (go_at_call 11; refine (bytes_yes _ _ _ hb _).mono ?_; rintro e w' ⟨rfl, rfl⟩)
      go_ret
      exact ⟨rfl, Grown.refl _⟩
    by_cases h4 : 4096 < a2
    · go_enter Try.func5, Try.ntmps5
      go_wp2_with (go_at_call 11; refine (bytes_yes _ _ _ hb _).mono ?_; rintro e w' ⟨rfl, rfl⟩)
      go_ret
      exact ⟨rfl, Grown.refl _⟩
    obtain ⟨k, rfl⟩ : ∃ k : Nat, a2 = (k : Int) := ⟨a2.toNat, by omega⟩
    have hk1 : 1 ≤ k := by omega
    have hk2 : k ≤ 4096 := by omega
    cases hba : Pl.acc (a0 ++ { data := #[45] } ++ a1).data.toList <;> cases hpa : Pl.allAl a0.data.toList <;> cases hpb : Pl.allAl a1.data.toList
    all_goals first
      | exact absurd ((acc_one a0 a1 hpa hpb).symm.trans hba) Bool.noConfusion
      | skip
    all_goals
      have HM : Hid _ := (acc_many a0 a1 k hk1).trans hba
      have HBA : Hid _ := hba
      have HPA : Hid _ := hpa
      have HPB : Hid _ := hpb
      clear hba hpa hpb
      go_enter Try.func5, Try.ntmps5
      go_wp2_with (go_at_call 11; refine (bytes_yes _ _ _ hb _).mono ?_; rintro e w' ⟨rfl, rfl⟩)
      refine (dashes_any k _ hk1 hk2).mono ?_
      rintro e w2 ⟨rfl, hgrown⟩
      have hds := dashes_size k
      go_wp2_with fail
      refine (zz_any _ _ ?_).mono ?_
      · exact sz_many a0 a1 k hk2 hb
      rintro e w' ⟨rfl, rfl⟩
      rw [HM.out]
      go_wp2_with fail
      refine (zz_any _ _ ?_).mono ?_
      · exact sz_one a0 a1 hb
      rintro e w' ⟨rfl, rfl⟩
      rw [HBA.out]
      go_wp2_with fail
      refine (all_any a0 _ w0).mono ?_
      rintro e w' ⟨rfl, rfl⟩
      rw [HPA.out]
      go_wp2_with (go_at_call 10; refine (all_any a1 _ w1).mono ?_; rintro e w' ⟨rfl, rfl⟩; rw [HPB.out])
      go_ret
      exact ⟨rfl, hgrown⟩
  · go_enter Try.func5, Try.ntmps5
    go_wp2_with (go_at_call 11; refine (bytes_no _ _ _ w0 w1 (by omega) _).mono ?_; rintro e w' ⟨rfl, rfl⟩)
    go_ret
    exact ⟨rfl, Grown.refl _⟩
end Go.Proofs.Qxb6619735a.fnPathComponentDashRunLength
