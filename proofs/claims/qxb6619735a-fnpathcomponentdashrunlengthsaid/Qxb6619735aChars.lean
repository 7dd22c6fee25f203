import Derived.Test.Qxb6619735aProg
import Derived.Test.Qxb6619735aPlain
import Derived.WalkKit
import Derived.WalkSpells
namespace Go.Proofs.Qxb6619735a
open Go.RowKit

/-- the run alphabet over Int, as the walk reads a byte -/
def alI (c : Int) : Bool := decide ((97 ≤ c ∧ c ≤ 122) ∨ (48 ≤ c ∧ c ≤ 57))
theorem alI_al (c : UInt8) : alI (c.toNat : Int) = Pl.al c := by
  unfold alI Pl.al
  rw [Bool.eq_iff_iff]
  simp [UInt8.le_iff_toNat_le]
  omega
theorem alI_true {c : Int} (h : (97 ≤ c ∧ c ≤ 122) ∨ (48 ≤ c ∧ c ≤ 57)) : alI c = true := decide_eq_true h
theorem alI_false {c : Int} (h : ¬ ((97 ≤ c ∧ c ≤ 122) ∨ (48 ≤ c ∧ c ≤ 57))) : alI c = false := decide_eq_false h
theorem ret_bool {a b : Bool} (h : a = b) : Ending.returned (.bool a) = .returned (.bool b) := by rw [h]

set_option maxHeartbeats 400000 in
theorem lod_any (c : Int) (w : World) :
    Calls Try.prog 16 #[.int .u8 c] w fun e w' => e = .returned (.bool (alI c)) ∧ w' = w := by
  by_cases h1 : 97 ≤ c
  · by_cases h2 : c ≤ 122
    · go_enter Try.func16, Try.ntmps16
      go_wp2
      go_ret
      exact ⟨ret_bool (alI_true (by omega)).symm, rfl⟩
    · by_cases h3 : 48 ≤ c
      · by_cases h4 : c ≤ 57
        · go_enter Try.func16, Try.ntmps16
          go_wp2
          go_ret
          exact ⟨ret_bool (alI_true (by omega)).symm, rfl⟩
        · go_enter Try.func16, Try.ntmps16
          go_wp2
          go_ret
          exact ⟨ret_bool (alI_false (by omega)).symm, rfl⟩
      · omega
  · by_cases h3 : 48 ≤ c
    · by_cases h4 : c ≤ 57
      · go_enter Try.func16, Try.ntmps16
        go_wp2
        go_ret
        exact ⟨ret_bool (alI_true (by omega)).symm, rfl⟩
      · go_enter Try.func16, Try.ntmps16
        go_wp2
        go_ret
        exact ⟨ret_bool (alI_false (by omega)).symm, rfl⟩
    · go_enter Try.func16, Try.ntmps16
      go_wp2
      go_ret
      exact ⟨ret_bool (alI_false (by omega)).symm, rfl⟩
set_option maxHeartbeats 400000 in
theorem aln_any (c : Int) (w : World) :
    Calls Try.prog 14 #[.int .u8 c] w fun e w' => e = .returned (.bool (alI c)) ∧ w' = w := by
  by_cases h1 : 97 ≤ c
  · by_cases h2 : c ≤ 122
    · go_enter Try.func14, Try.ntmps14
      go_wp2
      go_ret
      exact ⟨ret_bool (alI_true (by omega)).symm, rfl⟩
    · by_cases h3 : 48 ≤ c
      · by_cases h4 : c ≤ 57
        · go_enter Try.func14, Try.ntmps14
          go_wp2
          go_ret
          exact ⟨ret_bool (alI_true (by omega)).symm, rfl⟩
        · go_enter Try.func14, Try.ntmps14
          go_wp2
          go_ret
          exact ⟨ret_bool (alI_false (by omega)).symm, rfl⟩
      · omega
  · by_cases h3 : 48 ≤ c
    · by_cases h4 : c ≤ 57
      · go_enter Try.func14, Try.ntmps14
        go_wp2
        go_ret
        exact ⟨ret_bool (alI_true (by omega)).symm, rfl⟩
      · go_enter Try.func14, Try.ntmps14
        go_wp2
        go_ret
        exact ⟨ret_bool (alI_false (by omega)).symm, rfl⟩
    · go_enter Try.func14, Try.ntmps14
      go_wp2
      go_ret
      exact ⟨ret_bool (alI_false (by omega)).symm, rfl⟩

/-! ### zzB1AllAlnum -/
theorem all_take (l : List UInt8) (k : Nat) (h : k < l.length) (ha : (l.take k).all Pl.al = true) (hk : Pl.al l[k] = true) : (l.take (k + 1)).all Pl.al = true := by
  rw [List.take_succ_eq_append_getElem h, List.all_append, ha]; simp [hk]
theorem allAl_of (l : List UInt8) (h1 : l.all Pl.al = true) (h2 : l ≠ []) : Pl.allAl l = true := by
  unfold Pl.allAl; rw [h1, List.isEmpty_eq_false_iff.2 h2]; rfl
theorem not_all (l : List UInt8) (k : Nat) (h : k < l.length) (hk : Pl.al l[k] = false) : Pl.allAl l = false := by
  have : l.all Pl.al = false := by
    rw [List.all_eq_false]; exact ⟨l[k], List.getElem_mem h, by simp [hk]⟩
  simp [Pl.allAl, this]

set_option maxHeartbeats 400000 in
theorem all_any (s : ByteArray) (w : World) (hs : s.size ≤ maxLen) :
    Calls Try.prog 10 #[.string s] w fun e w' => e = .returned (.bool (Pl.allAl s.data.toList)) ∧ w' = w := by
  unfold maxLen at hs
  have hl : s.data.toList.length = s.size := by simp
  by_cases h0 : s.size = 0
  · have hb : ((s.size : Int) == 0) = true := by simp [h0]
    go_enter Try.func10, Try.ntmps10
    go_wp2
    go_ret
    exact ⟨ret_bool (by have : s.data.toList = [] := List.eq_nil_of_length_eq_zero (by omega)
                        rw [this]; rfl), rfl⟩
  · have hb : ((s.size : Int) == 0) = false := by simp [h0]
    clear hl
    go_enter Try.func10, Try.ntmps10
    go_wp2
    go_loop [3] (fun i => ∃ k : Nat, k ≤ s.size ∧ i = .int .i64 k ∧ (s.data.toList.take k).all Pl.al = true) (fun i => s.size - (intOf i).toNat)
    case atStart => exact ⟨0, Nat.zero_le _, rfl, rfl⟩
    case round =>
      obtain ⟨k, hk, rfl, ha⟩ := hrel
      have HA : Hid ((s.data.toList.take k).all Pl.al = true) := ha
      clear ha
      by_cases hlt : k < s.size
      · by_cases hc : alI (s[k].toNat : Int) = true
        · go_wp2_with (go_at_call 14; refine (aln_any _ _).mono ?_; rintro e w' ⟨rfl, rfl⟩)
          go_round
          case rel => exact ⟨k + 1, by omega, by go_num, all_take _ k (by simpa using hlt) HA.out (by rw [← alI_al]; exact hc)⟩
          case measure => simp [intOf]; omega
        · have hc' : alI (s[k].toNat : Int) = false := by simpa using hc
          clear hc
          go_wp2_with (go_at_call 14; refine (aln_any _ _).mono ?_; rintro e w' ⟨rfl, rfl⟩)
          go_ret
          exact ⟨ret_bool (not_all _ k (by simpa using hlt) (by rw [← alI_al]; exact hc')).symm, rfl⟩
      · go_wp2
        go_ret
        refine ⟨ret_bool ?_, rfl⟩
        have h1 := HA.out
        rw [List.take_of_length_le (by simp; omega)] at h1
        have h2 : s.data.toList ≠ [] := fun h => h0 (by have := congrArg List.length h; simpa using this)
        exact (allAl_of _ h1 h2).symm
end Go.Proofs.Qxb6619735a
