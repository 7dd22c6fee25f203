import Derived.Test.Qxb6619745aTurn
import Derived.Deep.QuietTactic
import Derived.BigQuiet
import Derived.WalkSmall
namespace Go.Proofs.Qxb6619745a
open Go.RowKit

/-- what the walk is told of a slice of one-cell elements that came in -/
def VRow (w : World) (a : Option Addr) (len : Nat) (V : Nat → Value) : Prop :=
  len ≤ maxLen ∧ (0 < len → ∃ b off, a = some ⟨b, off, none⟩ ∧ ∀ i, i < len → w.cell? ⟨b, off + i, none⟩ = some (V i))

theorem step_any (was is : Bool) (w : World) :
    Calls Try.prog 7 #[.bool was, .int .u8 (chg was is), .bool (was != is)] w fun e w' => e = .returned (.tuple #[.bool is, .bool true]) ∧ w' = w := by
  cases was <;> cases is
  all_goals
    simp only [chg]
    go_enter Try.func7, Try.ntmps7
    go_wp2
    go_ret2
    exact ⟨rfl, rfl⟩

namespace fnTurnReplayRebuildsStates
set_option maxHeartbeats 400000 in
theorem bytes_no (a : Option Addr) (len cap : Nat) (w0 : len ≤ maxLen) (h : 1048576 < len) (w : World) :
    Calls Try.prog 5 #[.slice a len cap] w fun e w' => e = .returned (.bool false) ∧ w = w' := by
  unfold maxLen at w0
  go_enter Try.func5, Try.ntmps5
  go_wp2
  go_ret
  exact ⟨rfl, rfl⟩
set_option maxHeartbeats 400000 in
theorem bytes_yes (a : Option Addr) (len cap : Nat) (h : len ≤ 1048576) (w : World) :
    Calls Try.prog 5 #[.slice a len cap] w fun e w' => e = .returned (.bool true) ∧ w = w' := by
  go_enter Try.func5, Try.ntmps5
  go_wp2
  go_ret
  exact ⟨rfl, rfl⟩

set_option maxHeartbeats 1000000 in
theorem walk (a : Option Addr) (len cap : Nat) (B : Nat → Bool) (w : World) (h : VRow w a len (fun i => .bool (B i))) :
    Calls Try.prog 3 #[.slice a len cap] w fun e w' => e = .returned (.bool true) ∧ Below w.heap.size w w' := by
  obtain ⟨w0, hcell⟩ := h
  by_cases hb : len ≤ 1048576
  · by_cases h1 : 65536 < len
    · go_enter Try.func3, Try.ntmps3
      go_wp2_with (go_at_call 5; refine (bytes_yes _ _ _ hb _).mono ?_; rintro e w' ⟨rfl, rfl⟩)
      go_ret
      exact ⟨rfl, Below.refl _ _⟩
    by_cases h2 : len = 0
    · have e2 : ((len : Int) == 0) = true := by rw [h2]; rfl
      clear h2
      go_enter Try.func3, Try.ntmps3
      go_wp2_with (go_at_call 5; refine (bytes_yes _ _ _ hb _).mono ?_; rintro e w' ⟨rfl, rfl⟩)
      go_ret
      exact ⟨rfl, Below.refl _ _⟩
    obtain ⟨b, off, rfl, hc⟩ := hcell (by omega)
    have e2 : ((len : Int) == 0) = false := by rw [beq_eq_false_iff_ne]; omega
    have hp : (0 : Int) < (len : Int) := by omega
    have hc0 : w.cell? ⟨b, off, none⟩ = some (.bool (B 0)) := hc 0 (by omega)
    have HC : Hid (∀ i, i < len → w.cell? ⟨b, off + i, none⟩ = some (.bool (B i))) := hc
    clear hcell hc
    go_enter Try.func3, Try.ntmps3
    go_wp2_with (go_at_call 5; refine (bytes_yes _ _ _ hb _).mono ?_; rintro e w' ⟨rfl, rfl⟩)
    go_loopw [3, 4] (fun cur i wr => ∃ m : Nat, m + 1 ≤ len ∧ i = .int .i64 ((m : Int) + 1) ∧ cur = .bool (B m) ∧ ∃ q, wr = w.drewN q) (fun _ i _ => len + 1 - (intOf i).toNat)
    case atStart => exact ⟨0, by omega, rfl, rfl, 0, rfl⟩
    case round =>
      obtain ⟨m, hm, rfl, rfl, hq⟩ := hrel
      have HQ : Hid (∃ q, wr = w.drewN q) := hq
      clear hq
      clear hc0
      by_cases hlt : m + 1 < len
      · have c0 : wr.cell? ⟨b, off + m, none⟩ = some (.bool (B m)) := by obtain ⟨q, rfl⟩ := HQ.out; exact HC.out m (by omega)
        have c1 : wr.cell? ⟨b, off + (m + 1), none⟩ = some (.bool (B (m + 1))) := by obtain ⟨q, rfl⟩ := HQ.out; exact HC.out (m + 1) hlt
        have i0 : (m : Int) < (len : Int) := by omega
        have i1 : (m : Int) + 1 < (len : Int) := by omega
        have i2 : (0 : Int) ≤ (m : Int) + 1 := by omega
        have i3 : ((m : Int) + 1).toNat = m + 1 := by omega
        have hwr : IntKind.i64.wrap (m : Int) = (m : Int) := by rw [IntKind.wrap_i64]; omega
        go_wp2
        go_quiet ((go_at_call 6; exact Calls.quiet_of_same (turn_any _ _ _)))
        go_wp2_with fail
        refine (step_any _ _ _).mono ?_
        rintro e w2 ⟨rfl, rfl⟩
        have hself : (B (m + 1) != B (m + 1)) = false := bne_self_eq_false _
        go_wp2
        go_roundw
        case rel => exact ⟨m + 1, by omega, by go_num, rfl, by obtain ⟨q, rfl⟩ := HQ.out; exact ⟨q + nq, by simp⟩⟩
        case measure => simp [intOf]; omega
      · go_wp2
        go_ret
        exact ⟨rfl, by obtain ⟨q, rfl⟩ := HQ.out; exact below_drewN (Below.refl _ _) _⟩
  · go_enter Try.func3, Try.ntmps3
    go_wp2_with (go_at_call 5; refine (bytes_no _ _ _ w0 (by omega) _).mono ?_; rintro e w' ⟨rfl, rfl⟩)
    go_ret
    exact ⟨rfl, Below.refl _ _⟩
end fnTurnReplayRebuildsStates
end Go.Proofs.Qxb6619745a
