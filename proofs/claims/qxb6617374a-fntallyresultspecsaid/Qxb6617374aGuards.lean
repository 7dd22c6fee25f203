import Derived.Test.Qxb6617374aClones
namespace Go.Proofs.Qxb6617374a
open Go.RowKit

/-- some bool came back -/
def IsB (e : Ending) : Prop := ∃ b, e = .returned (.bool b)

set_option maxRecDepth 20000 in
set_option maxHeartbeats 2000000 in
theorem bytes_any (nodes rounds pairs bytes seen : Int) (fb : Nat) (a2 a3 a4 a6 : Option Addr) (nc cc nh ch no co nd cd : Nat) (s : ByteArray) (A : Nat → Option Addr) (L C : Nat → Nat) (w : World)
    (hc : nc ≤ maxLen) (h3 : VRow w a3 nh (fun i => .slice (A i) (L i) (C i))) :
    Calls Try.prog 4 #[.int .i64 nodes, .int .i64 rounds, .slice a2 nc cc, .slice a3 nh ch, .slice a4 no co, .int .i64 pairs, .slice a6 nd cd, .int .i64 bytes, .float .f64 fb, .int .i64 seen, .string s] w
      fun e w' => IsB e ∧ w = w' := by
  have hn := h3.1
  have H3 : Hid (VRow w a3 nh (fun i => .slice (A i) (L i) (C i))) := h3
  unfold maxLen at hn hc
  clear h3
  by_cases c1 : 1048576 < nc
  · go_enter Try.func4, Try.ntmps4
    go_wp2
    go_ret
    exact ⟨⟨_, rfl⟩, rfl⟩
  by_cases c2 : 1048576 < nh
  · go_enter Try.func4, Try.ntmps4
    go_wp2
    go_ret
    exact ⟨⟨_, rfl⟩, rfl⟩
  by_cases c3 : 1048576 < nc + nh
  · go_enter Try.func4, Try.ntmps4
    go_wp2
    go_ret
    exact ⟨⟨_, rfl⟩, rfl⟩
  go_enter Try.func4, Try.ntmps4
  go_wp2
  go_loop [23, 24] (fun tt i => ∃ (k : Nat) (x : Int), k ≤ nh ∧ i = .int .i64 k ∧ tt = .int .i64 x) (fun _ i => nh - (intOf i).toNat)
  case atStart => exact ⟨0, _, Nat.zero_le _, rfl, rfl⟩
  case round =>
    obtain ⟨k, x, hk, rfl, rfl⟩ := hrel
    by_cases hlt : k < nh
    · obtain ⟨b1, o1, rfl, hb1, hc1⟩ := H3.out.2 (by omega)
      have g1 := hc1 k hlt
      have i1 : (k : Int) < (nh : Int) := by omega
      clear hc1
      go_wp2
      · go_ret
        exact ⟨⟨_, rfl⟩, rfl⟩
      · go_ret
        exact ⟨⟨_, rfl⟩, rfl⟩
      · go_round
        case rel => exact ⟨k + 1, _, by omega, by go_num, rfl⟩
        case measure => simp [intOf]; omega
    · go_wp2
      all_goals
        go_ret
        exact ⟨⟨_, rfl⟩, rfl⟩

/-- what zzTallyBytes tells -/
def TBOk (e : Ending) (nc nh no nd : Nat) (L : Nat → Nat) : Prop :=
  ∃ x : Int, e = .returned (.int .i64 x) ∧ (x ≤ 1048576 → nc ≤ 131072 ∧ nh ≤ 65536 ∧ no ≤ 131072 ∧ nd ≤ 131072 ∧ ∀ i, i < nh → L i ≤ 1048576)
theorem tb_no {e : Ending} {nc nh no nd : Nat} {L : Nat → Nat} (x : Int) (he : e = .returned (.int .i64 x)) (hx : 1048576 < x) : TBOk e nc nh no nd L := ⟨x, he, fun h => by omega⟩

set_option maxRecDepth 20000 in
set_option maxHeartbeats 2000000 in
theorem tally_any (a2 a3 a4 a6 : Option Addr) (nc cc nh ch no co nd cd : Nat) (s : ByteArray) (A : Nat → Option Addr) (L C : Nat → Nat) (w : World)
    (h3 : VRow w a3 nh (fun i => .slice (A i) (L i) (C i))) :
    Calls Try.prog 11 #[.slice a2 nc cc, .slice a3 nh ch, .slice a4 no co, .slice a6 nd cd, .slice none 0 0, .string s] w
      fun e w' => TBOk e nc nh no nd L ∧ w = w' := by
  have H3 : Hid (VRow w a3 nh (fun i => .slice (A i) (L i) (C i))) := h3
  clear h3
  by_cases c1 : 1048576 < s.size
  · go_enter Try.func11, Try.ntmps11
    go_wp2
    go_ret
    exact ⟨tb_no 1048577 rfl (by omega), rfl⟩
  by_cases c2 : 1048576 < nc
  · go_enter Try.func11, Try.ntmps11
    go_wp2
    go_ret
    exact ⟨tb_no 1048577 rfl (by omega), rfl⟩
  by_cases c3 : 1048576 < nh
  · go_enter Try.func11, Try.ntmps11
    go_wp2
    go_ret
    exact ⟨tb_no 1048577 rfl (by omega), rfl⟩
  by_cases c4 : 1048576 < no
  · go_enter Try.func11, Try.ntmps11
    go_wp2
    go_ret
    exact ⟨tb_no 1048577 rfl (by omega), rfl⟩
  by_cases c5 : 1048576 < nd
  · go_enter Try.func11, Try.ntmps11
    go_wp2
    go_ret
    exact ⟨tb_no 1048577 rfl (by omega), rfl⟩
  by_cases c6 : 1048576 < (s.size : Int) + 8 * (nc : Int) + 24 * (nh : Int) + 8 * (no : Int) + 8 * (nd : Int)
  · go_enter Try.func11, Try.ntmps11
    go_wp2
    go_ret
    exact ⟨tb_no _ rfl c6, rfl⟩
  go_enter Try.func11, Try.ntmps11
  go_wp2
  go_loop [13, 14] (fun tt i => ∃ (k : Nat) (x : Int), k ≤ nh ∧ i = .int .i64 k ∧ tt = .int .i64 x ∧ 0 ≤ x ∧ x ≤ 1048576 ∧ Hid (∀ i, i < k → L i ≤ 1048576)) (fun _ i => nh - (intOf i).toNat)
  case atStart => exact ⟨0, _, Nat.zero_le _, rfl, rfl, by omega, by omega, fun i hi => by omega⟩
  case round =>
    obtain ⟨k, x, hk, rfl, rfl, hx0, hx1, HA⟩ := hrel
    by_cases hlt : k < nh
    · obtain ⟨b1, o1, rfl, hb1, hc1⟩ := H3.out.2 (by omega)
      have g1 := hc1 k hlt
      have i1 : (k : Int) < (nh : Int) := by omega
      clear hc1
      by_cases d1 : 1048576 < L k
      · go_wp2
        go_ret
        exact ⟨tb_no 1048577 rfl (by omega), rfl⟩
      have HN : Hid (∀ i, i < k + 1 → L i ≤ 1048576) := fun i hi => by
        by_cases e : i = k
        · subst e; omega
        · exact HA.out i (by omega)
      by_cases d2 : 1048576 < x + 8 * (L k : Int)
      · go_wp2
        go_ret
        exact ⟨tb_no _ rfl d2, rfl⟩
      · go_wp2
        go_round
        case rel => exact ⟨k + 1, _, by omega, by go_num, rfl, by omega, by omega, HN⟩
        case measure => simp [intOf]; omega
    · go_wp2
      go_ret
      exact ⟨⟨x, rfl, fun _ => ⟨by omega, by omega, by omega, by omega, fun i hi => HA.out i (by omega)⟩⟩, rfl⟩

end Go.Proofs.Qxb6617374a
