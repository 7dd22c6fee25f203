import Derived.Test.Qxb6617374aGuards
namespace Go.Proofs.Qxb6617374a
open Go.RowKit

/-- what zzResultDomain tells -/
def Dom (nodes rounds pairs bytes : Int) (nc nh no nd : Nat) (L : Nat → Nat) (D : Nat → Int) : Prop :=
  (nh ≤ 65536 ∧ no ≤ 131072 ∧ nd ≤ 131072 ∧ ∀ i, i < nh → L i ≤ 1048576) ∧ (0 ≤ nodes ∧ nodes ≤ 4096 ∧ nc ≤ 4096) ∧ (1 ≤ rounds ∧ rounds ≤ 1073741824) ∧ (0 ≤ bytes ∧ bytes ≤ 1152921504606846976) ∧ (0 ≤ pairs ∧ pairs ≤ nodes * (nc : Int)) ∧ ∀ i, i < nd → 0 ≤ D i ∧ D i ≤ 1073741824
def DomOk (e : Ending) (nodes rounds pairs bytes : Int) (nc nh no nd : Nat) (L : Nat → Nat) (D : Nat → Int) : Prop :=
  ∃ b, e = .returned (.bool b) ∧ (b = true → Dom nodes rounds pairs bytes nc nh no nd L D)
theorem dom_no {e : Ending} {nodes rounds pairs bytes : Int} {nc nh no nd : Nat} {L : Nat → Nat} {D : Nat → Int} (he : e = .returned (.bool false)) : DomOk e nodes rounds pairs bytes nc nh no nd L D := ⟨false, he, fun h => Bool.noConfusion h⟩
theorem mul_bd {a b : Int} (h0 : 0 ≤ a) (h1 : a ≤ 4096) (g0 : 0 ≤ b) (g1 : b ≤ 4096) : 0 ≤ a * b ∧ a * b ≤ 16777216 :=
  ⟨Int.mul_nonneg h0 g0, by have := Int.mul_le_mul h1 g1 g0 (by omega : (0 : Int) ≤ 4096); omega⟩

set_option maxRecDepth 20000 in
set_option maxHeartbeats 4000000 in
theorem domain_any (nodes rounds pairs bytes : Int) (a2 a3 a4 a6 : Option Addr) (nc cc nh ch no co nd cd : Nat) (s : ByteArray) (A : Nat → Option Addr) (L C : Nat → Nat) (D : Nat → Int) (w : World)
    (h3 : VRow w a3 nh (fun i => .slice (A i) (L i) (C i))) (h6 : VRow w a6 nd (fun i => .int .i64 (D i))) :
    Calls Try.prog 5 #[.int .i64 nodes, .int .i64 rounds, .slice a2 nc cc, .slice a3 nh ch, .slice a4 no co, .int .i64 pairs, .slice a6 nd cd, .int .i64 bytes, .string s] w
      fun e w' => DomOk e nodes rounds pairs bytes nc nh no nd L D ∧ w = w' := by
  have H3 : Hid (VRow w a3 nh (fun i => .slice (A i) (L i) (C i))) := h3
  have H6 : Hid (VRow w a6 nd (fun i => .int .i64 (D i))) := h6
  clear h3 h6
  go_enter Try.func5, Try.ntmps5
  go_wp2_with fail
  refine (tally_any a2 a3 a4 a6 nc cc nh ch no co nd cd s A L C _ H3.out).mono ?_
  rintro e w' ⟨⟨x, rfl, hx⟩, rfl⟩
  by_cases c0 : 1048576 < x
  · clear hx
    go_wp2
    go_ret
    exact ⟨dom_no rfl, rfl⟩
  obtain ⟨t1, t2, t3, t4, t5⟩ := hx (by omega)
  have HT : Hid (∀ i, i < nh → L i ≤ 1048576) := t5
  clear hx t5
  by_cases c1 : nodes < 0
  · go_wp2
    go_ret
    exact ⟨dom_no rfl, rfl⟩
  by_cases c2 : 4096 < nodes
  · go_wp2
    go_ret
    exact ⟨dom_no rfl, rfl⟩
  by_cases c3 : 4096 < nc
  · go_wp2
    go_ret
    exact ⟨dom_no rfl, rfl⟩
  by_cases c4 : rounds < 1
  · go_wp2
    go_ret
    exact ⟨dom_no rfl, rfl⟩
  by_cases c5 : 1073741824 < rounds
  · go_wp2
    go_ret
    exact ⟨dom_no rfl, rfl⟩
  by_cases c6 : bytes < 0
  · go_wp2
    go_ret
    exact ⟨dom_no rfl, rfl⟩
  by_cases c7 : 1152921504606846976 < bytes
  · go_wp2
    go_ret
    exact ⟨dom_no rfl, rfl⟩
  by_cases c8 : pairs < 0
  · go_wp2
    go_ret
    exact ⟨dom_no rfl, rfl⟩
  have hmb := mul_bd (a := nodes) (b := (nc : Int)) (by omega) (by omega) (by omega) (by omega)
  obtain ⟨all, hall⟩ : ∃ all, all = nodes * (nc : Int) := ⟨_, rfl⟩
  have HALL : Hid (nodes * (nc : Int) = all) := hall.symm
  rw [HALL.out] at hmb
  have hmw : wrap64 (nodes * (nc : Int)) = all := by rw [HALL.out]; unfold wrap64; omega
  clear hall
  by_cases c9 : all < pairs
  · go_wp2
    go_ret
    exact ⟨dom_no rfl, rfl⟩
  have HF : Hid ((nh ≤ 65536 ∧ no ≤ 131072 ∧ nd ≤ 131072 ∧ ∀ i, i < nh → L i ≤ 1048576) ∧ (0 ≤ nodes ∧ nodes ≤ 4096 ∧ nc ≤ 4096) ∧ (1 ≤ rounds ∧ rounds ≤ 1073741824) ∧ (0 ≤ bytes ∧ bytes ≤ 1152921504606846976) ∧ (0 ≤ pairs ∧ pairs ≤ nodes * (nc : Int))) :=
    ⟨⟨t2, t3, t4, HT.out⟩, ⟨by omega, by omega, by omega⟩, ⟨by omega, by omega⟩, ⟨by omega, by omega⟩, ⟨by omega, by rw [HALL.out]; omega⟩⟩
  go_wp2
  go_loop [19] (fun i => ∃ (k : Nat), k ≤ nd ∧ i = .int .i64 k ∧ Hid (∀ i, i < k → 0 ≤ D i ∧ D i ≤ 1073741824)) (fun i => nd - (intOf i).toNat)
  case atStart => exact ⟨0, Nat.zero_le _, rfl, fun i hi => by omega⟩
  case round =>
    obtain ⟨k, hk, rfl, HA⟩ := hrel
    clear hmw
    by_cases hlt : k < nd
    · obtain ⟨b1, o1, rfl, hb1, hc1⟩ := H6.out.2 (by omega)
      have g1 := hc1 k hlt
      have i1 : (k : Int) < (nd : Int) := by omega
      clear hc1
      by_cases d1 : D k < 0
      · go_wp2
        go_ret
        exact ⟨dom_no rfl, rfl⟩
      by_cases d2 : 1073741824 < D k
      · go_wp2
        go_ret
        exact ⟨dom_no rfl, rfl⟩
      have HN : Hid (∀ i, i < k + 1 → 0 ≤ D i ∧ D i ≤ 1073741824) := fun i hi => by
        by_cases e : i = k
        · subst e; omega
        · exact HA.out i (by omega)
      go_wp2
      go_round
      case rel => exact ⟨k + 1, by omega, by go_num, HN⟩
      case measure => simp [intOf]; omega
    · have HD : Hid (Dom nodes rounds pairs bytes nc nh no nd L D) := ⟨HF.out.1, HF.out.2.1, HF.out.2.2.1, HF.out.2.2.2.1, HF.out.2.2.2.2, fun i hi => HA.out i (by omega)⟩
      go_wp2
      go_ret
      exact ⟨⟨true, rfl, fun _ => HD.out⟩, rfl⟩
end Go.Proofs.Qxb6617374a
