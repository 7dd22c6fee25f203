import Derived.Test.Qxb6619857aSame
namespace Go.Proofs.Qxb6619857a
open Go.RowKit

/-- some bool came back -/
def IsB (e : Ending) : Prop := ∃ b, e = .returned (.bool b)

set_option maxRecDepth 20000 in
set_option maxHeartbeats 1000000 in
theorem addlens_any (t : Int) (a1 : Option Addr) (n c1 : Nat) (E : Nat → ByteArray) (w : World) (hn : n ≤ 65536)
    (h1 : VRow w a1 n (fun i => .string (E i))) :
    Calls Try.prog 7 #[.int .i64 t, .slice a1 n c1] w fun e w' => (∃ x, e = .returned (.int .i64 x)) ∧ w = w' := by
  have H1 : Hid (VRow w a1 n (fun i => .string (E i))) := h1
  clear h1
  go_enter Try.func7, Try.ntmps7
  go_wp2
  go_loop [0, 5] (fun tt i => ∃ (k : Nat) (x : Int), k ≤ n ∧ i = .int .i64 k ∧ tt = .int .i64 x) (fun _ i => n - (intOf i).toNat)
  case atStart => exact ⟨0, t, Nat.zero_le _, rfl, rfl⟩
  case round =>
    obtain ⟨k, x, hk, rfl, rfl⟩ := hrel
    by_cases hlt : k < n
    · obtain ⟨b1, o1, rfl, hb1, hc1⟩ := H1.out.2 (by omega)
      have g1 := hc1 k hlt
      have i1 : (k : Int) < (n : Int) := by omega
      clear hc1
      go_wp2
      · go_ret
        exact ⟨⟨_, rfl⟩, rfl⟩
      · go_round
        case rel => exact ⟨k + 1, _, by omega, by go_num, rfl⟩
        case measure => simp [intOf]; omega
    · go_wp2
      go_ret
      exact ⟨⟨_, rfl⟩, rfl⟩

set_option maxRecDepth 20000 in
set_option maxHeartbeats 1000000 in
theorem bytes13_any (a1 a2 : Option Addr) (n m c1 c2 : Nat) (p : ByteArray) (E : Nat → ByteArray) (w : World)
    (h1 : VRow w a1 n (fun i => .string (E i))) :
    Calls Try.prog 13 #[.slice a1 n c1, .slice a2 m c2, .string p] w fun e w' => IsB e ∧ w = w' := by
  have hn := h1.1
  have H1 : Hid (VRow w a1 n (fun i => .string (E i))) := h1
  unfold maxLen at hn
  clear h1
  by_cases h2 : 1048576 < n
  · go_enter Try.func13, Try.ntmps13
    go_wp2
    go_ret
    exact ⟨⟨_, rfl⟩, rfl⟩
  go_enter Try.func13, Try.ntmps13
  go_wp2
  go_loop [7, 8] (fun tt i => ∃ (k : Nat) (x : Int), k ≤ n ∧ i = .int .i64 k ∧ tt = .int .i64 x) (fun _ i => n - (intOf i).toNat)
  case atStart => exact ⟨0, _, Nat.zero_le _, rfl, rfl⟩
  case round =>
    obtain ⟨k, x, hk, rfl, rfl⟩ := hrel
    by_cases hlt : k < n
    · obtain ⟨b1, o1, rfl, hb1, hc1⟩ := H1.out.2 (by omega)
      have g1 := hc1 k hlt
      have i1 : (k : Int) < (n : Int) := by omega
      clear hc1
      go_wp2
      · go_ret
        exact ⟨⟨_, rfl⟩, rfl⟩
      · go_ret
        exact ⟨⟨_, rfl⟩, rfl⟩
      · go_round
        case rel => exact ⟨k + 1, _, by omega, by go_num, rfl⟩
        case measure => simp [intOf]; omega
    · go_wp2
      all_goals
        go_ret
        exact ⟨⟨_, rfl⟩, rfl⟩

set_option maxRecDepth 20000 in
set_option maxHeartbeats 1000000 in
theorem bytes6_any (a1 a2 : Option Addr) (n m c1 c2 : Nat) (p q : ByteArray) (E : Nat → ByteArray) (w : World)
    (h1 : VRow w a1 n (fun i => .string (E i))) :
    Calls Try.prog 6 #[.slice a1 n c1, .slice a2 m c2, .string p, .string q] w fun e w' => IsB e ∧ w = w' := by
  have hn := h1.1
  have H1 : Hid (VRow w a1 n (fun i => .string (E i))) := h1
  unfold maxLen at hn
  clear h1
  by_cases h2 : 1048576 < n
  · go_enter Try.func6, Try.ntmps6
    go_wp2
    go_ret
    exact ⟨⟨_, rfl⟩, rfl⟩
  go_enter Try.func6, Try.ntmps6
  go_wp2
  go_loop [9, 10] (fun tt i => ∃ (k : Nat) (x : Int), k ≤ n ∧ i = .int .i64 k ∧ tt = .int .i64 x) (fun _ i => n - (intOf i).toNat)
  case atStart => exact ⟨0, _, Nat.zero_le _, rfl, rfl⟩
  case round =>
    obtain ⟨k, x, hk, rfl, rfl⟩ := hrel
    by_cases hlt : k < n
    · obtain ⟨b1, o1, rfl, hb1, hc1⟩ := H1.out.2 (by omega)
      have g1 := hc1 k hlt
      have i1 : (k : Int) < (n : Int) := by omega
      clear hc1
      go_wp2
      · go_ret
        exact ⟨⟨_, rfl⟩, rfl⟩
      · go_ret
        exact ⟨⟨_, rfl⟩, rfl⟩
      · go_round
        case rel => exact ⟨k + 1, _, by omega, by go_num, rfl⟩
        case measure => simp [intOf]; omega
    · go_wp2
      all_goals
        go_ret
        exact ⟨⟨_, rfl⟩, rfl⟩

theorem zz_any (v : Value) (s : ByteArray) (w : World) (B : Nat) (ps : List (ByteArray × Int)) (rs : List (Int × List UInt8))
    (hown : Own w B v ps) (hB : B ≤ w.heap.size) (hr : Pl.Recs rs s.data.toList) (hs : s.size ≤ 2097152) (hp : ps.length ≤ 1048576) :
    Calls Try.prog 9 #[v, .string s] w fun e w' => ∃ a cap, e = .returned (.slice a (ps.length + rs.length) cap) ∧ Hid (Own w' B (.slice a (ps.length + rs.length) cap) (ps ++ rs.map part)) ∧ Below B w w' := by
  have HO : Hid (Own w B v ps) := hown
  have HR : Hid (Pl.Recs rs s.data.toList) := hr
  clear hown hr
  go_enter Try.func9, Try.ntmps9
  go_wp2_with fail
  refine (unpack_any v s _ B ps rs HO.out hB HR.out hs hp).mono ?_
  rintro e w' ⟨v', rfl, ho, hb⟩
  obtain ⟨a, cap, hv, _⟩ := own_row ho
  rw [List.length_append, List.length_map] at hv
  have HO2 : Hid (Own w' B v' (ps ++ rs.map part)) := ho
  clear ho
  rw [hv] at HO2
  rw [hv]
  clear hv
  go_wp2
  go_ret
  exact ⟨_, _, rfl, HO2, hb⟩

theorem made_sl (a1 a2 : Option Addr) (n c1 c2 : Nat) (E : Nat → ByteArray) (R : Nat → Int) (w : World) (hn : n ≤ 65536)
    (h1 : VRow w a1 n (fun i => .string (E i))) (h2 : VRow w a2 n (fun i => .int .i64 (R i))) :
    Calls Try.prog 10 #[.slice a1 n c1, .slice a2 n c2] w fun e w' => ∃ a cap, e = .returned (.slice a n cap) ∧ Hid (Own w' w.heap.size (.slice a n cap) (mades E R n)) ∧ Below w.heap.size w w' := by
  refine (made_any a1 a2 n c1 c2 E R w hn h1 h2).mono ?_
  rintro e w' ⟨v, rfl, ho, hb⟩
  obtain ⟨a, cap, hv, _⟩ := own_row ho
  rw [mades_len] at hv
  subst hv
  exact ⟨a, cap, rfl, ho, hb⟩
end Go.Proofs.Qxb6619857a
