import Derived.Test.Qxb6619857aProg
import Derived.Test.Qxb6619857aPlain
import Derived.WalkSpells
import Derived.ProofKit
import Derived.Deep.QuietTactic
import Derived.BigQuiet
import Derived.WalkSmall
namespace Go.Proofs.Qxb6619857a
open Go.RowKit

namespace Pl
theorem lt_iff (c : UInt8) : (c.toNat : Int) < 128 ↔ c < 128 := by
  rw [UInt8.lt_iff_toNat_lt]
  show _ ↔ c.toNat < 128
  omega
theorem drop_at (l : List UInt8) (k : Nat) (h : k < l.length) : l.drop k = l[k] :: l.drop (k + 1) := List.drop_eq_getElem_cons h
theorem drop_inj {l : List UInt8} {i j : Nat} (hi : i ≤ l.length) (hj : j ≤ l.length) (h : l.drop i = l.drop j) : i = j := by
  have := congrArg List.length h
  simp at this
  omega
/-- at the k-th byte of the varint that begins at i -/
def At (l : List UInt8) (i k : Nat) (x : Int) : Prop := uv (l.drop i) = uvGo k x (l.drop (i + k))
theorem at_start (l : List UInt8) (i : Nat) : At l i 0 0 := rfl
theorem at_stop {l : List UInt8} {i k : Nat} {x : Int} (h : At l i k x) (hk : k < 10) (hl : i + k < l.length) (hc : l[i + k] < 128) : uv (l.drop i) = some (vst x l[i + k] k, l.drop (i + k + 1)) := by
  unfold At at h
  rw [h, drop_at l (i + k) hl, uvGo_stop _ _ _ _ hk hc]
theorem at_next {l : List UInt8} {i k : Nat} {x : Int} (h : At l i k x) (hk : k < 10) (hl : i + k < l.length) (hc : ¬ l[i + k] < 128) : At l i (k + 1) (vst x l[i + k] k) := by
  unfold At at *
  rw [h, drop_at l (i + k) hl, uvGo_next _ _ _ _ hk hc]
  rfl
theorem at_end {l : List UInt8} {i k : Nat} {x : Int} (h : At l i k x) (hl : l.length ≤ i + k) : uv (l.drop i) = none := by
  unfold At at h
  rw [h, List.drop_of_length_le hl]; rfl
theorem at_ten {l : List UInt8} {i k : Nat} {x : Int} (h : At l i k x) (hk : 10 ≤ k) : uv (l.drop i) = none := by
  unfold At at h
  rw [h, uvGo_ten _ _ _ hk]
end Pl

/-- what b1Uvarint answers -/
def uvAns (l : List UInt8) (i : Nat) : Value :=
  match Pl.uv (l.drop i) with
  | none => .tuple #[.int .i64 0, .int .u64 0, .bool false]
  | some (v, r) => .tuple #[.int .i64 ((l.length - r.length : Nat) : Int), .int .u64 v, .bool true]
theorem uvAns_none {l : List UInt8} {i : Nat} (h : Pl.uv (l.drop i) = none) : uvAns l i = .tuple #[.int .i64 0, .int .u64 0, .bool false] := by unfold uvAns; rw [h]
theorem uvAns_some {l : List UInt8} {i j : Nat} {v : Int} (hj : j ≤ l.length) (h : Pl.uv (l.drop i) = some (v, l.drop j)) : uvAns l i = .tuple #[.int .i64 (j : Int), .int .u64 v, .bool true] := by
  unfold uvAns; rw [h]
  simp only [List.length_drop]
  rw [show l.length - (l.length - j) = j from by omega]
theorem ret_eq {a b : Value} (h : a = b) : Ending.returned a = .returned b := by rw [h]

set_option maxRecDepth 20000 in
set_option maxHeartbeats 400000 in
theorem uvarint_any (s : ByteArray) (i : Nat) (w : World) (hs : s.size ≤ 1048576) (hi : i ≤ s.size) :
    Calls Try.prog 17 #[.string s, .int .i64 i] w fun e w' => e = .returned (uvAns s.data.toList i) ∧ w' = w := by
  go_enter Try.func17, Try.ntmps17
  go_wp2
  go_loop [7, 8] (fun v kk => ∃ k : Nat, ∃ x : Int, k ≤ 10 ∧ i + k ≤ s.size ∧ kk = .int .i64 k ∧ v = .int .u64 x ∧ Pl.At s.data.toList i k x) (fun _ i => 10 - (intOf i).toNat)
  case atStart => exact ⟨0, 0, by omega, hi, rfl, rfl, Pl.at_start _ _⟩
  case round =>
    obtain ⟨k, x, hk, hks, rfl, rfl, hat⟩ := hrel
    by_cases hk' : k < 10
    · by_cases hlt : i + k < s.size
      · have hlt' : i + k < s.data.toList.length := by simpa using hlt
        have hsh : IntKind.u64.wrap (7 * (k : Int)) = 7 * (k : Int) := by rw [IntKind.wrap_u64]; omega
        have h1 : (i : Int) + (k : Int) < (s.size : Int) := by omega
        have h2 : (0 : Int) ≤ (i : Int) + (k : Int) := by omega
        have h3 : ((i : Int) + (k : Int)).toNat = i + k := by omega
        by_cases hc : s[i + k] < 128
        · have HA : Hid (Pl.uv (s.data.toList.drop i) = some (Pl.vst x s[i + k] k, s.data.toList.drop (i + k + 1))) := Pl.at_stop hat hk' hlt' hc
          have hci : (s[i + k].toNat : Int) < 128 := (Pl.lt_iff _).2 hc
          clear hat hc
          go_wp2
          go_ret3
          exact ⟨ret_eq (by rw [uvAns_some (by omega) HA.out]; rfl), rfl⟩
        · have HA : Hid (Pl.At s.data.toList i (k + 1) (Pl.vst x s[i + k] k)) := Pl.at_next hat hk' hlt' hc
          have hci : ¬ (s[i + k].toNat : Int) < 128 := fun h => hc ((Pl.lt_iff _).1 h)
          clear hat hc
          go_wp2
          go_round
          case rel => exact ⟨k + 1, Pl.vst x s[i + k] k, by omega, by omega, by go_num, rfl, HA.out⟩
          case measure => simp [intOf]; omega
      · have HA : Hid (Pl.uv (s.data.toList.drop i) = none) := Pl.at_end hat (by simp; omega)
        go_wp2
        go_ret3
        exact ⟨ret_eq (uvAns_none HA.out).symm, rfl⟩
    · have HA : Hid (Pl.uv (s.data.toList.drop i) = none) := Pl.at_ten hat (by omega)
      go_wp2
      go_ret3
      exact ⟨ret_eq (uvAns_none HA.out).symm, rfl⟩
end Go.Proofs.Qxb6619857a
