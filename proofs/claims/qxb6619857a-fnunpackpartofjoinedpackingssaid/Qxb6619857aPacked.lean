import Derived.Test.Qxb6619857aVarint
namespace Go.Proofs.Qxb6619857a
open Go.RowKit

namespace Pl
def A0 (l : List UInt8) (k : Nat) (x : Int) : Prop := uv l = uvGo k x (l.drop k)
theorem a0_start (l : List UInt8) : A0 l 0 0 := rfl
theorem a0_stop {l : List UInt8} {k : Nat} {x : Int} (h : A0 l k x) (hk : k < 10) (hl : k < l.length) (hc : l[k] < 128) : uv l = some (vst x l[k] k, l.drop (k + 1)) := by
  unfold A0 at h
  rw [h, drop_at l k hl, uvGo_stop _ _ _ _ hk hc]
theorem a0_next {l : List UInt8} {k : Nat} {x : Int} (h : A0 l k x) (hk : k < 10) (hl : k < l.length) (hc : ¬ l[k] < 128) : A0 l (k + 1) (vst x l[k] k) := by
  unfold A0 at *
  rw [h, drop_at l k hl, uvGo_next _ _ _ _ hk hc]
theorem a0_in {l : List UInt8} {k : Nat} {x : Int} {y : Int × List UInt8} (h : A0 l k x) (hy : uv l = some y) : k < 10 ∧ k < l.length := by
  unfold A0 at h
  rw [hy] at h
  refine ⟨Nat.lt_of_not_le fun hk => ?_, Nat.lt_of_not_le fun hl => ?_⟩
  · rw [uvGo_ten _ _ _ hk] at h; simp at h
  · rw [List.drop_of_length_le hl] at h; simp [uvGo] at h
end Pl

theorem extract_list (s : ByteArray) (i j : Nat) : (s.extract i j).data.toList = (s.data.toList.drop i).take (j - i) := by
  simp [ByteArray.data_extract]

set_option maxRecDepth 20000 in
set_option maxHeartbeats 400000 in
theorem packed_any (s : ByteArray) (w : World) (v : Int) (m : Nat) (hm : m ≤ s.size) (hv : Pl.uv s.data.toList = some (v, s.data.toList.drop m)) :
    Calls Try.prog 20 #[.string s] w fun e w' => e = .returned (.tuple #[.int .u64 v, .string (s.extract m s.size)]) ∧ ∃ q, w' = w.drewN q := by
  have HV : Hid (Pl.uv s.data.toList = some (v, s.data.toList.drop m)) := hv
  clear hv
  have HL : Hid (s.data.toList.length = s.size) := by show s.data.toList.length = s.size; simp
  go_enter Try.func20, Try.ntmps20
  go_wp2
  go_loop [4, 5] (fun v i => ∃ k : Nat, ∃ x : Int, k < 10 ∧ k < s.size ∧ i = .int .i64 k ∧ v = .int .u64 x ∧ Pl.A0 s.data.toList k x) (fun _ i => s.size - (intOf i).toNat)
  case atStart =>
    have := Pl.a0_in (Pl.a0_start _) HV.out
    rw [HL.out] at this
    exact ⟨0, 0, by omega, this.2, rfl, rfl, Pl.a0_start _⟩
  case round =>
    obtain ⟨k, x, hk, hks, rfl, rfl, hat⟩ := hrel
    have hks' : k < s.data.toList.length := by rw [HL.out]; exact hks
    by_cases hc : s[k] < 128
    · have h1 := Pl.a0_stop hat hk hks' hc
      rw [HV.out] at h1
      simp only [Option.some.injEq, Prod.mk.injEq] at h1
      have hmk : m = k + 1 := Pl.drop_inj (by rw [HL.out]; omega) (by rw [HL.out]; omega) h1.2
      have HA : Hid (v = Pl.vst x s[k] k) := h1.1
      subst hmk
      have hci : (s[k].toNat : Int) < 128 := (Pl.lt_iff _).2 hc
      have h2 : (0 : Int) ≤ (k : Int) + 1 := by omega
      have h3 : ((k : Int) + 1).toNat = k + 1 := by omega
      have h4 : (k : Int) + 1 ≤ (s.size : Int) := by omega
      have h5 : IntKind.i64.wrap ((k : Int) + 1) = (k : Int) + 1 := by rw [IntKind.wrap_i64]; omega
      clear hat hc h1
      go_wp2
      go_quiet (fail)
      go_wp2
      go_ret2
      refine ⟨ret_eq ?_, nq, rfl⟩
      rw [HA.out]
      rfl
    · have HA : Hid (Pl.A0 s.data.toList (k + 1) (Pl.vst x s[k] k)) := Pl.a0_next hat hk hks' hc
      have hin := Pl.a0_in HA.out HV.out
      rw [HL.out] at hin
      have hci : ¬ (s[k].toNat : Int) < 128 := fun h => hc ((Pl.lt_iff _).1 h)
      obtain ⟨hin1, hin2⟩ := hin
      clear hat hc
      go_wp2
      go_round
      case rel => exact ⟨k + 1, Pl.vst x s[k] k, hin1, hin2, by go_num, rfl, HA.out⟩
      case measure => simp [intOf]; omega
end Go.Proofs.Qxb6619857a
