import Derived.Test.Qxb6619735aComp
namespace Go.Proofs.Qxb6619735a
open Go.RowKit

namespace Pl
theorem n_ne {c d : UInt8} (h : c ≠ d) : ((c.toNat : Int) != (d.toNat : Int)) = true := by rw [bne, b_ne h]; rfl
theorem n_eq {c d : UInt8} (h : c = d) : ((c.toNat : Int) != (d.toNat : Int)) = false := by rw [bne, b_eq h]; rfl
/-- the bytes from i up to j -/
def seg (l : List UInt8) (i j : Nat) : List UInt8 := (l.drop i).take (j - i)
section
variable {l : List UInt8} {i j : Nat}
theorem seg_len (hj : j ≤ l.length) : (seg l i j).length = j - i := by simp [seg]; omega
theorem seg_at (hj : j ≤ l.length) (t : Nat) (ht : t < (seg l i j).length) : (seg l i j)[t] = l[i + t]'(by rw [seg_len hj] at ht; omega) := by
  simp [seg]
theorem seg_one (h : i < l.length) : seg l i (i + 1) = [l[i]] := by
  unfold seg; rw [drop_at l i h, show i + 1 - i = 0 + 1 from by omega, List.take_succ_cons, List.take_zero]
theorem seg_two (h : i + 1 < l.length) : seg l i (i + 2) = [l[i], l[i + 1]] := by
  unfold seg; rw [drop_at l i (by omega), drop_at l (i + 1) h, show i + 2 - i = 0 + 1 + 1 from by omega, List.take_succ_cons, List.take_succ_cons, List.take_zero]
theorem sep_all (hij : i < j) (hj : j ≤ l.length) (h : ∀ t (ht : t < l.length), i ≤ t → t < j → l[t] = 45) : sepL (seg l i j) = true := by
  have h1 : (seg l i j).all (· == 45) = true := by
    rw [List.all_eq_true]
    intro c hc
    obtain ⟨t, ht, rfl⟩ := List.mem_iff_getElem.1 hc
    have hl := seg_len (i := i) hj
    rw [seg_at hj t ht, h (i + t) (by omega) (by omega) (by omega)]; rfl
  have h2 : (seg l i j).isEmpty = false := by
    rw [List.isEmpty_eq_false_iff]; intro e
    have := seg_len (i := i) hj
    rw [e] at this; simp at this; omega
  unfold sepL; rw [h1, h2]; simp
def Odd (m : List UInt8) : Prop := m ≠ [46] ∧ m ≠ [95] ∧ m ≠ [95, 95]
theorem sep_no (hj : j ≤ l.length) (ho : Odd (seg l i j)) (t : Nat) (ht : t < l.length) (h1 : i ≤ t) (h2 : t < j) (hc : l[t] ≠ 45) : sepL (seg l i j) = false := by
  have hl := seg_len (i := i) hj
  have : (seg l i j).all (· == 45) = false := by
    rw [List.all_eq_false]
    refine ⟨l[t], List.mem_iff_getElem.2 ⟨t - i, by omega, ?_⟩, by simpa using hc⟩
    rw [seg_at hj _ (by omega)]; congr 1; omega
  unfold sepL; rw [this]
  simp [ho.1, ho.2.1, ho.2.2]
theorem all_snoc {k : Nat} (h : ∀ t (ht : t < l.length), i ≤ t → t < k → l[t] = 45) {hk : k < l.length} (hc : l[k] = 45) : ∀ t (ht : t < l.length), i ≤ t → t < k + 1 → l[t] = 45 := by
  intro t ht h1 h2
  by_cases e : t = k
  · subst e; exact hc
  · exact h t ht h1 (by omega)
end
end Pl

set_option maxHeartbeats 1000000 in
theorem sep_any (s : ByteArray) (i j : Nat) (w : World) (hs : s.size ≤ maxLen) (hij : i < j) (hj : j ≤ s.size) :
    Calls Try.prog 15 #[.string s, .int .i64 i, .int .i64 j] w fun e w' => e = .returned (.bool (Pl.sepL (Pl.seg s.data.toList i j))) ∧ w' = w := by
  unfold maxLen at hs
  have hil : i < s.size := by omega
  have hil' : i < s.data.toList.length := by simpa using hil
  have hjl' : j ≤ s.data.toList.length := by simpa using hj
  have hpos : (0 : Int) < (j : Int) - (i : Int) := by omega
  -- what the loop comes to
  by_cases n1 : j = i + 1
  · have e1 : ((j : Int) - (i : Int) == 1) = true := by rw [beq_iff_eq]; omega
    have e2 : ((j : Int) - (i : Int) == 2) = false := by rw [beq_eq_false_iff_ne]; omega
    have hseg : Pl.seg s.data.toList i j = [s[i]] := by rw [n1]; exact Pl.seg_one hil'
    by_cases c1 : s[i] = 46
    · have f1 : ((s[i].toNat : Int) == 46) = true := Pl.b_eq c1
      have HR : Hid (Pl.sepL (Pl.seg s.data.toList i j) = true) := by show Pl.sepL _ = true; rw [hseg, c1]; decide
      clear hseg n1 c1
      go_enter Try.func15, Try.ntmps15
      go_wp2
      go_ret
      exact ⟨ret_bool HR.out.symm, rfl⟩
    have f1 : ((s[i].toNat : Int) == 46) = false := Pl.b_ne c1
    by_cases c2 : s[i] = 95
    · have f2 : ((s[i].toNat : Int) == 95) = true := Pl.b_eq c2
      have HR : Hid (Pl.sepL (Pl.seg s.data.toList i j) = true) := by show Pl.sepL _ = true; rw [hseg, c2]; decide
      clear hseg n1 c1 c2
      go_enter Try.func15, Try.ntmps15
      go_wp2
      go_ret
      exact ⟨ret_bool HR.out.symm, rfl⟩
    have f2 : ((s[i].toNat : Int) == 95) = false := Pl.b_ne c2
    by_cases c3 : s[i] = 45
    · have f3 : ((s[i].toNat : Int) == 45) = true := Pl.b_eq c3
      have HR : Hid (Pl.sepL (Pl.seg s.data.toList i j) = true) := by show Pl.sepL _ = true; rw [hseg, c3]; decide
      clear hseg n1 c1 c2 c3
      go_enter Try.func15, Try.ntmps15
      go_wp2
      go_ret
      exact ⟨ret_bool HR.out.symm, rfl⟩
    have f3 : ((s[i].toNat : Int) == 45) = false := Pl.b_ne c3
    have HO : Hid (Pl.Odd (Pl.seg s.data.toList i j)) := by
      show Pl.Odd _
      rw [hseg]; exact ⟨by simp [c1], by simp [c2], by simp⟩
    clear hseg n1 c1 c2 c3
    go_enter Try.func15, Try.ntmps15
    go_wp2
    go_loop [8] (fun v => ∃ k : Nat, i ≤ k ∧ k ≤ j ∧ v = .int .i64 k ∧ ∀ t (ht : t < s.data.toList.length), i ≤ t → t < k → s.data.toList[t] = 45) (fun v => j - (intOf v).toNat)
    case atStart => exact ⟨i, Nat.le_refl _, by omega, rfl, fun t _ h1 h2 => by omega⟩
    case round =>
      obtain ⟨k, hik, hkj, rfl, hall⟩ := hrel
      have HL : Hid (∀ t (ht : t < s.data.toList.length), i ≤ t → t < k → s.data.toList[t] = 45) := hall
      clear hall
      by_cases hlt : k < j
      · have hks : k < s.size := by omega
        by_cases d1 : s[k] = 45
        · have g1 : ((s[k].toNat : Int) != 45) = false := Pl.n_eq d1
          have HN : Hid (∀ t (ht : t < s.data.toList.length), i ≤ t → t < k + 1 → s.data.toList[t] = 45) := Pl.all_snoc HL.out d1
          clear d1 HL
          go_wp2
          go_round
          case rel => exact ⟨k + 1, by omega, by omega, by go_num, HN.out⟩
          case measure => simp [intOf]; omega
        · have g1 : ((s[k].toNat : Int) != 45) = true := Pl.n_ne d1
          have HR : Hid (Pl.sepL (Pl.seg s.data.toList i j) = false) := Pl.sep_no hjl' HO.out k (by simpa using hks) hik hlt d1
          clear d1 HL
          go_wp2
          go_ret
          exact ⟨ret_bool HR.out.symm, rfl⟩
      · have HR : Hid (Pl.sepL (Pl.seg s.data.toList i j) = true) := Pl.sep_all hij hjl' (fun t ht h1 h2 => HL.out t ht h1 (by omega))
        have hd : decide ((0 : Int) < (j : Int) - (i : Int)) = true := decide_eq_true hpos
        go_wp2
        go_ret
        exact ⟨ret_bool (by rw [HR.out]; try exact hd), rfl⟩
  · have e1 : ((j : Int) - (i : Int) == 1) = false := by rw [beq_eq_false_iff_ne]; omega
    by_cases n2 : j = i + 2
    · have e2 : ((j : Int) - (i : Int) == 2) = true := by rw [beq_iff_eq]; omega
      have hi1 : i + 1 < s.size := by omega
      have hseg : Pl.seg s.data.toList i j = [s[i], s[i + 1]] := by rw [n2]; exact Pl.seg_two (by simpa using hi1)
      by_cases c1 : s[i] = 95
      · have f1 : ((s[i].toNat : Int) == 95) = true := Pl.b_eq c1
        by_cases c2 : s[i + 1] = 95
        · have f2 : ((s[i + 1].toNat : Int) == 95) = true := Pl.b_eq c2
          have HR : Hid (Pl.sepL (Pl.seg s.data.toList i j) = true) := by show Pl.sepL _ = true; rw [hseg, c1, c2]; decide
          clear hseg n1 n2 c1 c2
          go_enter Try.func15, Try.ntmps15
          go_wp2
          go_ret
          exact ⟨ret_bool HR.out.symm, rfl⟩
        · have f2 : ((s[i + 1].toNat : Int) == 95) = false := Pl.b_ne c2
          have HO : Hid (Pl.Odd (Pl.seg s.data.toList i j)) := by
            show Pl.Odd _
            rw [hseg]; exact ⟨by simp, by simp, by simp [c2]⟩
          clear hseg n1 n2 c1 c2
          go_enter Try.func15, Try.ntmps15
          go_wp2
          go_loop [8] (fun v => ∃ k : Nat, i ≤ k ∧ k ≤ j ∧ v = .int .i64 k ∧ ∀ t (ht : t < s.data.toList.length), i ≤ t → t < k → s.data.toList[t] = 45) (fun v => j - (intOf v).toNat)
          case atStart => exact ⟨i, Nat.le_refl _, by omega, rfl, fun t _ h1 h2 => by omega⟩
          case round =>
            obtain ⟨k, hik, hkj, rfl, hall⟩ := hrel
            have HL : Hid (∀ t (ht : t < s.data.toList.length), i ≤ t → t < k → s.data.toList[t] = 45) := hall
            clear hall
            by_cases hlt : k < j
            · have hks : k < s.size := by omega
              by_cases d1 : s[k] = 45
              · have g1 : ((s[k].toNat : Int) != 45) = false := Pl.n_eq d1
                have HN : Hid (∀ t (ht : t < s.data.toList.length), i ≤ t → t < k + 1 → s.data.toList[t] = 45) := Pl.all_snoc HL.out d1
                clear d1 HL
                go_wp2
                go_round
                case rel => exact ⟨k + 1, by omega, by omega, by go_num, HN.out⟩
                case measure => simp [intOf]; omega
              · have g1 : ((s[k].toNat : Int) != 45) = true := Pl.n_ne d1
                have HR : Hid (Pl.sepL (Pl.seg s.data.toList i j) = false) := Pl.sep_no hjl' HO.out k (by simpa using hks) hik hlt d1
                clear d1 HL
                go_wp2
                go_ret
                exact ⟨ret_bool HR.out.symm, rfl⟩
            · have HR : Hid (Pl.sepL (Pl.seg s.data.toList i j) = true) := Pl.sep_all hij hjl' (fun t ht h1 h2 => HL.out t ht h1 (by omega))
              have hd : decide ((0 : Int) < (j : Int) - (i : Int)) = true := decide_eq_true hpos
              go_wp2
              go_ret
              exact ⟨ret_bool (by rw [HR.out]; try exact hd), rfl⟩
      · have f1 : ((s[i].toNat : Int) == 95) = false := Pl.b_ne c1
        have HO : Hid (Pl.Odd (Pl.seg s.data.toList i j)) := by
          show Pl.Odd _
          rw [hseg]; exact ⟨by simp, by simp, by simp [c1]⟩
        clear hseg n1 n2 c1
        go_enter Try.func15, Try.ntmps15
        go_wp2
        go_loop [8] (fun v => ∃ k : Nat, i ≤ k ∧ k ≤ j ∧ v = .int .i64 k ∧ ∀ t (ht : t < s.data.toList.length), i ≤ t → t < k → s.data.toList[t] = 45) (fun v => j - (intOf v).toNat)
        case atStart => exact ⟨i, Nat.le_refl _, by omega, rfl, fun t _ h1 h2 => by omega⟩
        case round =>
          obtain ⟨k, hik, hkj, rfl, hall⟩ := hrel
          have HL : Hid (∀ t (ht : t < s.data.toList.length), i ≤ t → t < k → s.data.toList[t] = 45) := hall
          clear hall
          by_cases hlt : k < j
          · have hks : k < s.size := by omega
            by_cases d1 : s[k] = 45
            · have g1 : ((s[k].toNat : Int) != 45) = false := Pl.n_eq d1
              have HN : Hid (∀ t (ht : t < s.data.toList.length), i ≤ t → t < k + 1 → s.data.toList[t] = 45) := Pl.all_snoc HL.out d1
              clear d1 HL
              go_wp2
              go_round
              case rel => exact ⟨k + 1, by omega, by omega, by go_num, HN.out⟩
              case measure => simp [intOf]; omega
            · have g1 : ((s[k].toNat : Int) != 45) = true := Pl.n_ne d1
              have HR : Hid (Pl.sepL (Pl.seg s.data.toList i j) = false) := Pl.sep_no hjl' HO.out k (by simpa using hks) hik hlt d1
              clear d1 HL
              go_wp2
              go_ret
              exact ⟨ret_bool HR.out.symm, rfl⟩
          · have HR : Hid (Pl.sepL (Pl.seg s.data.toList i j) = true) := Pl.sep_all hij hjl' (fun t ht h1 h2 => HL.out t ht h1 (by omega))
            have hd : decide ((0 : Int) < (j : Int) - (i : Int)) = true := decide_eq_true hpos
            go_wp2
            go_ret
            exact ⟨ret_bool (by rw [HR.out]; try exact hd), rfl⟩
    · have e2 : ((j : Int) - (i : Int) == 2) = false := by rw [beq_eq_false_iff_ne]; omega
      have HO : Hid (Pl.Odd (Pl.seg s.data.toList i j)) := by
        have hl := Pl.seg_len (i := i) hjl'
        exact ⟨fun h => by rw [h] at hl; simp at hl; omega, fun h => by rw [h] at hl; simp at hl; omega, fun h => by rw [h] at hl; simp at hl; omega⟩
      clear n1 n2
      go_enter Try.func15, Try.ntmps15
      go_wp2
      go_loop [8] (fun v => ∃ k : Nat, i ≤ k ∧ k ≤ j ∧ v = .int .i64 k ∧ ∀ t (ht : t < s.data.toList.length), i ≤ t → t < k → s.data.toList[t] = 45) (fun v => j - (intOf v).toNat)
      case atStart => exact ⟨i, Nat.le_refl _, by omega, rfl, fun t _ h1 h2 => by omega⟩
      case round =>
        obtain ⟨k, hik, hkj, rfl, hall⟩ := hrel
        have HL : Hid (∀ t (ht : t < s.data.toList.length), i ≤ t → t < k → s.data.toList[t] = 45) := hall
        clear hall
        by_cases hlt : k < j
        · have hks : k < s.size := by omega
          by_cases d1 : s[k] = 45
          · have g1 : ((s[k].toNat : Int) != 45) = false := Pl.n_eq d1
            have HN : Hid (∀ t (ht : t < s.data.toList.length), i ≤ t → t < k + 1 → s.data.toList[t] = 45) := Pl.all_snoc HL.out d1
            clear d1 HL
            go_wp2
            go_round
            case rel => exact ⟨k + 1, by omega, by omega, by go_num, HN.out⟩
            case measure => simp [intOf]; omega
          · have g1 : ((s[k].toNat : Int) != 45) = true := Pl.n_ne d1
            have HR : Hid (Pl.sepL (Pl.seg s.data.toList i j) = false) := Pl.sep_no hjl' HO.out k (by simpa using hks) hik hlt d1
            clear d1 HL
            go_wp2
            go_ret
            exact ⟨ret_bool HR.out.symm, rfl⟩
        · have HR : Hid (Pl.sepL (Pl.seg s.data.toList i j) = true) := Pl.sep_all hij hjl' (fun t ht h1 h2 => HL.out t ht h1 (by omega))
          have hd : decide ((0 : Int) < (j : Int) - (i : Int)) = true := decide_eq_true hpos
          go_wp2
          go_ret
          exact ⟨ret_bool (by rw [HR.out]; try exact hd), rfl⟩
end Go.Proofs.Qxb6619735a
