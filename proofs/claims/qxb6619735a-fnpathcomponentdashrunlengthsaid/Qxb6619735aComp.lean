import Derived.Test.Qxb6619735aChars
namespace Go.Proofs.Qxb6619735a
open Go.RowKit

namespace Pl
theorem b_ne {c d : UInt8} (h : c ≠ d) : ((c.toNat : Int) == (d.toNat : Int)) = false := by
  rw [beq_eq_false_iff_ne]; intro e; exact h (UInt8.toNat_inj.1 (by omega))
theorem b_eq {c d : UInt8} (h : c = d) : ((c.toNat : Int) == (d.toNat : Int)) = true := by
  rw [h]; exact beq_self_eq_true _

section
variable {l : List UInt8} {k j : Nat}
def At (l : List UInt8) (k j : Nat) : Prop := acc l = accq (if j = k then 0 else 1) (l.drop j)
theorem at_start (h : acc l = accq 0 (l.drop k)) : At l k k := by unfold At; rw [if_pos rfl]; exact h
theorem at_step (h : At l k j) (hkj : k ≤ j) (hj : j < l.length) (ha : al l[j] = true) : At l k (j + 1) := by
  unfold At at *
  rw [h, accq_at _ _ _ hj, st_al _ _ (by split <;> omega) ha, if_neg (by omega)]
theorem at_none (h : At l k k) (ha : ∀ hj : k < l.length, al l[k] = false) : acc l = false := by
  unfold At at h
  rw [h, if_pos rfl]
  by_cases hj : k < l.length
  · rw [accq_at _ _ _ hj, st_nal0 _ (ha hj), accq_dead]
  · rw [accq_end _ _ _ (by omega)]; rfl
theorem at_end (h : At l k j) (hkj : j ≠ k) (hj : l.length ≤ j) : acc l = true := by
  unfold At at h
  rw [h, if_neg hkj, accq_end _ _ _ hj]; rfl
theorem at_joint (h : At l k j) (hkj : j ≠ k) (hj : j < l.length) (ha : al l[j] = false) : acc l = accq (if l[j] = 46 then 0 else if l[j] = 95 then 2 else if l[j] = 45 then 3 else 4) (l.drop (j + 1)) := by
  unfold At at h
  rw [h, if_neg hkj, accq_at _ _ _ hj, st_nal1 _ ha]
theorem at_dot (h : At l k j) (hkj : j ≠ k) (hj : j < l.length) (ha : al l[j] = false) (hc : l[j] = 46) : acc l = accq 0 (l.drop (j + 1)) := by
  rw [at_joint h hkj hj ha, if_pos hc]
theorem at_us (h : At l k j) (hkj : j ≠ k) (hj : j < l.length) (ha : al l[j] = false) (hc : l[j] = 95) : acc l = accq 2 (l.drop (j + 1)) := by
  rw [at_joint h hkj hj ha, hc]; rfl
theorem at_us1 (h : At l k j) (hkj : j ≠ k) (hj : j < l.length) (ha : al l[j] = false) (hc : l[j] = 95) (hn : ∀ h : j + 1 < l.length, l[j + 1] ≠ 95) : acc l = accq 0 (l.drop (j + 1)) := by
  rw [at_us h hkj hj ha hc, accq_2 _ _ hn]
theorem at_us2 (h : At l k j) (hkj : j ≠ k) (hj : j < l.length) (ha : al l[j] = false) (hc : l[j] = 95) (hj1 : j + 1 < l.length) (hn : l[j + 1] = 95) : acc l = accq 0 (l.drop (j + 1 + 1)) := by
  rw [at_us h hkj hj ha hc, accq_at _ _ _ hj1, hn]; rfl
theorem at_other (h : At l k j) (hkj : j ≠ k) (hj : j < l.length) (ha : al l[j] = false) (h1 : l[j] ≠ 46) (h2 : l[j] ≠ 95) (h3 : l[j] ≠ 45) : acc l = false := by
  rw [at_joint h hkj hj ha, if_neg h1, if_neg h2, if_neg h3, accq_dead]
/-- in the dashes that begin at j -/
def Da (l : List UInt8) (j m : Nat) : Prop := acc l = accq (if m = j then 1 else 3) (l.drop m)
theorem da_start (h : At l k j) (hkj : j ≠ k) : Da l j j := by
  unfold Da At at *
  rw [if_neg hkj] at h
  rw [if_pos rfl]; exact h
theorem da_step {m : Nat} (h : Da l j m) (hjm : j ≤ m) (hm : m < l.length) (hc : l[m] = 45) : Da l j (m + 1) := by
  unfold Da at *
  rw [h, accq_at _ _ _ hm, hc, if_neg (by omega : ¬ m + 1 = j)]
  split <;> rfl
theorem da_end {m : Nat} (h : Da l j m) (hjm : m ≠ j) (hc : ∀ hm : m < l.length, l[m] ≠ 45) : acc l = accq 0 (l.drop m) := by
  unfold Da at h
  rw [h, if_neg hjm, accq_3 _ _ hc]
end
end Pl

set_option maxHeartbeats 1000000 in
theorem comp_any (s : ByteArray) (w : World) (hs : s.size ≤ maxLen) :
    Calls Try.prog 13 #[.string s] w fun e w' => e = .returned (.bool (Pl.acc s.data.toList)) ∧ w' = w := by
  unfold maxLen at hs
  go_enter Try.func13, Try.ntmps13
  go_wp2
  go_loop [3] (fun i => ∃ k : Nat, k ≤ s.size ∧ i = .int .i64 k ∧ Pl.acc s.data.toList = Pl.accq 0 (s.data.toList.drop k)) (fun i => s.size - (intOf i).toNat)
  case atStart => exact ⟨0, Nat.zero_le _, rfl, rfl⟩
  case round =>
    obtain ⟨k, hk, rfl, ha⟩ := hrel
    have HA : Hid (Pl.acc s.data.toList = Pl.accq 0 (s.data.toList.drop k)) := ha
    clear ha
    go_wp2
    go_loop [3] (fun i => ∃ j : Nat, k ≤ j ∧ j ≤ s.size ∧ i = .int .i64 j ∧ Pl.At s.data.toList k j) (fun i => s.size - (intOf i).toNat)
    case atStart => exact ⟨k, Nat.le_refl _, hk, rfl, Pl.at_start HA.out⟩
    case round =>
      obtain ⟨j, hkj, hj, rfl, hat⟩ := hrel
      clear HA
      by_cases hlt : j < s.size
      · have hlt' : j < s.data.toList.length := by simpa using hlt
        by_cases hc : alI (s[j].toNat : Int) = true
        · go_wp2_with (go_at_call 16; refine (lod_any _ _).mono ?_; rintro e w' ⟨rfl, rfl⟩)
          go_round
          case rel => exact ⟨j + 1, by omega, by omega, by go_num, Pl.at_step hat hkj hlt' (by rw [← alI_al]; exact hc)⟩
          case measure => simp [intOf]; omega
        · have hc' : alI (s[j].toNat : Int) = false := by simpa using hc
          have hna : Pl.al s.data.toList[j] = false := by rw [← alI_al]; exact hc'
          have HN : Hid (Pl.al s.data.toList[j] = false) := hna
          clear hc hna
          by_cases hjk : j = k
          · have e1 : ((j : Int) == (k : Int)) = true := by rw [hjk]; exact beq_self_eq_true _
            have HJ : Hid (j = k) := hjk
            clear hjk
            go_wp2_with (go_at_call 16; refine (lod_any _ _).mono ?_; rintro e w' ⟨rfl, rfl⟩)
            go_ret
            refine ⟨ret_bool ?_, rfl⟩
            obtain rfl := HJ.out
            exact (Pl.at_none hat (fun _ => HN.out)).symm
          · have e1 : ((j : Int) == (k : Int)) = false := by rw [beq_eq_false_iff_ne]; omega
            have e2 : ((j : Int) == (s.size : Int)) = false := by rw [beq_eq_false_iff_ne]; omega
            by_cases c1 : s[j] = 46
            · have f1 : ((s[j].toNat : Int) == 46) = true := Pl.b_eq c1
              have H1 : Hid (Pl.acc s.data.toList = Pl.accq 0 (s.data.toList.drop (j + 1))) := Pl.at_dot hat hjk hlt' HN.out c1
              clear c1 hat HN
              go_wp2_with (go_at_call 16; refine (lod_any _ _).mono ?_; rintro e w' ⟨rfl, rfl⟩)
              go_round
              case rel => exact ⟨j + 1, by omega, by go_num, H1.out⟩
              case measure => simp [intOf]; omega
            have f1 : ((s[j].toNat : Int) == 46) = false := Pl.b_ne c1
            by_cases c2 : s[j] = 95
            · have f2 : ((s[j].toNat : Int) == 95) = true := Pl.b_eq c2
              by_cases hj1 : j + 1 < s.size
              · by_cases c3 : s[j + 1] = 95
                · have f3 : ((s[j + 1].toNat : Int) == 95) = true := Pl.b_eq c3
                  have H1 : Hid (Pl.acc s.data.toList = Pl.accq 0 (s.data.toList.drop (j + 1 + 1))) := Pl.at_us2 hat hjk hlt' HN.out c2 (by simpa using hj1) c3
                  clear c1 c2 c3 hat HN
                  go_wp2_with (go_at_call 16; refine (lod_any _ _).mono ?_; rintro e w' ⟨rfl, rfl⟩)
                  go_round
                  case rel => exact ⟨j + 1 + 1, by omega, by go_num, H1.out⟩
                  case measure => simp [intOf]; omega
                · have f3 : ((s[j + 1].toNat : Int) == 95) = false := Pl.b_ne c3
                  have H1 : Hid (Pl.acc s.data.toList = Pl.accq 0 (s.data.toList.drop (j + 1))) := Pl.at_us1 hat hjk hlt' HN.out c2 (fun _ => c3)
                  clear c1 c2 c3 hat HN
                  go_wp2_with (go_at_call 16; refine (lod_any _ _).mono ?_; rintro e w' ⟨rfl, rfl⟩)
                  go_round
                  case rel => exact ⟨j + 1, by omega, by go_num, H1.out⟩
                  case measure => simp [intOf]; omega
              · have H1 : Hid (Pl.acc s.data.toList = Pl.accq 0 (s.data.toList.drop (j + 1))) := Pl.at_us1 hat hjk hlt' HN.out c2 (fun h => absurd (by simpa using h) hj1)
                clear c1 c2 hat HN
                go_wp2_with (go_at_call 16; refine (lod_any _ _).mono ?_; rintro e w' ⟨rfl, rfl⟩)
                go_round
                case rel => exact ⟨j + 1, by omega, by go_num, H1.out⟩
                case measure => simp [intOf]; omega
            have f2 : ((s[j].toNat : Int) == 95) = false := Pl.b_ne c2
            by_cases c3 : s[j] = 45
            · have f3 : ((s[j].toNat : Int) == 45) = true := Pl.b_eq c3
              have HD : Hid (Pl.Da s.data.toList j j) := Pl.da_start hat hjk
              have HC : Hid (s.data.toList[j] = 45) := c3
              clear c1 c2 c3 hat HN
              go_wp2_with (go_at_call 16; refine (lod_any _ _).mono ?_; rintro e w' ⟨rfl, rfl⟩)
              go_loop [3] (fun i => ∃ m : Nat, j ≤ m ∧ m ≤ s.size ∧ i = .int .i64 m ∧ Pl.Da s.data.toList j m) (fun i => s.size - (intOf i).toNat)
              case atStart => exact ⟨j, Nat.le_refl _, hj, rfl, HD.out⟩
              case round =>
                obtain ⟨m, hjm, hm, rfl, hda⟩ := hrel
                by_cases hml : m < s.size
                · by_cases c4 : s[m] = 45
                  · have f4 : ((s[m].toNat : Int) == 45) = true := Pl.b_eq c4
                    have H1 : Hid (Pl.Da s.data.toList j (m + 1)) := Pl.da_step hda hjm (by simpa using hml) c4
                    clear c4 hda HD
                    go_wp2
                    go_round
                    case rel => exact ⟨m + 1, by omega, by omega, by go_num, H1.out⟩
                    case measure => simp [intOf]; omega
                  · have f4 : ((s[m].toNat : Int) == 45) = false := Pl.b_ne c4
                    have hmj : m ≠ j := fun e => c4 (by have := HC.out; subst e; exact this)
                    have H1 : Hid (Pl.acc s.data.toList = Pl.accq 0 (s.data.toList.drop m)) := Pl.da_end hda hmj (fun _ => c4)
                    clear c4 hda HD
                    go_wp2
                    go_round
                    case rel => exact ⟨m, by omega, by go_num, H1.out⟩
                    case measure => simp [intOf]; omega
                · have hmj : m ≠ j := by omega
                  have H1 : Hid (Pl.acc s.data.toList = Pl.accq 0 (s.data.toList.drop m)) := Pl.da_end hda hmj (fun h => absurd (by simpa using h) hml)
                  clear hda HD
                  go_wp2
                  go_round
                  case rel => exact ⟨m, by omega, by go_num, H1.out⟩
                  case measure => simp [intOf]; omega
            · have f3 : ((s[j].toNat : Int) == 45) = false := Pl.b_ne c3
              have H1 : Hid (Pl.acc s.data.toList = false) := Pl.at_other hat hjk hlt' HN.out c1 c2 c3
              clear c1 c2 c3 hat HN
              go_wp2_with (go_at_call 16; refine (lod_any _ _).mono ?_; rintro e w' ⟨rfl, rfl⟩)
              go_ret
              exact ⟨ret_bool H1.out.symm, rfl⟩
      · by_cases hjk : j = k
        · have e1 : ((j : Int) == (k : Int)) = true := by rw [hjk]; exact beq_self_eq_true _
          have HJ : Hid (j = k) := hjk
          clear hjk
          go_wp2
          go_ret
          refine ⟨ret_bool ?_, rfl⟩
          obtain rfl := HJ.out
          exact (Pl.at_none hat (fun h => absurd (by simpa using h) hlt)).symm
        · have e1 : ((j : Int) == (k : Int)) = false := by rw [beq_eq_false_iff_ne]; omega
          have e2 : ((j : Int) == (s.size : Int)) = true := by rw [beq_iff_eq]; omega
          go_wp2
          go_ret
          exact ⟨ret_bool (Pl.at_end hat hjk (by simp; omega)).symm, rfl⟩

theorem zz_any (s : ByteArray) (w : World) (hs : s.size ≤ maxLen) :
    Calls Try.prog 7 #[.string s] w fun e w' => e = .returned (.bool (Pl.acc s.data.toList)) ∧ w' = w := by
  go_enter Try.func7, Try.ntmps7
  go_wp2_with (go_at_call 13; refine (comp_any _ _ hs).mono ?_; rintro e w' ⟨rfl, rfl⟩)
  go_ret
  exact ⟨rfl, rfl⟩
end Go.Proofs.Qxb6619735a
